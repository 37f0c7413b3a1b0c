import Derived.Test.Qxb6603532aIn
import Derived.Test.Qxb6603532aOut
namespace Go.Proofs.Qxb6603532a.Clock
open Go.RowKit Go.Proofs.Qxb6603532a.Trie
set_option linter.unusedVariables false

set_option maxHeartbeats 400000 in
theorem clock_any (n : Nat) (u : Option Addr) (t : T n) (l : Int) (lo : Nat) (w : World) (hr : Rep w lo n u t) (hl1 : l ≤ n) (hl2 : n ≤ l) (hn : n ≤ 65540) :
    Calls Try.prog 12 #[.pointer u, .int .i64 l] w fun e w' => (∃ u', e = .returned (.agg #[.pointer u', .int .i64 l]) ∧ Rep w' w.heap.size n u' t) ∧ Below w.heap.size w w' := by
  go_enter Try.func12, Try.ntmps12
  go_wp2_with (go_at_call 19; refine (In.copy_any n u t l lo _ ?_ hl1 hl2 hn).mono ?_; (exact Rep.below ((Below.refl _ _).alloc (Nat.le_refl _) _) hr); rintro e w' ⟨⟨u', rfl, hr1⟩, hb1⟩; obtain ⟨q0, q1, q2, q3⟩ := new_two hb1; have HB : Hid _ := below_new hb1; have HR : Hid _ := hr1; clear hb1 hr1)
  refine bodyPost_ret (v := .agg #[.pointer u', .int .i64 l]) (by simp [results, Try.results12, go_sem, q0, q1]) rfl ⟨⟨u', rfl, ?_⟩, ?_⟩
  · exact Rep.low (Nat.le_succ _) _ _ _ (Rep.store (Nat.lt_succ_self _) (Rep.store (Nat.lt_succ_self _) (by simpa using HR.out)))
  · exact (HB.out.setCell (Nat.le_refl _) _).setCell (Nat.le_refl _) _

set_option maxHeartbeats 400000 in
theorem lifted_nil (l : Int) (w : World) (hl0 : 0 ≤ l) (hl : l ≤ 65540) :
    Calls Try.prog 20 #[.agg #[.pointer none, .int .i64 l]] w fun e w' => e = .returned (.agg #[.pointer none, .int .i64 (l + 1)]) ∧ Below w.heap.size w w' := by
  go_enter Try.func20, Try.ntmps20
  go_wp2_with fail
  exact bodyPost_ret (v := .agg #[.pointer none, .int .i64 (l + 1)]) (by simp [results, Try.results20, go_sem]) rfl ⟨rfl, ((Below.refl _ _).alloc (Nat.le_refl _) _).alloc (by simp) _⟩

set_option maxHeartbeats 400000 in
theorem lifted_some (a : Addr) (l : Int) (w : World) (hl0 : 0 ≤ l) (hl : l ≤ 65540) :
    Calls Try.prog 20 #[.agg #[.pointer (some a), .int .i64 l]] w fun e w' =>
      (∃ b, e = .returned (.agg #[.pointer (some ⟨b, 0, none⟩), .int .i64 (l + 1)]) ∧ w.heap.size ≤ b ∧ w'.cell? ⟨b, 0, none⟩ = some (.pointer (some a)) ∧
        w'.cell? ⟨b, 1, none⟩ = some (.pointer none) ∧ w'.cell? ⟨b, 2, none⟩ = some (.pointer none) ∧ w'.cell? ⟨b, 3, none⟩ = some (.pointer none)) ∧ Below w.heap.size w w' := by
  go_enter Try.func20, Try.ntmps20
  go_wp2_with fail
  refine bodyPost_ret (v := .agg #[.pointer (some ⟨w.heap.size + 1 + 1, 0, none⟩), .int .i64 (l + 1)]) (by simp [results, Try.results20, go_sem]) rfl ⟨⟨w.heap.size + 1 + 1, rfl, by omega, ?_, ?_, ?_, ?_⟩, (((Below.refl _ _).alloc (Nat.le_refl _) _).alloc (by simp) _).alloc (by simp; omega) _⟩
  all_goals exact cell_new_at (by simp)

set_option maxHeartbeats 400000 in
theorem lifted_any (u : Option Addr) (l : Int) (w : World) (hl0 : 0 ≤ l) (hl : l ≤ 65540) :
    Calls Try.prog 20 #[.agg #[.pointer u, .int .i64 l]] w fun e w' => (∃ u', e = .returned (.agg #[.pointer u', .int .i64 (l + 1)]) ∧ Lift w w' u u') ∧ Below w.heap.size w w' := by
  cases u with
  | none =>
    refine (lifted_nil l w hl0 hl).mono ?_
    rintro e w' ⟨rfl, hb⟩
    exact ⟨⟨none, rfl, Or.inl ⟨rfl, rfl⟩⟩, hb⟩
  | some a =>
    refine (lifted_some a l w hl0 hl).mono ?_
    rintro e w' ⟨⟨b, rfl, hle, c0, c1, c2, c3⟩, hb⟩
    exact ⟨⟨_, rfl, Or.inr ⟨a, b, rfl, rfl, hle, c0, c1, c2, c3⟩⟩, hb⟩

set_option maxHeartbeats 400000 in
theorem zzLifted_any (u : Option Addr) (l : Int) (w : World) (hl0 : 0 ≤ l) (hl : l ≤ 65540) :
    Calls Try.prog 13 #[.agg #[.pointer u, .int .i64 l]] w fun e w' => (∃ u', e = .returned (.agg #[.pointer u', .int .i64 (l + 1)]) ∧ Lift w w' u u') ∧ Below w.heap.size w w' := by
  go_enter Try.func13, Try.ntmps13
  go_wp2_with (go_at_call 20; refine (lifted_any u l _ hl0 hl).mono ?_; rintro e w' ⟨⟨u', rfl, hL⟩, hb1⟩; obtain ⟨q0, q1, q2, q3⟩ := new_two hb1; simp only [World.size_alloc] at q0 q1 q2 q3; have HB : Hid _ := below_new (below_new hb1); have HL : Hid _ := hL; clear hb1 hL)
  refine bodyPost_ret (v := .agg #[.pointer u', .int .i64 (l + 1)]) (by simp [results, Try.results13, go_sem, q0, q1]) rfl ⟨⟨u', rfl, ?_⟩, ?_⟩
  · exact Lift.carry HL.out (by simp; omega) (store_two_far (by simp))
  · exact (HB.out.setCell (Nat.le_succ _) _).setCell (Nat.le_succ _) _

set_option maxHeartbeats 400000 in
theorem zzHeight_any (u : Option Addr) (l : Int) (w : World) :
    Calls Try.prog 14 #[.agg #[.pointer u, .int .i64 l]] w fun e w' => e = .returned (.int .i64 l) ∧ Below w.heap.size w w' := by
  go_enter Try.func14, Try.ntmps14
  go_wp2_with fail
  go_ret
  exact ⟨rfl, (Below.refl _ _).alloc (Nat.le_refl _) _⟩

set_option maxHeartbeats 400000 in
theorem zzRoot_any (n : Nat) (u : Option Addr) (t : T n) (l : Int) (lo : Nat) (w : World) (hr : Rep w lo n u t) (hl1 : l ≤ n) (hl2 : n ≤ l) (hn : n ≤ 65540) :
    Calls Try.prog 15 #[.agg #[.pointer u, .int .i64 l]] w fun e w' => (∃ u', e = .returned (.pointer u') ∧ Rep w' w.heap.size n u' t) ∧ Below w.heap.size w w' := by
  go_enter Try.func15, Try.ntmps15
  go_wp2_with (go_at_call 21; refine (Out.copy_any n u t l lo _ ?_ hl1 hl2 hn).mono ?_; (exact Rep.below ((Below.refl _ _).alloc (Nat.le_refl _) _) hr); rintro e w' ⟨⟨u', rfl, hr1⟩, hb1⟩; have HB : Hid _ := below_new hb1; have HR : Hid _ := hr1; clear hb1 hr1)
  go_ret
  exact ⟨⟨u', rfl, Rep.low (by simp) _ _ _ HR.out⟩, HB.out⟩
end Go.Proofs.Qxb6603532a.Clock
