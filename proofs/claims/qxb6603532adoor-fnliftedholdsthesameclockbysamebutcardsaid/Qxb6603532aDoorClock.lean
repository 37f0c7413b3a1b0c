import Derived.Test.Qxb6603532aDoorIn
namespace Go.Proofs.Qxb6603532aDoor.Clock
open Go.RowKit Go.Proofs.Qxb6603532aDoor.Trie
set_option linter.unusedVariables false

set_option maxHeartbeats 400000 in
theorem clock_any (n : Nat) (u : Option Addr) (t : T n) (l : Int) (kb : Bool) (lo : Nat) (w : World) (hr : Rep w kb lo n u t) (hl1 : l ≤ n) (hl2 : n ≤ l) (hn : n ≤ 65540) :
    Calls Tryd.prog 7 #[.pointer u, .int .i64 l] w fun e w' => (∃ u', e = .returned (.agg #[.pointer u', .int .i64 l]) ∧ Rep w' true w.heap.size n u' t) ∧ Below w.heap.size w w' := by
  go_enter Tryd.func7, Tryd.ntmps7
  go_wp2_with (go_at_call 11; refine (In.copy_any n u t l kb lo _ ?_ hl1 hl2 hn).mono ?_; (exact Rep.below ((Below.refl _ _).alloc (Nat.le_refl _) _) hr); rintro e w' ⟨⟨u', rfl, hr1⟩, hb1⟩; obtain ⟨q0, q1, q2, q3⟩ := new_two hb1; have HB : Hid _ := below_new hb1; have HR : Hid _ := hr1; clear hb1 hr1)
  refine bodyPost_ret (v := .agg #[.pointer u', .int .i64 l]) (by simp [results, Tryd.results7, go_sem, q0, q1]) rfl ⟨⟨u', rfl, ?_⟩, ?_⟩
  · exact Rep.low (Nat.le_succ _) _ _ _ (Rep.store (Nat.lt_succ_self _) (Rep.store (Nat.lt_succ_self _) (by have h := HR.out; simp only [World.size_alloc] at h; exact h)))
  · exact (HB.out.setCell (Nat.le_refl _) _).setCell (Nat.le_refl _) _

set_option maxHeartbeats 400000 in
theorem lifted_nil (l : Int) (w : World) (hl0 : 0 ≤ l) (hl : l ≤ 65540) :
    Calls Tryd.prog 12 #[.agg #[.pointer none, .int .i64 l]] w fun e w' => e = .returned (.agg #[.pointer none, .int .i64 (l + 1)]) ∧ Below w.heap.size w w' := by
  go_enter Tryd.func12, Tryd.ntmps12
  go_wp2_with fail
  exact bodyPost_ret (v := .agg #[.pointer none, .int .i64 (l + 1)]) (by simp [results, Tryd.results12, go_sem]) rfl ⟨rfl, ((Below.refl _ _).alloc (Nat.le_refl _) _).alloc (by simp) _⟩

set_option maxHeartbeats 400000 in
theorem lifted_some (a : Addr) (l : Int) (w : World) (hl0 : 0 ≤ l) (hl : l ≤ 65540) :
    Calls Tryd.prog 12 #[.agg #[.pointer (some a), .int .i64 l]] w fun e w' =>
      (∃ b, e = .returned (.agg #[.pointer (some ⟨b, 0, none⟩), .int .i64 (l + 1)]) ∧ w.heap.size ≤ b ∧ Trie.Clean w' b ∧ w'.cell? ⟨b, 0, none⟩ = some (.pointer (some a)) ∧
        w'.cell? ⟨b, 1, none⟩ = some (.pointer none) ∧ w'.cell? ⟨b, 2, none⟩ = some (.pointer none) ∧ w'.cell? ⟨b, 3, none⟩ = some (.pointer none)) ∧ Below w.heap.size w w' := by
  go_enter Tryd.func12, Tryd.ntmps12
  go_wp2_with fail
  refine bodyPost_ret (v := .agg #[.pointer (some ⟨w.heap.size + 1 + 1, 0, none⟩), .int .i64 (l + 1)]) (by simp [results, Tryd.results12, go_sem]) rfl ⟨⟨w.heap.size + 1 + 1, rfl, by omega, Trie.Clean.new _ _ _ (by simp), ?_, ?_, ?_, ?_⟩, (((Below.refl _ _).alloc (Nat.le_refl _) _).alloc (by simp) _).alloc (by simp; omega) _⟩
  all_goals exact cell_new_at (by simp)

set_option maxHeartbeats 400000 in
theorem lifted_any (u : Option Addr) (l : Int) (w : World) (hl0 : 0 ≤ l) (hl : l ≤ 65540) :
    Calls Tryd.prog 12 #[.agg #[.pointer u, .int .i64 l]] w fun e w' => (∃ u', e = .returned (.agg #[.pointer u', .int .i64 (l + 1)]) ∧ Lift w w' u u') ∧ Below w.heap.size w w' := by
  cases u with
  | none =>
    refine (lifted_nil l w hl0 hl).mono ?_
    rintro e w' ⟨rfl, hb⟩
    exact ⟨⟨none, rfl, Or.inl ⟨rfl, rfl⟩⟩, hb⟩
  | some a =>
    refine (lifted_some a l w hl0 hl).mono ?_
    rintro e w' ⟨⟨b, rfl, hle, hcl, c0, c1, c2, c3⟩, hb⟩
    exact ⟨⟨_, rfl, Or.inr ⟨a, b, rfl, rfl, hle, hcl, c0, c1, c2, c3⟩⟩, hb⟩

set_option maxHeartbeats 400000 in
theorem zzLifted_any (u : Option Addr) (l : Int) (w : World) (hl0 : 0 ≤ l) (hl : l ≤ 65540) :
    Calls Tryd.prog 8 #[.agg #[.pointer u, .int .i64 l]] w fun e w' => (∃ u', e = .returned (.agg #[.pointer u', .int .i64 (l + 1)]) ∧ Lift w w' u u') ∧ Below w.heap.size w w' := by
  go_enter Tryd.func8, Tryd.ntmps8
  go_wp2_with (go_at_call 12; refine (lifted_any u l _ hl0 hl).mono ?_; rintro e w' ⟨⟨u', rfl, hL⟩, hb1⟩; obtain ⟨q0, q1, q2, q3⟩ := new_two hb1; simp only [World.size_alloc] at q0 q1 q2 q3; have HB : Hid _ := below_new (below_new hb1); have HL : Hid _ := hL; clear hb1 hL)
  refine bodyPost_ret (v := .agg #[.pointer u', .int .i64 (l + 1)]) (by simp [results, Tryd.results8, go_sem, q0, q1]) rfl ⟨⟨u', rfl, ?_⟩, ?_⟩
  · exact Lift.carry HL.out (by simp; omega) (store_two_far (by simp)) (fun _ hc => (hc.store _ _).store _ _)
  · exact (HB.out.setCell (Nat.le_succ _) _).setCell (Nat.le_succ _) _

set_option maxHeartbeats 400000 in
theorem zzHeight_any (u : Option Addr) (l : Int) (w : World) :
    Calls Tryd.prog 9 #[.agg #[.pointer u, .int .i64 l]] w fun e w' => e = .returned (.int .i64 l) ∧ Below w.heap.size w w' := by
  go_enter Tryd.func9, Tryd.ntmps9
  go_wp2_with fail
  go_ret
  exact ⟨rfl, (Below.refl _ _).alloc (Nat.le_refl _) _⟩

end Go.Proofs.Qxb6603532aDoor.Clock
