import Derived.Test.Qxb6603532aDoorTrie
import Derived.Test.Qxb6603532aDoorRows
import Derived.WalkLawsBesides
namespace Go.Proofs.Qxb6603532aDoor.Count
open Go.RowKit Go.Proofs.Qxb6603532aDoor.Trie
set_option linter.unusedVariables false

/-- The nodes of the first k kids. -/
def part {n : Nat} (f : Nat → T n) : Nat → Nat
  | 0 => 0
  | k + 1 => part f k + T.size n (f k)

theorem part_four {n : Nat} (f : Nat → T n) : T.size (n + 1) (T.node f) = 1 + part f 4 := by
  rw [T.size_node]; simp only [part]; omega

/-- What a count says of a trie: never more than one past the budget, and exact where it stays within. -/
def Cnt (s : Nat) (b c : Int) : Prop := 0 ≤ c ∧ c ≤ b + 1 ∧ (c ≤ b → c = s)

set_option maxHeartbeats 400000 in
theorem count_nil (l b : Int) (w : World) :
    Calls Tryd.prog 4 #[.pointer none, .int .i64 l, .int .i64 b] w fun e w' => e = .returned (.int .i64 0) ∧ w' = w := by
  go_enter Tryd.func4, Tryd.ntmps4
  go_wp2_with fail
  go_ret
  exact ⟨rfl, rfl⟩

set_option maxHeartbeats 400000 in
theorem count_leaf (a : Addr) (b : Int) (w : World) :
    Calls Tryd.prog 4 #[.pointer (some a), .int .i64 0, .int .i64 b] w fun e w' => e = .returned (.int .i64 1) ∧ w' = w := by
  go_enter Tryd.func4, Tryd.ntmps4
  go_wp2_with fail
  go_ret
  exact ⟨rfl, rfl⟩

set_option maxHeartbeats 400000 in
theorem count_any (n : Nat) : ∀ (u : Option Addr) (t : T n) (l b : Int) (kb : Bool) (lo : Nat) (w : World), Rep w kb lo n u t → l ≤ n → n ≤ l → n ≤ 65536 → 0 ≤ b → b ≤ 16384 →
    Calls Tryd.prog 4 #[.pointer u, .int .i64 l, .int .i64 b] w fun e w' => (∃ c : Int, e = .returned (.int .i64 c) ∧ Cnt (T.size n t) b c) ∧ w' = w := by
  induction n with
  | zero =>
    intro u t l b kb lo w hr hl1 hl2 hn hb0 hb
    rcases hr with ⟨rfl, rfl⟩ | ⟨bl, o, f, rfl, rfl, _, _, hl⟩
    · refine (count_nil _ b w).mono ?_
      rintro e w' ⟨rfl, rfl⟩
      exact ⟨⟨0, rfl, by unfold Cnt; rw [T.size_nil]; omega⟩, rfl⟩
    · obtain rfl : l = 0 := by omega
      refine (count_leaf _ b w).mono ?_
      rintro e w' ⟨rfl, rfl⟩
      exact ⟨⟨1, rfl, by unfold Cnt; rw [T.size_leaf]; omega⟩, rfl⟩
  | succ n ih =>
    intro u t l b kb lo w hr hl1 hl2 hn hb0 hb
    rcases hr with ⟨rfl, rfl⟩ | ⟨bl, o, f, U, rfl, rfl, _, _, hk⟩
    · refine (count_nil _ b w).mono ?_
      rintro e w' ⟨rfl, rfl⟩
      exact ⟨⟨0, rfl, by unfold Cnt; rw [T.size_nil]; omega⟩, rfl⟩
    · have ih' : Hid _ := ih
      clear ih
      have HK : Hid _ := hk
      clear hk
      have hle : decide (l ≤ 0) = false := by simp; omega
      go_enter Tryd.func4, Tryd.ntmps4
      go_wp2_with fail
      go_loop [7, 8] (fun c i => ∃ (k : Nat) (C : Int), k ≤ 4 ∧ i = .int .i64 k ∧ c = .int .i64 C ∧ 1 ≤ C ∧ C ≤ b + 1 ∧ Hid (C ≤ b → C = 1 + part f k)) (fun _ i => 4 - (intOf i).toNat)
      case atStart => exact ⟨0, 1, by omega, rfl, rfl, by omega, by omega, fun _ => rfl⟩
      case round =>
        obtain ⟨k, C, hk4, rfl, rfl, hC1, hCb, hC⟩ := hrel
        by_cases hlt : k < 4
        · by_cases hov : b < C
          · go_wp2_with fail
            go_ret
            exact ⟨⟨C, rfl, by unfold Cnt; omega⟩, rfl⟩
          · have hcell := (HK.out k hlt).1
            go_wp2_with (go_at_call 4; refine (ih'.out (U k) (f k) (l - 1) (b - C) kb lo _ (HK.out k hlt).2 (by omega) (by omega) (by omega) (by omega) (by omega)).mono ?_; rintro e w' ⟨⟨c, rfl, hc⟩, rfl⟩; have hc2 := hc.2.1; have hc1 := hc.1; have hC3 : Hid _ := hc; clear hc)
            go_round
            case rel => exact ⟨k + 1, C + c, by omega, by go_num, rfl, by omega, by omega, (fun h => by have h1 := hC3.out.2.2 (by omega); have h2 := hC.out (by omega); simp only [part]; omega)⟩
            case measure => simp [intOf]; omega
        · have h4 : k = 4 := by omega
          go_wp2_with fail
          go_ret
          exact ⟨⟨C, rfl, by unfold Cnt; rw [part_four]; have := hC.out; rw [h4] at this; omega⟩, rfl⟩
end Go.Proofs.Qxb6603532aDoor.Count
