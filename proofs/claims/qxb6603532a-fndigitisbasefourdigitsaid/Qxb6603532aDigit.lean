import Derived.Test.Qxb6603532aRows
import Derived.WalkKit
import Derived.ProofKit
import Derived.WalkLawsBesides
import Derived.Laws.BitsLemmas
import Derived.Laws.Shifts
namespace Go.Proofs.Qxb6603532a.Digit
open Go.RowKit
set_option linter.unusedVariables false

/-! ### the plain function: the level-th digit of a in base 4, by floor division -/
def dg (a l : Int) : Int := (a / 4 ^ l.toNat) % 4

theorem and3 (n : Int) : bits .and .i64 n 3 = n % 4 := by
  have h3 : (BitVec.ofInt 64 3).toNat = 2 ^ 2 - 1 := by decide
  have key : (BitVec.ofInt 64 n &&& BitVec.ofInt 64 3).toNat = (n % ((2 ^ 64 : Nat) : Int)).toNat % 2 ^ 2 := by
    rw [BitVec.toNat_and, BitVec.toNat_ofInt, h3, Nat.and_two_pow_sub_one_eq_mod]
  show IntKind.i64.wrap ((BitVec.ofInt 64 n &&& BitVec.ofInt 64 3).toNat : Nat) = n % 4
  rw [key, IntKind.wrap_i64]
  omega

theorem dg_bd (a l : Int) : 0 ≤ dg a l ∧ dg a l ≤ 3 := by unfold dg; omega

theorem pow_four (n : Nat) : (4 : Int) ^ n = 2 ^ (2 * n) := by
  rw [Int.pow_mul]; rfl

theorem div_far (a : Int) (h1 : -9223372036854775808 ≤ a) (h2 : a ≤ 9223372036854775807) (n : Nat) (hn : 64 ≤ n) : a / 2 ^ n = a / 2 ^ 64 := by
  have hp : (2 : Int) ^ 64 ≤ 2 ^ n := by
    have := Nat.pow_le_pow_right (n := 2) (by decide) hn
    exact_mod_cast this
  have h64 : (2 : Int) ^ 64 = 18446744073709551616 := by decide
  by_cases h : 0 ≤ a
  · rw [Int.ediv_eq_zero_of_lt h (by omega), Int.ediv_eq_zero_of_lt h (by omega)]
  · have e1 : a / 2 ^ n = -1 := by
      rw [Int.ediv_eq_iff_of_pos (by omega)]; omega
    have e2 : a / 2 ^ 64 = -1 := by
      rw [h64]; omega
    rw [e1, e2]

theorem shr_dg (a l : Int) (h1 : -9223372036854775808 ≤ a) (h2 : a ≤ 9223372036854775807) (hl : 0 ≤ l) :
    bits .and .i64 (a / 2 ^ min (2 * l).toNat 64) 3 = dg a l := by
  rw [and3]; unfold dg
  rw [pow_four]
  have e : (2 * l).toNat = 2 * l.toNat := by omega
  rw [e]
  by_cases h : 2 * l.toNat ≤ 64
  · rw [Nat.min_eq_left h]
  · rw [Nat.min_eq_right (by omega), div_far a h1 h2 (2 * l.toNat) (by omega)]

theorem ret_int {k : IntKind} {a b : Int} (h : a = b) : Ending.returned (.int k a) = .returned (.int k b) := by rw [h]

set_option maxHeartbeats 400000 in
theorem digit_any (a l : Int) (w : World) (h1 : -9223372036854775808 ≤ a) (h2 : a ≤ 9223372036854775807) (hl : 0 ≤ l) (hl2 : l ≤ 4611686018427387903) :
    Calls Try.prog 18 #[.int .i64 a, .int .i64 l] w fun e w' => e = .returned (.int .i64 (dg a l)) ∧ w' = w := by
  have hs0 : 0 ≤ 2 * l := by omega
  go_enter Try.func18, Try.ntmps18
  go_wp2
  go_ret
  exact ⟨ret_int (shr_dg a l h1 h2 hl), rfl⟩

set_option maxHeartbeats 400000 in
theorem zzDigit_any (a l : Int) (w : World) (h1 : -9223372036854775808 ≤ a) (h2 : a ≤ 9223372036854775807) (hl : 0 ≤ l) (hl2 : l ≤ 4611686018427387903) :
    Calls Try.prog 7 #[.int .i64 a, .int .i64 l] w fun e w' => e = .returned (.int .i64 (dg a l)) ∧ w' = w := by
  go_enter Try.func7, Try.ntmps7
  go_wp2_with (go_at_call 18; refine (digit_any a l _ h1 h2 hl hl2).mono ?_; rintro e w' ⟨rfl, rfl⟩)
  go_ret
  exact ⟨rfl, rfl⟩

/-! ### the floor's remainder and quotient by 4 -/
theorem tmod_four (q : Int) : q.tmod 4 = if 0 ≤ q then q % 4 else - ((-q) % 4) := by
  split
  · rw [Int.tmod_eq_emod_of_nonneg (by assumption)]
  · have := Int.neg_tmod (-q) 4
    rw [Int.neg_neg] at this
    rw [this, Int.tmod_eq_emod_of_nonneg (by omega)]

set_option maxHeartbeats 400000 in
theorem mod4_any (q : Int) (w : World) (h1 : -9223372036854775808 ≤ q) (h2 : q ≤ 9223372036854775807) :
    Calls Try.prog 8 #[.int .i64 q] w fun e w' => e = .returned (.int .i64 (q % 4)) ∧ w' = w := by
  have hq := tmod_four q
  have hb : -3 ≤ q.tmod 4 ∧ q.tmod 4 ≤ 3 := by rw [hq]; split <;> omega
  have HQ : Hid (q.tmod 4 = if 0 ≤ q then q % 4 else - ((-q) % 4)) := hq
  clear hq
  obtain ⟨hb1, hb2⟩ := hb
  by_cases hn : q.tmod 4 < 0
  · go_enter Try.func8, Try.ntmps8
    go_wp2
    go_ret
    exact ⟨ret_int (by have := HQ.out; split at this <;> omega), rfl⟩
  · go_enter Try.func8, Try.ntmps8
    go_wp2
    go_ret
    exact ⟨ret_int (by have := HQ.out; split at this <;> omega), rfl⟩

set_option maxHeartbeats 400000 in
theorem div4_any (q : Int) (w : World) (h1 : -9223372036854775808 ≤ q) (h2 : q ≤ 9223372036854775807) :
    Calls Try.prog 6 #[.int .i64 q] w fun e w' => e = .returned (.int .i64 (q / 4)) ∧ w' = w := by
  go_enter Try.func6, Try.ntmps6
  go_wp2_with (go_at_call 8; refine (mod4_any q _ h1 h2).mono ?_; rintro e w' ⟨rfl, rfl⟩)
  go_ret
  refine ⟨ret_int ?_, rfl⟩
  rw [Int.tdiv_eq_ediv_of_dvd (by omega)]
  omega
end Go.Proofs.Qxb6603532a.Digit
