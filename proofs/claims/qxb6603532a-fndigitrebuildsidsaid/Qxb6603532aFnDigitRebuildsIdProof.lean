/-
  The proof of 'Rows.FnDigitRebuildsIdSaid'. The frame behind the walk is the guide's own shell for this function; the plain law and the walk are this seat's.
-/
import Derived.Test.Qxb6603532aDigit
import Derived.WalkKit
import Derived.ProofKit
import Derived.OpenShut
import Derived.ShutString
namespace Go.Proofs.Qxb6603532a.fnDigitRebuildsId
open Go.ChangeShapes Go.WideShapes Go.ChangeAt Go.RowKit
open Go.ChangeMaps (open_string shut_string)
set_option linter.unusedVariables false      -- a walk need not use every 'w<i>' (that an integer argument fits its kind)

open Go.Proofs.Qxb6603532a.Digit

/-! ### THE PLAIN LAW: after k rounds the sum is a mod 4^k, the weight 4^k, the rest a / 4^k -/
def Inv (a : Int) (k : Nat) (S P Q : Int) : Prop := S = a % 4 ^ k ∧ P = 4 ^ k ∧ Q = a / 4 ^ k ∧ (k = 0 ∨ 4 ^ k ≤ a)

theorem dg_nat (a : Int) (k : Nat) : dg a (k : Int) = (a / 4 ^ k) % 4 := by unfold dg; rw [Int.toNat_natCast]

theorem pow_pos4 (k : Nat) : (0 : Int) < 4 ^ k := Int.pow_pos (by decide)

theorem div_step (a : Int) (k : Nat) : a / 4 ^ (k + 1) = a / 4 ^ k / 4 := by
  rw [Int.pow_succ, Int.ediv_ediv_of_nonneg (Int.le_of_lt (pow_pos4 k))]

theorem step_eq (a : Int) (k : Nat) : a % 4 ^ (k + 1) = a % 4 ^ k + (a / 4 ^ k) % 4 * 4 ^ k := by
  have h1 := Int.mul_ediv_add_emod a (4 ^ k)
  have h2 := Int.mul_ediv_add_emod a (4 ^ (k + 1))
  rw [div_step] at h2
  have e : (4 : Int) ^ (k + 1) = 4 ^ k * 4 := Int.pow_succ 4 k
  have h3 : a / 4 ^ k = 4 * (a / 4 ^ k / 4) + (a / 4 ^ k) % 4 := by omega
  generalize a / 4 ^ k / 4 = u at *
  generalize (a / 4 ^ k) % 4 = d at *
  rw [h3, Int.mul_add] at h1
  rw [e, Int.mul_assoc] at h2
  rw [e, Int.mul_comm d]
  omega

theorem pow31 (k : Nat) (a : Int) (h : k = 0 ∨ (4 : Int) ^ k ≤ a) (ha : a ≤ 9223372036854775807) : k ≤ 31 := by
  rcases h with h | h
  · omega
  · by_cases hk : k ≤ 31
    · exact hk
    · have h1 := Nat.pow_le_pow_right (n := 4) (by decide) (show 32 ≤ k by omega)
      have h2 : ((4 ^ 32 : Nat) : Int) ≤ ((4 ^ k : Nat) : Int) := Int.ofNat_le.2 h1
      have h3 : ((4 ^ k : Nat) : Int) = 4 ^ k := by simp
      have h4 : ((4 ^ 32 : Nat) : Int) = 18446744073709551616 := by decide
      omega

theorem inv_start (a : Int) : Inv a 0 0 1 a := by
  refine ⟨?_, ?_, ?_, Or.inl rfl⟩ <;> simp

theorem inv_bd {a : Int} {k : Nat} {S P Q : Int} (h : Inv a k S P Q) (h0 : 0 ≤ a) (ha : a ≤ 9223372036854775807) :
    k ≤ 31 ∧ 0 ≤ S ∧ S ≤ a ∧ 1 ≤ P ∧ 0 ≤ Q ∧ Q ≤ a ∧ 0 ≤ dg a k * P ∧ S + dg a k * P ≤ a := by
  obtain ⟨rfl, rfl, rfl, hk⟩ := h
  have hp := pow_pos4 k
  have hd := dg_bd a k
  have e := step_eq a k
  rw [← dg_nat] at e
  have hle : a % 4 ^ (k + 1) ≤ a := by
    have := Int.mul_ediv_add_emod a (4 ^ (k + 1))
    have h5 : 0 ≤ 4 ^ (k + 1) * (a / 4 ^ (k + 1)) := Int.mul_nonneg (Int.le_of_lt (pow_pos4 _)) (Int.ediv_nonneg h0 (Int.le_of_lt (pow_pos4 _)))
    omega
  have hm0 : 0 ≤ a % 4 ^ k := Int.emod_nonneg _ (by omega)
  have hdp : 0 ≤ dg a k * 4 ^ k := Int.mul_nonneg hd.1 (by omega)
  have hq := IntWalk.tdiv_le a (4 ^ k) h0 (by omega)
  exact ⟨pow31 k a hk ha, hm0, by omega, by omega, hq.1, hq.2, hdp, by omega⟩

theorem inv_next {a : Int} {k : Nat} {S P Q : Int} (h : Inv a k S P Q) (h0 : 0 ≤ a) (hq : 1 ≤ Q / 4) :
    P * 4 ≤ a ∧ Inv a (k + 1) (S + dg a k * P) (P * 4) (Q / 4) := by
  obtain ⟨rfl, rfl, rfl, hk⟩ := h
  rw [← div_step] at hq
  have hp := pow_pos4 (k + 1)
  have h1 : 4 ^ (k + 1) ≤ a := by
    have := (Int.le_ediv_iff_mul_le hp).1 hq
    omega
  have e : (4 : Int) ^ k * 4 = 4 ^ (k + 1) := (Int.pow_succ 4 k).symm
  rw [e]
  exact ⟨h1, by rw [step_eq, dg_nat], rfl, by rw [div_step], Or.inr h1⟩

theorem dg_zero {a : Int} {k : Nat} (h0 : 0 ≤ a) (h : a / 4 ^ k = 0) (l : Int) (hl : (k : Int) ≤ l) : dg a l = 0 := by
  unfold dg
  have hlt : a < 4 ^ k := by
    have := Int.lt_mul_of_ediv_lt (pow_pos4 k) (show a / 4 ^ k < 1 by omega)
    omega
  have hle : (4 : Int) ^ k ≤ 4 ^ l.toNat := by
    have := Nat.pow_le_pow_right (n := 4) (by decide) (show k ≤ l.toNat by omega)
    exact_mod_cast this
  rw [Int.ediv_eq_zero_of_lt h0 (by omega)]
  rfl

theorem inv_last {a : Int} {k : Nat} {S P Q : Int} (h : Inv a k S P Q) (h0 : 0 ≤ a) (hq : Q / 4 = 0) :
    S + dg a k * P = a ∧ (a = 0 ∨ dg a k ≠ 0) ∧ ∀ l : Int, (k : Int) + 1 ≤ l → dg a l = 0 := by
  obtain ⟨rfl, rfl, rfl, hk⟩ := h
  rw [← div_step] at hq
  have hlt : a < 4 ^ (k + 1) := by
    have := Int.lt_mul_of_ediv_lt (pow_pos4 (k + 1)) (show a / 4 ^ (k + 1) < 1 by omega)
    omega
  refine ⟨?_, ?_, fun l hl => dg_zero h0 hq l (by omega)⟩
  · rw [dg_nat, ← step_eq, Int.emod_eq_of_lt h0 hlt]
  · by_cases hz : a = 0
    · exact Or.inl hz
    · refine Or.inr ?_
      rw [dg_nat]
      have hq' : a / 4 ^ k / 4 = 0 := by rw [← div_step]; exact hq
      rcases hk with rfl | hk
      · simp at hq' ⊢; omega
      · have : 1 ≤ a / 4 ^ k := (Int.le_ediv_iff_mul_le (pow_pos4 k)).2 (by omega)
        omega

theorem own : ownKnob Try.prog.godebug = none := by kernel_rfl

/-! ### STEP 1: THE WALK: the Go text returns true. 'Grown w w'': the world has at most new blocks (Derived/RowKit3.lean). Part the cases AHEAD of 'go_enter' where a test parts the walk; take each callee by a contract of your own. -/
theorem walk (a0 : Int) (a1 : Int) (w0 : (Lit.int .i64 a0).wf = true) (w1 : (Lit.int .i64 a1).wf = true) (w : World) :
    Calls Try.prog 4 #[.int .i64 a0, .int .i64 a1] w fun e w' => e = .returned (.bool true) ∧ Grown w w' := by
  have b0 := bounds_i64 w0
  have b1 := bounds_i64 w1
  obtain ⟨b0l, b0u⟩ := b0
  clear w0 w1
  by_cases c0 : a0 < 0
  · go_enter Try.func4, Try.ntmps4
    go_wp2
    go_ret
    exact ⟨rfl, by repeat (first | exact Grown.refl _ | apply Grown.drew | apply Grown.alloc)⟩
  by_cases c1 : a1 < 0
  · go_enter Try.func4, Try.ntmps4
    go_wp2
    go_ret
    exact ⟨rfl, by repeat (first | exact Grown.refl _ | apply Grown.drew | apply Grown.alloc)⟩
  by_cases c2 : 4611686018427387839 < a1
  · go_enter Try.func4, Try.ntmps4
    go_wp2
    go_ret
    exact ⟨rfl, by repeat (first | exact Grown.refl _ | apply Grown.drew | apply Grown.alloc)⟩
  go_enter Try.func4, Try.ntmps4
  go_wp2
  go_loop [5, 6, 7, 8] (fun s p q l => ∃ (k : Nat) (S P Q : Int), Inv a0 k S P Q ∧ s = .int .i64 S ∧ p = .int .i64 P ∧ q = .int .i64 Q ∧ l = .int .i64 k) (fun _ _ q _ => (intOf q).toNat)
  case atStart => exact ⟨0, 0, 1, a0, inv_start a0, rfl, rfl, rfl, rfl⟩
  case round =>
    obtain ⟨k, S, P, Q, hinv, rfl, rfl, rfl, rfl⟩ := hrel
    obtain ⟨hk, hS0, hSa, hP1, hQ0, hQa, hdp, hsum⟩ := inv_bd hinv (by omega) b0u
    obtain ⟨hd0, hd3⟩ := dg_bd a0 k
    by_cases hq : Q / 4 = 0
    · obtain ⟨l1, l2, l3⟩ := inv_last hinv (by omega) hq
      have z1 := l3 ((k : Int) + 1) (by omega)
      have z2 := l3 ((k : Int) + 1 + a1) (by omega)
      clear l3
      have E1 : ((S + dg a0 k * P) == a0) = true := beq_iff_eq.2 l1
      have Z1 : (dg a0 ((k : Int) + 1) == 0) = true := beq_iff_eq.2 z1
      have Z2 : (dg a0 ((k : Int) + 1 + a1) == 0) = true := beq_iff_eq.2 z2
      have L2 : (a0 == 0) = true ∨ (a0 == 0) = false ∧ (dg a0 k != 0) = true := by
        rcases l2 with l2 | l2
        · exact Or.inl (beq_iff_eq.2 l2)
        · by_cases hz : a0 = 0
          · exact Or.inl (beq_iff_eq.2 hz)
          · exact Or.inr ⟨beq_eq_false_iff_ne.2 hz, by rw [bne_iff_ne]; exact l2⟩
      clear l1 l2 z1 z2
      rcases L2 with L2 | ⟨L2, L3⟩
      · go_wp2_with (go_at_call 7; refine (zzDigit_any _ _ _ (by omega) (by omega) (by omega) (by omega)).mono ?_; rintro e w' ⟨rfl, rfl⟩)
        go_ret
        exact ⟨rfl, Grown.refl _⟩
      · go_wp2_with (go_at_call 7; refine (zzDigit_any _ _ _ (by omega) (by omega) (by omega) (by omega)).mono ?_; rintro e w' ⟨rfl, rfl⟩)
        go_ret
        exact ⟨rfl, Grown.refl _⟩
    · obtain ⟨hp4, hnext⟩ := inv_next hinv (by omega) (by omega)
      go_wp2_with (go_at_call 7; refine (zzDigit_any _ _ _ (by omega) (by omega) (by omega) (by omega)).mono ?_; rintro e w' ⟨rfl, rfl⟩)
      go_round
      case rel => exact ⟨k + 1, _, _, _, hnext, rfl, rfl, rfl, by go_num⟩
      case measure => simp [intOf]; omega

/-! ### THE ROW's STEP: WRITTEN OUT: LEAVE IT -/
set_option maxRecDepth 100000 in
theorem lifted (os : Os) (started : os.Started) (H : Type) (enc : TypeId × Value → H) :
    ReturnsInHanded {} Try.checked os 4 .any (Rows.fnDigitRebuildsIdSpec.pre6 enc Try.prog Try.f4 Rows.fnDigitRebuildsIdRow.domain false) (Rows.fnDigitRebuildsIdSpec.post enc Try.prog Try.f4 false true false false) := by
  refine returnsInHanded_of_change (C := Try.checked) own started (by kernel_rfl) Try.func4
    (ChangeSpec.witness6 (enc := enc) (C := Try.checked) false ⟨#[], #[.int .i64 0, .int .i64 0], []⟩ 8 (by kernel_rfl) (by kernel_rfl) (by kernel_rfl) (by kernel_rfl)) ?_
  intro W base args ds gs before hval0 hW hcnd _
  have hval : ∀ (j : Nat) t v, Try.f4.params[j]? = some t → args[j]? = some v → Value.okWide Try.prog W .any base t v := hval0
  have hW' := hW
  obtain ⟨p, q, hA0, hV, rfl, hfz, hnd⟩ := hW
  have hA : DataW.TrodAll enc Try.prog W 0 (fun _ => true) true Try.f4.params.toList args.toList ds p := hA0
  rw [Try.params4] at hA hval
  obtain ⟨v0, vs0, d0, ds0, p0, q0, hargs, rfl, rfl, h0, r0⟩ := trodAll_cons hA
  obtain ⟨v1, vs1, d1, ds1, p1, q1, rfl, rfl, rfl, h1, r1⟩ := trodAll_cons r0
  obtain ⟨rfl, rfl, rfl⟩ := trodAll_nil r1
  obtain rfl : args = #[v0, v1] := by cases args; simp_all
  obtain ⟨rfl, rfl⟩ := trodVars_none hV
  obtain ⟨a0, rfl, rfl, rfl, w0⟩ := open_int Try.underlying3 (hval 0 3 v0 rfl rfl) h0
  obtain ⟨a1, rfl, rfl, rfl, w1⟩ := open_int Try.underlying3 (hval 1 3 v1 rfl rfl) h1
  clear hA0 hval0
  simp only [List.append_nil] at hW'
  refine (walk a0 a1 w0 w1 W).mono fun e W' ⟨he, hg⟩ => ?_
  subst he
  exact ⟨_, rfl, post_of_same (pa := []) (pv := []) hW' (fun _ _ _ => (trodAll_cons_mk (shut_bool Try.underlying4 _) trodAll_mk0)) (fun sp _ => (trodAll_cons_mk (shut_int Try.underlying3 w0) (trodAll_cons_mk (shut_int Try.underlying3 w1) trodAll_mk0))) (fun _ _ => rfl) rfl
    (hg.frame _) hg.2.1 (ok_one (by kernel_rfl) rfl (okWide_bool_mk Try.underlying4 _))⟩

theorem over : Rows.fnDigitRebuildsIdRow.holds Try.pinned (OpenSpec.ofChange Rows.fnDigitRebuildsIdSpec) :=
  OpenClaim.holds_of_wide 4 Try.f4 rfl rfl rfl rfl rfl rfl rfl ⟨rfl, rfl, rfl, rfl, rfl⟩ rfl rfl rfl rfl rfl (by kernel_rfl) Try.func4 (by kernel_rfl)
    (of_decide_eq_true (by kernel_rfl)) (by unfold Func.isWrapper; first | (rw [if_pos (by decide +kernel)]; kernel_rfl) | (rw [if_neg (by decide +kernel)]; exact ⟨rfl, rfl⟩))
    (fun os started H enc _ => lifted os started H enc)

/-- ████ THE STATEMENT ████ -/
theorem proved : Rows.FnDigitRebuildsIdSaid :=
  over
#print axioms proved
end Go.Proofs.Qxb6603532a.fnDigitRebuildsId
