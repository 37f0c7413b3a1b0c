/-
  The proof of 'Rows.FnDigitIsBaseFourDigitSaid'. The frame behind the walk is the guide's own shell for this function; the plain law and the walk are this seat's.
-/
import Derived.Test.Qxb6603532aDigit
import Derived.WalkKit
import Derived.ProofKit
import Derived.OpenShut
import Derived.ShutString
namespace Go.Proofs.Qxb6603532a.fnDigitIsBaseFourDigit
open Go.ChangeShapes Go.WideShapes Go.ChangeAt Go.RowKit
open Go.ChangeMaps (open_string shut_string)
set_option linter.unusedVariables false      -- a walk need not use every 'w<i>' (that an integer argument fits its kind)

open Go.Proofs.Qxb6603532a.Digit

/-! ### THE PLAIN LAW: the quotient after k floor divisions by 4 -/
theorem pow_pos4 (k : Nat) : (0 : Int) < 4 ^ k := Int.pow_pos (by decide)

theorem div_step (a : Int) (k : Nat) : a / 4 ^ (k + 1) = a / 4 ^ k / 4 := by
  rw [Int.pow_succ, Int.ediv_ediv_of_nonneg (Int.le_of_lt (pow_pos4 k))]

theorem div_bd (a : Int) (k : Nat) (h1 : -9223372036854775808 ≤ a) (h2 : a ≤ 9223372036854775807) : -9223372036854775808 ≤ a / 4 ^ k ∧ a / 4 ^ k ≤ 9223372036854775807 := by
  induction k with
  | zero => simp; omega
  | succ n ih => rw [div_step]; omega

theorem div_stay (a : Int) (k m : Nat) (h : a / 4 ^ k = 0 ∨ a / 4 ^ k = -1) : a / 4 ^ (k + m) = a / 4 ^ k := by
  induction m with
  | zero => rfl
  | succ n ih => rw [← Nat.add_assoc, div_step, ih]; omega

theorem fin_eq (a L : Int) (k : Nat) (hk : (k : Int) ≤ L) (h : (k : Int) = L ∨ a / 4 ^ k = 0 ∨ a / 4 ^ k = -1) : dg a L = a / 4 ^ k % 4 := by
  unfold dg
  rcases h with h | h
  · rw [← h, Int.toNat_natCast]
  · have e : L.toNat = k + (L.toNat - k) := by omega
    rw [e, div_stay a k _ h]

theorem own : ownKnob Try.prog.godebug = none := by kernel_rfl

/-! ### STEP 1: THE WALK: the Go text returns true. 'Grown w w'': the world has at most new blocks (Derived/RowKit3.lean). Part the cases AHEAD of 'go_enter' where a test parts the walk; take each callee by a contract of your own. -/
theorem walk (a0 : Int) (a1 : Int) (w0 : (Lit.int .i64 a0).wf = true) (w1 : (Lit.int .i64 a1).wf = true) (w : World) :
    Calls Try.prog 3 #[.int .i64 a0, .int .i64 a1] w fun e w' => e = .returned (.bool true) ∧ Grown w w' := by
  have b0 := bounds_i64 w0
  have b1 := bounds_i64 w1
  obtain ⟨b0l, b0u⟩ := b0
  obtain ⟨b1l, b1u⟩ := b1
  clear w0 w1
  by_cases c0 : a1 < 0
  · go_enter Try.func3, Try.ntmps3
    go_wp2
    go_ret
    exact ⟨rfl, by repeat (first | exact Grown.refl _ | apply Grown.drew | apply Grown.alloc)⟩
  by_cases c2 : 4611686018427387903 < a1
  · go_enter Try.func3, Try.ntmps3
    go_wp2
    go_ret
    exact ⟨rfl, by repeat (first | exact Grown.refl _ | apply Grown.drew | apply Grown.alloc)⟩
  go_enter Try.func3, Try.ntmps3
  go_wp2
  go_loop [5, 6] (fun q l => ∃ (k : Nat) (Q : Int), Hid (Q = a0 / 4 ^ k) ∧ (k : Int) ≤ a1 ∧ q = .int .i64 Q ∧ l = .int .i64 k) (fun _ l => (a1 - intOf l).toNat)
  case atStart => exact ⟨0, a0, (by show a0 = _; simp), by omega, rfl, rfl⟩
  case round =>
    obtain ⟨k, Q, hQ, hk, rfl, rfl⟩ := hrel
    have bQ : -9223372036854775808 ≤ Q ∧ Q ≤ 9223372036854775807 := by rw [hQ.out]; exact div_bd a0 k b0l b0u
    obtain ⟨bQl, bQu⟩ := bQ
    have fin : Hid ((k : Int) = a1 ∨ Q = 0 ∨ Q = -1 → (dg a0 a1 == Q % 4) = true) := fun h => beq_iff_eq.2 (by rw [hQ.out] at h ⊢; exact fin_eq a0 a1 k hk h)
    by_cases hlt : (k : Int) < a1
    · by_cases z0 : Q = 0
      · have FN := fin.out (Or.inr (Or.inl z0))
        have E0 : (Q != 0) = false := by rw [z0]; rfl
        clear z0
        go_wp2_with (first | (go_at_call 7; refine (zzDigit_any _ _ _ (by omega) (by omega) (by omega) (by omega)).mono ?_; rintro e w' ⟨rfl, rfl⟩) | (go_at_call 8; refine (mod4_any _ _ (by omega) (by omega)).mono ?_; rintro e w' ⟨rfl, rfl⟩))
        go_ret
        exact ⟨rfl, Grown.refl _⟩
      · by_cases z1 : Q = -1
        · have FN := fin.out (Or.inr (Or.inr z1))
          have E0 : (Q != 0) = true := by rw [z1]; rfl
          have E1 : (Q != -1) = false := by rw [z1]; rfl
          clear z1 z0
          go_wp2_with (first | (go_at_call 7; refine (zzDigit_any _ _ _ (by omega) (by omega) (by omega) (by omega)).mono ?_; rintro e w' ⟨rfl, rfl⟩) | (go_at_call 8; refine (mod4_any _ _ (by omega) (by omega)).mono ?_; rintro e w' ⟨rfl, rfl⟩))
          go_ret
          exact ⟨rfl, Grown.refl _⟩
        · have E0 : (Q != 0) = true := by rw [bne_iff_ne]; exact z0
          have E1 : (Q != -1) = true := by rw [bne_iff_ne]; exact z1
          clear z0 z1
          go_wp2_with (go_at_call 6; refine (div4_any _ _ (by omega) (by omega)).mono ?_; rintro e w' ⟨rfl, rfl⟩)
          go_round
          case rel => exact ⟨k + 1, Q / 4, (by show _ = _; rw [hQ.out, div_step]), by omega, rfl, by go_num⟩
          case measure => simp [intOf]; omega
    · have FN := fin.out (Or.inl (by omega))
      go_wp2_with (first | (go_at_call 7; refine (zzDigit_any _ _ _ (by omega) (by omega) (by omega) (by omega)).mono ?_; rintro e w' ⟨rfl, rfl⟩) | (go_at_call 8; refine (mod4_any _ _ (by omega) (by omega)).mono ?_; rintro e w' ⟨rfl, rfl⟩))
      go_ret
      exact ⟨rfl, Grown.refl _⟩

/-! ### THE ROW's STEP: WRITTEN OUT: LEAVE IT -/
set_option maxRecDepth 100000 in
theorem lifted (os : Os) (started : os.Started) (H : Type) (enc : TypeId × Value → H) :
    ReturnsInHanded {} Try.checked os 3 .any (Rows.fnDigitIsBaseFourDigitSpec.pre6 enc Try.prog Try.f3 Rows.fnDigitIsBaseFourDigitRow.domain false) (Rows.fnDigitIsBaseFourDigitSpec.post enc Try.prog Try.f3 false true false false) := by
  refine returnsInHanded_of_change (C := Try.checked) own started (by kernel_rfl) Try.func3
    (ChangeSpec.witness6 (enc := enc) (C := Try.checked) false ⟨#[], #[.int .i64 0, .int .i64 0], []⟩ 8 (by kernel_rfl) (by kernel_rfl) (by kernel_rfl) (by kernel_rfl)) ?_
  intro W base args ds gs before hval0 hW hcnd _
  have hval : ∀ (j : Nat) t v, Try.f3.params[j]? = some t → args[j]? = some v → Value.okWide Try.prog W .any base t v := hval0
  have hW' := hW
  obtain ⟨p, q, hA0, hV, rfl, hfz, hnd⟩ := hW
  have hA : DataW.TrodAll enc Try.prog W 0 (fun _ => true) true Try.f3.params.toList args.toList ds p := hA0
  rw [Try.params3] at hA hval
  obtain ⟨v0, vs0, d0, ds0, p0, q0, hargs, rfl, rfl, h0, r0⟩ := trodAll_cons hA
  obtain ⟨v1, vs1, d1, ds1, p1, q1, rfl, rfl, rfl, h1, r1⟩ := trodAll_cons r0
  obtain ⟨rfl, rfl, rfl⟩ := trodAll_nil r1
  obtain rfl : args = #[v0, v1] := by cases args; simp_all
  obtain ⟨rfl, rfl⟩ := trodVars_none hV
  obtain ⟨a0, rfl, rfl, rfl, w0⟩ := open_int Try.underlying3 (hval 0 3 v0 rfl rfl) h0
  obtain ⟨a1, rfl, rfl, rfl, w1⟩ := open_int Try.underlying3 (hval 1 3 v1 rfl rfl) h1
  clear hA0 hval0
  simp only [List.append_nil] at hW'
  refine (walk a0 a1 w0 w1 W).mono fun e W' ⟨he, hg⟩ => ?_
  subst he
  exact ⟨_, rfl, post_of_same (pa := []) (pv := []) hW' (fun _ _ _ => (trodAll_cons_mk (shut_bool Try.underlying4 _) trodAll_mk0)) (fun sp _ => (trodAll_cons_mk (shut_int Try.underlying3 w0) (trodAll_cons_mk (shut_int Try.underlying3 w1) trodAll_mk0))) (fun _ _ => rfl) rfl
    (hg.frame _) hg.2.1 (ok_one (by kernel_rfl) rfl (okWide_bool_mk Try.underlying4 _))⟩

theorem over : Rows.fnDigitIsBaseFourDigitRow.holds Try.pinned (OpenSpec.ofChange Rows.fnDigitIsBaseFourDigitSpec) :=
  OpenClaim.holds_of_wide 3 Try.f3 rfl rfl rfl rfl rfl rfl rfl ⟨rfl, rfl, rfl, rfl, rfl⟩ rfl rfl rfl rfl rfl (by kernel_rfl) Try.func3 (by kernel_rfl)
    (of_decide_eq_true (by kernel_rfl)) (by unfold Func.isWrapper; first | (rw [if_pos (by decide +kernel)]; kernel_rfl) | (rw [if_neg (by decide +kernel)]; exact ⟨rfl, rfl⟩))
    (fun os started H enc _ => lifted os started H enc)

/-- ████ THE STATEMENT ████ -/
theorem proved : Rows.FnDigitIsBaseFourDigitSaid :=
  over
#print axioms proved
end Go.Proofs.Qxb6603532a.fnDigitIsBaseFourDigit
