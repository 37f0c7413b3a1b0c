import Derived.Test.Qxb6603535aByteModel
namespace Go.Proofs.Qxb6603535a.ByteModel2
open Go.RowKit Go.Proofs.Qxb6603535a.Name Go.Proofs.Qxb6603535a.Attr Go.Proofs.Qxb6603535a.Model Go.Proofs.Qxb6603535a.ByteModel
set_option linter.unusedVariables false

set_option maxHeartbeats 1000000 in
theorem not_letter (s : ByteArray) (hs : s.size ≤ maxLen) (h0 : 0 < s.size) (hlet : letterB (s[0]'h0).toNat = false) (w : World)
    (hno : ((s.size : Int) == 4) = false ∨ ∃ h4 : 3 < s.size, NoRef s (s[0]'h0).toNat (s[1]'(by omega)).toNat (s[2]'(by omega)).toNat (s[3]'(by omega)).toNat) :
    Calls Try.prog 9 #[.string s] w fun e w' => e = .returned (.bool false) ∧ w' = w := by
  unfold maxLen at hs
  have hz : ((s.size : Int) == 0) = false := beq_eq_false_iff_ne.2 (by omega)
  have hL : Hid _ := hlet
  have hb0 : (s[0]'h0).toNat ≤ 255 := by have := (s[0]'h0).toNat_lt; omega
  clear hlet
  rcases hno with hno | ⟨h4, hno | ⟨g4, hno | ⟨g0, hno | ⟨g1, hno | ⟨g2, hno⟩⟩⟩⟩⟩
  all_goals
    go_enter Try.func9, Try.ntmps9
    go_wp2_with (go_at_call 11; refine (letter_any _ hb0 _).mono ?_; rintro e w' ⟨rfl, rfl⟩; rw [hL.out])
    go_ret
    exact ⟨rfl, rfl⟩

set_option maxHeartbeats 1000000 in
theorem empty (w : World) : Calls Try.prog 9 #[.string ByteArray.empty] w fun e w' => e = .returned (.bool false) ∧ w' = w := by
  go_enter Try.func9, Try.ntmps9
  go_wp2_with fail
  go_ret
  exact ⟨rfl, rfl⟩

set_option maxHeartbeats 1000000 in
theorem dollar (s : ByteArray) (h3 : 3 < s.size) (h4 : ((s.size : Int) == 4) = true) (w : World) (g0 : (((s[0]'(by omega)).toNat : Int) == 36) = true) (g1 : (((s[1]'(by omega)).toNat : Int) == 114) = true)
    (g2 : (((s[2]'(by omega)).toNat : Int) == 101) = true) (g3 : (((s[3]'(by omega)).toNat : Int) == 102) = true) :
    Calls Try.prog 9 #[.string s] w fun e w' => e = .returned (.bool true) ∧ w' = w := by
  go_enter Try.func9, Try.ntmps9
  go_wp2_with fail
  go_ret
  exact ⟨rfl, rfl⟩

theorem head_of (s : ByteArray) (h0 : 0 < s.size) : ∃ t, s.data.toList = s[0] :: t := by
  refine ⟨s.data.toList.drop 1, ?_⟩
  have := drop_at s 0 h0
  simpa using this

theorem four_of (s : ByteArray) (h : s.size = 4) : s.data.toList = [s[0], s[1], s[2], s[3]] := by
  have e0 := drop_at s 0 (by omega)
  have e1 := drop_at s 1 (by omega)
  have e2 := drop_at s 2 (by omega)
  have e3 := drop_at s 3 (by omega)
  have e4 : s.data.toList.drop 4 = [] := List.drop_eq_nil_of_le (by simp; omega)
  simp only [List.drop_zero, Nat.zero_add] at e0
  rw [e0, e1, e2, e3, e4]

theorem byte_eq (a : UInt8) (n : Nat) (hn : n < 256) : a.toNat = n ↔ a = UInt8.ofNat n := by
  constructor
  · intro h; rw [← h]; simp
  · intro h; rw [h]; simp; omega

/-- zzAttrModel_b1. -/
theorem model_any (s : ByteArray) (hs : s.size ≤ maxLen) (w : World) :
    Calls Try.prog 9 #[.string s] w fun e w' => e = .returned (.bool (nameB s.data.toList)) ∧ w' = w := by
  by_cases hz : s.size = 0
  · have e : s = ByteArray.empty := by
      have : s.data = #[] := Array.eq_empty_of_size_eq_zero hz
      cases s; simp_all [ByteArray.empty, ByteArray.emptyWithCapacity]
    subst e
    exact empty w
  · have h0 : 0 < s.size := by omega
    obtain ⟨t, ht⟩ := head_of s h0
    have plain : nameB s.data.toList = plainB s.data.toList → (((s.size : Int) == 4) = false ∨ ∃ h4 : 3 < s.size, NoRef s (s[0]'h0).toNat (s[1]'(by omega)).toNat (s[2]'(by omega)).toNat (s[3]'(by omega)).toNat) →
        Calls Try.prog 9 #[.string s] w fun e w' => e = .returned (.bool (nameB s.data.toList)) ∧ w' = w := by
      intro hn hno
      have hp := plain_count (s[0]'h0) t
      rw [← ht] at hp
      have hlen : s.data.toList.length = s.size := by simp
      cases hl : letterB (s[0]'h0).toNat with
      | true =>
        rw [hn, hp, hl, hlen, Bool.true_and]
        exact loop_part s hs h0 hl w hno
      | false =>
        rw [hn, hp, hl, Bool.false_and]
        exact not_letter s hs h0 hl w hno
    by_cases h4 : s.size = 4
    · have hl := four_of s h4
      have e4 : ((s.size : Int) == 4) = true := beq_iff_eq.2 (by omega)
      by_cases hr : s.data.toList = [36, 114, 101, 102]
      · have hn : nameB s.data.toList = true := by unfold nameB; rw [hr]; rfl
        rw [hl] at hr
        simp only [List.cons.injEq, and_true] at hr
        obtain ⟨r0, r1, r2, r3⟩ := hr
        rw [hn]
        refine dollar s (by omega) e4 w ?_ ?_ ?_ ?_
        · rw [r0]; rfl
        · rw [r1]; rfl
        · rw [r2]; rfl
        · rw [r3]; rfl
      · have hn : nameB s.data.toList = plainB s.data.toList := by
          unfold nameB
          have : (s.data.toList == [36, 114, 101, 102]) = false := beq_eq_false_iff_ne.2 hr
          rw [this]; rfl
        refine plain hn (Or.inr ⟨by omega, Or.inr ⟨e4, ?_⟩⟩)
        rw [hl] at hr
        simp only [List.cons.injEq, and_true] at hr
        have q0 := byte_eq (s[0]'h0) 36 (by omega)
        have q1 := byte_eq (s[1]'(by omega)) 114 (by omega)
        have q2 := byte_eq (s[2]'(by omega)) 101 (by omega)
        have q3 := byte_eq (s[3]'(by omega)) 102 (by omega)
        by_cases c0 : (s[0]'h0).toNat = 36
        · refine Or.inr ⟨beq_iff_eq.2 (by omega), ?_⟩
          by_cases c1 : (s[1]'(by omega)).toNat = 114
          · refine Or.inr ⟨beq_iff_eq.2 (by omega), ?_⟩
            by_cases c2 : (s[2]'(by omega)).toNat = 101
            · refine Or.inr ⟨beq_iff_eq.2 (by omega), beq_eq_false_iff_ne.2 ?_⟩
              intro c3
              exact hr ⟨q0.1 c0, q1.1 c1, q2.1 c2, q3.1 (by omega)⟩
            · exact Or.inl (beq_eq_false_iff_ne.2 (by omega))
          · exact Or.inl (beq_eq_false_iff_ne.2 (by omega))
        · exact Or.inl (beq_eq_false_iff_ne.2 (by omega))
    · have hn : nameB s.data.toList = plainB s.data.toList := by
        unfold nameB
        have : (s.data.toList == [36, 114, 101, 102]) = false := beq_eq_false_iff_ne.2 (fun e => h4 (by have := congrArg List.length e; simpa using this))
        rw [this]; rfl
      exact plain hn (Or.inl (beq_eq_false_iff_ne.2 (by omega)))
end Go.Proofs.Qxb6603535a.ByteModel2
