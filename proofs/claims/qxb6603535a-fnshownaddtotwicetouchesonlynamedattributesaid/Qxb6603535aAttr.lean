import Derived.Test.Qxb6603535aRows
import Derived.Test.Qxb6603535aName
import Derived.WalkKit
import Derived.ProofKit
import Derived.WalkLawsBesides
import Derived.Laws.RangeString
import Derived.Laws.RangeAny
namespace Go.Proofs.Qxb6603535a.Attr
open Go.RowKit Go.Proofs.Qxb6603535a.Name
set_option linter.unusedVariables false

theorem ret_bool {a b : Bool} (h : a = b) : Ending.returned (.bool a) = .returned (.bool b) := by rw [h]

set_option maxHeartbeats 400000 in
theorem attr_ref (s : ByteArray) (h : (s.toList == [36, 114, 101, 102]) = true) (w : World) : Calls Try.prog 24 #[.string s] w fun e w' => e = .returned (.bool true) ∧ Below w.heap.size w w' := by
  go_enter Try.func24, Try.ntmps24
  go_wp2_with fail
  go_ret
  exact ⟨rfl, Below.refl _ _⟩

theorem below_iter (w : World) (s : ByteArray) (p : Nat) : Below w.heap.size w (w.iter s p) := (Below.refl _ _).alloc (Nat.le_refl _) _

set_option maxHeartbeats 1000000 in
theorem attr_other (s : ByteArray) (hs : s.size ≤ maxLen) (hne : (s.toList == [36, 114, 101, 102]) = false) (w : World) :
    Calls Try.prog 24 #[.string s] w fun e w' => e = .returned (.bool (plainB s.data.toList)) ∧ Below w.heap.size w w' := by
  unfold maxLen at hs
  have hres : Hid (plainB s.data.toList = (!s.data.toList.isEmpty && allOk 0 s.data.toList)) := rfl
  generalize plainB s.data.toList = res at *
  go_enter Try.func24, Try.ntmps24
  go_wp2_with fail
  go_loopw [3] (fun x wr => ∃ p : Nat, p ≤ s.size ∧ wr = w.iter s p ∧ Hid (allOk 0 s.data.toList = allOk p (s.data.toList.drop p))) (fun _ wr => s.size - wr.iterPos w.heap.size)
  case atStart => exact ⟨0, Nat.zero_le _, rfl, rfl⟩
  case round =>
    obtain ⟨p, hp, rfl, hok⟩ := hrel
    by_cases hlt : p < s.size
    · have hdr : Hid (allOk p (s.data.toList.drop p) = (okB p (s[p]'hlt).toNat && allOk (p + 1) (s.data.toList.drop (p + 1)))) := by show _ = _; rw [drop_at s p hlt]; rfl
      have hem : Hid (s.data.toList.isEmpty = false) := by
        show _ = _
        have h1 : 0 < s.data.toList.length := by simpa using Nat.lt_of_le_of_lt (Nat.zero_le _) hlt
        cases hl : s.data.toList with
        | nil => rw [hl] at h1; simp at h1
        | cons a b => rfl
      by_cases ha : (s[p]'hlt).toNat < 128
      · have hnx : ∀ ty, (Instr.next (.pointer (some ⟨w.heap.size, 0, none⟩)) true ty).run Try.prog (w.iter s p) = _ := fun ty => run_next_ascii w s p ty hlt ha
        generalize (s[p]'hlt).toNat = c at *
        by_cases hl : (97 ≤ c ∧ c ≤ 122) ∨ (65 ≤ c ∧ c ≤ 90)
        · have hO : Hid (okB p c = true) := okB_letter hl
          rcases hl with ⟨h1, h2⟩ | ⟨h1, h2⟩
          all_goals
            go_wp2_with fail
            go_roundw
            case rel => exact ⟨p + 1, by omega, rfl, (by show _ = _; rw [hok.out, hdr.out, hO.out]; rfl)⟩
            case measure => simp; omega
        · by_cases hr : 0 < p ∧ ((48 ≤ c ∧ c ≤ 57) ∨ c = 45 ∨ c = 95)
          · have hO : Hid (okB p c = true) := okB_rest hr.1 hr.2
            obtain ⟨hp0, hr⟩ := hr
            rcases hr with ⟨h1, h2⟩ | rfl | rfl
            all_goals
              go_wp2_with fail
              go_roundw
              case rel => exact ⟨p + 1, by omega, rfl, (by show _ = _; rw [hok.out, hdr.out, hO.out]; rfl)⟩
              case measure => simp; omega
          · have hO : Hid (okB p c = false) := okB_no hl hr
            have hfin : Hid (res = false) := by show _ = _; rw [hres.out, hok.out, hdr.out, hO.out]; simp
            clear hok hdr hO hem
            by_cases hp0 : 0 < p
            · have e1 : ((c : Int) == 45) = false := beq_eq_false_iff_ne.2 (by omega)
              have e2 : ((c : Int) == 95) = false := beq_eq_false_iff_ne.2 (by omega)
              have e3 : c < 48 ∨ 57 < c := by omega
              clear hr
              rcases e3 with e3 | e3
              all_goals
                go_wp2_with fail
                all_goals
                  go_ret
                  exact ⟨ret_bool hfin.out.symm, below_iter _ _ _⟩
            · clear hr
              go_wp2_with fail
              all_goals
                go_ret
                exact ⟨ret_bool hfin.out.symm, below_iter _ _ _⟩
      · have hd := (decode_high s p hlt (by omega)).1
        have hO : okB p (s[p]'hlt).toNat = false := okB_no (by omega) (by omega)
        have hfin : Hid (res = false) := by show _ = _; rw [hres.out, hok.out, hdr.out, hO]; simp
        have hnx : ∀ ty, (Instr.next (.pointer (some ⟨w.heap.size, 0, none⟩)) true ty).run Try.prog (w.iter s p) = _ := fun ty => run_next_any w s p ty hlt
        clear hO ha hdr hok hem
        generalize (Utf8.decode s p).2 = wd at *
        generalize (Utf8.decode s p).1 = c at *
        have e1 : ((c : Int) == 45) = false := beq_eq_false_iff_ne.2 (by omega)
        have e2 : ((c : Int) == 95) = false := beq_eq_false_iff_ne.2 (by omega)
        by_cases hp0 : 0 < p
        all_goals
          go_wp2_with fail
          all_goals
            go_ret
            exact ⟨ret_bool hfin.out.symm, below_iter _ _ _⟩
    · have hnx : ∀ ty, (Instr.next (.pointer (some ⟨w.heap.size, 0, none⟩)) true ty).run Try.prog (w.iter s p) = _ := fun ty => run_next_end w s p ty hlt
      have hfin : Hid ((!s.toList.isEmpty) = res) := by
        show _ = _
        have e : s.data.toList.drop p = [] := List.drop_eq_nil_of_le (by simp; omega)
        rw [hres.out, hok.out, e, ByteArray.toList_eq]
        simp [allOk]
      go_wp2_with fail
      go_ret
      exact ⟨ret_bool hfin.out, below_iter _ _ _⟩

/-- isAttributeName. -/
theorem attr_any (s : ByteArray) (hs : s.size ≤ maxLen) (w : World) :
    Calls Try.prog 24 #[.string s] w fun e w' => e = .returned (.bool (nameB s.data.toList)) ∧ Below w.heap.size w w' := by
  have e := ByteArray.toList_eq s
  cases h : (s.toList == [36, 114, 101, 102]) with
  | true =>
    have : nameB s.data.toList = true := by unfold nameB; rw [← e, h]; rfl
    rw [this]; exact attr_ref s h w
  | false =>
    have : nameB s.data.toList = plainB s.data.toList := by unfold nameB; rw [← e, h]; rfl
    rw [this]; exact attr_other s hs h w

set_option maxHeartbeats 400000 in
/-- ZZIsAttributeName. -/
theorem zzAttr_any (s : ByteArray) (hs : s.size ≤ maxLen) (w : World) :
    Calls Try.prog 8 #[.string s] w fun e w' => e = .returned (.bool (nameB s.data.toList)) ∧ Below w.heap.size w w' := by
  have H : Hid _ := attr_any s hs
  generalize nameB s.data.toList = r at *
  go_enter Try.func8, Try.ntmps8
  go_wp2_with (go_at_call 24; refine (H.out _).mono ?_; rintro e w' ⟨rfl, hb⟩)
  go_ret
  exact ⟨rfl, hb⟩
end Go.Proofs.Qxb6603535a.Attr
