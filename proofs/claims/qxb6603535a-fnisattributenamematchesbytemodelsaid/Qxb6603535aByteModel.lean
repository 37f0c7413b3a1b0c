import Derived.Test.Qxb6603535aModel
namespace Go.Proofs.Qxb6603535a.ByteModel
open Go.RowKit Go.Proofs.Qxb6603535a.Name Go.Proofs.Qxb6603535a.Attr Go.Proofs.Qxb6603535a.Model
set_option linter.unusedVariables false

/-- How the test on the name with a dollar fails, as the walk spells it. -/
def NoRef (s : ByteArray) (n0 n1 n2 n3 : Nat) : Prop := ((s.size : Int) == 4) = false ∨
  ((s.size : Int) == 4) = true ∧ (((n0 : Int) == 36) = false ∨ ((n0 : Int) == 36) = true ∧ (((n1 : Int) == 114) = false ∨ ((n1 : Int) == 114) = true ∧ (((n2 : Int) == 101) = false ∨ ((n2 : Int) == 101) = true ∧ ((n3 : Int) == 102) = false)))

set_option maxHeartbeats 4000000 in
theorem loop_part (s : ByteArray) (hs : s.size ≤ maxLen) (h0 : 0 < s.size) (hlet : letterB (s[0]'h0).toNat = true) (w : World)
    (hno : ((s.size : Int) == 4) = false ∨ ∃ h4 : 3 < s.size, NoRef s (s[0]'h0).toNat (s[1]'(by omega)).toNat (s[2]'(by omega)).toNat (s[3]'(by omega)).toNat) :
    Calls Try.prog 9 #[.string s] w fun e w' => e = .returned (.bool (cnt s.data.toList == s.size)) ∧ w' = w := by
  unfold maxLen at hs
  have hz : ((s.size : Int) == 0) = false := beq_eq_false_iff_ne.2 (by omega)
  have hL : Hid _ := hlet
  have hb0 : (s[0]'h0).toNat ≤ 255 := by have := (s[0]'h0).toNat_lt; omega
  clear hlet
  have hres : Hid (((cnt s.data.toList : Int) == (s.size : Int)) = (cnt s.data.toList == s.size)) := by
    show _ = _; rw [Bool.eq_iff_iff, beq_iff_eq, beq_iff_eq]; omega
  generalize (cnt s.data.toList == s.size) = res at *
  rcases hno with hno | ⟨h4, hno | ⟨g4, hno | ⟨g0, hno | ⟨g1, hno | ⟨g2, hno⟩⟩⟩⟩⟩
  all_goals
    go_enter Try.func9, Try.ntmps9
    go_wp2_with (go_at_call 11; refine (letter_any _ hb0 _).mono ?_; rintro e w' ⟨rfl, rfl⟩; rw [hL.out])
    go_loop [3, 4] (fun n i => ∃ k : Nat, k ≤ s.size ∧ i = .int .i64 k ∧ n = .int .i64 (cnt (s.data.toList.take k))) (fun _ i => s.size - (intOf i).toNat)
    case atStart => exact ⟨0, Nat.zero_le _, rfl, rfl⟩
    case round =>
      obtain ⟨k, hk, rfl, rfl⟩ := hrel
      have hcl := cnt_le (s.data.toList.take k)
      have hl : (s.data.toList.take k).length ≤ k := List.length_take_le _ _
      by_cases hlt : k < s.size
      · have hsn : Hid (cnt (s.data.toList.take (k + 1)) = cnt (s.data.toList.take k) + if cls (s[k]'hlt).toNat then 1 else 0) := by show _ = _; rw [take_snoc s k hlt, cnt_snoc]
        have hb : (s[k]'hlt).toNat ≤ 255 := by have := (s[k]'hlt).toNat_lt; omega
        generalize cnt (s.data.toList.take k) = C at *
        have hcls : Hid (cls (s[k]'hlt).toNat = (letterB (s[k]'hlt).toNat || (digitB (s[k]'hlt).toNat || (s[k]'hlt).toNat == 45 || (s[k]'hlt).toNat == 95))) := rfl
        cases h1 : letterB (s[k]'hlt).toNat with
        | true =>
          have H1 : Hid _ := h1
          clear h1
          go_wp2_with (go_at_call 11; refine (letter_any _ hb _).mono ?_; rintro e w' ⟨rfl, rfl⟩; rw [H1.out])
          go_round
          case rel => exact ⟨k + 1, by omega, by go_num, by rw [hsn.out, hcls.out, H1.out]; go_num⟩
          case measure => simp [intOf]; omega
        | false =>
          have H1 : Hid _ := h1
          clear h1
          cases h2 : digitB (s[k]'hlt).toNat with
          | true =>
            have H2 : Hid _ := h2
            clear h2
            go_wp2_with (first | (go_at_call 11; refine (letter_any _ hb _).mono ?_; rintro e w' ⟨rfl, rfl⟩; rw [H1.out]) | (go_at_call 12; refine (digit_any _ hb _).mono ?_; rintro e w' ⟨rfl, rfl⟩; rw [H2.out]))
            go_round
            case rel => exact ⟨k + 1, by omega, by go_num, by rw [hsn.out, hcls.out, H1.out, H2.out]; go_num⟩
            case measure => simp [intOf]; omega
          | false =>
            have H2 : Hid _ := h2
            clear h2
            by_cases h3 : (s[k]'hlt).toNat = 45
            · have e3 : (((s[k]'hlt).toNat : Int) == 45) = true := beq_iff_eq.2 (by omega)
              have H3 : Hid _ := h3
              clear h3
              go_wp2_with (first | (go_at_call 11; refine (letter_any _ hb _).mono ?_; rintro e w' ⟨rfl, rfl⟩; rw [H1.out]) | (go_at_call 12; refine (digit_any _ hb _).mono ?_; rintro e w' ⟨rfl, rfl⟩; rw [H2.out]))
              go_round
              case rel => exact ⟨k + 1, by omega, by go_num, by rw [hsn.out, hcls.out, H1.out, H2.out, H3.out]; go_num⟩
              case measure => simp [intOf]; omega
            · have e3 : (((s[k]'hlt).toNat : Int) == 45) = false := beq_eq_false_iff_ne.2 (by omega)
              have H3 : Hid (((s[k]'hlt).toNat == 45) = false) := beq_eq_false_iff_ne.2 h3
              clear h3
              by_cases h5 : (s[k]'hlt).toNat = 95
              · have e5 : (((s[k]'hlt).toNat : Int) == 95) = true := beq_iff_eq.2 (by omega)
                have H5 : Hid (((s[k]'hlt).toNat == 95) = true) := beq_iff_eq.2 h5
                clear h5
                go_wp2_with (first | (go_at_call 11; refine (letter_any _ hb _).mono ?_; rintro e w' ⟨rfl, rfl⟩; rw [H1.out]) | (go_at_call 12; refine (digit_any _ hb _).mono ?_; rintro e w' ⟨rfl, rfl⟩; rw [H2.out]))
                go_round
                case rel => exact ⟨k + 1, by omega, by go_num, by rw [hsn.out, hcls.out, H1.out, H2.out, H3.out, H5.out]; go_num⟩
                case measure => simp [intOf]; omega
              · have e5 : (((s[k]'hlt).toNat : Int) == 95) = false := beq_eq_false_iff_ne.2 (by omega)
                have H5 : Hid (((s[k]'hlt).toNat == 95) = false) := beq_eq_false_iff_ne.2 h5
                clear h5
                go_wp2_with (first | (go_at_call 11; refine (letter_any _ hb _).mono ?_; rintro e w' ⟨rfl, rfl⟩; rw [H1.out]) | (go_at_call 12; refine (digit_any _ hb _).mono ?_; rintro e w' ⟨rfl, rfl⟩; rw [H2.out]))
                go_round
                case rel => exact ⟨k + 1, by omega, by go_num, by rw [hsn.out, hcls.out, H1.out, H2.out, H3.out, H5.out]; go_num⟩
                case measure => simp [intOf]; omega
      · have hfin : Hid (((cnt (s.data.toList.take k) : Int) == (s.size : Int)) = res) := by show _ = _; rw [List.take_of_length_le (by simp; omega)]; exact hres.out
        go_wp2_with fail
        go_ret
        exact ⟨ret_bool hfin.out, rfl⟩
end Go.Proofs.Qxb6603535a.ByteModel
