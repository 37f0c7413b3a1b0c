import Derived.Test.Qxb6603535aModel
import Derived.Laws.IdiomStrings
namespace Go.Proofs.Qxb6603535a.Grows
open Go.RowKit Go.Proofs.Qxb6603535a.Name Go.Proofs.Qxb6603535a.Attr Go.Proofs.Qxb6603535a.Model
set_option linter.unusedVariables false

def one (n : Nat) : ByteArray := ⟨#[UInt8.ofNat n]⟩

theorem conv (n : Nat) (hn : n ≤ 255) (w : World) : (convert 24 9 (.slice (some ⟨w.heap.size, 0, none⟩) 1 1)).run Try.prog (w.alloc (.cells #[.int .u8 (n : Int)] 5)) = .ok (.string (one n)) (w.alloc (.cells #[.int .u8 (n : Int)] 5)) := by
  have h := run_convert_bytes_back (P := Try.prog) (w.alloc (.cells #[.int .u8 (n : Int)] 5)) 24 9 5 ⟨w.heap.size, 0, none⟩ 1 [UInt8.ofNat n] Try.underlying24 Try.underlying5 Try.underlying9 (fun j hj => by
    simp only [List.length_singleton] at hj
    obtain rfl : j = 0 := by omega
    have e : ((UInt8.ofNat n).toNat : Int) = n := by simp; omega
    show World.cell? _ ⟨w.heap.size, 0, none⟩ = some (.int .u8 ((UInt8.ofNat n).toNat : Int))
    rw [e, World.cell?_alloc_new]; rfl)
  exact h


/-- What the law's second half says of the name with one byte more. -/
def want (l : List UInt8) (n : Int) (L D prev : Bool) : Bool :=
  if l = [36, 114, 101] ∧ n = 102 then true
  else if L = true then (l.isEmpty || (prev && !(l == [36, 114, 101, 102])))
  else if D = true ∨ n = 45 ∨ n = 95 then (!l.isEmpty && prev && !(l == [36, 114, 101, 102]))
  else false

theorem allOk_name (l : List UInt8) (h : l ≠ [36, 114, 101, 102]) : nameB l = plainB l := by
  unfold nameB
  rw [beq_eq_false_iff_ne.2 h, Bool.false_or]

theorem want_law (l : List UInt8) (n : Nat) (hn : n ≤ 255) : nameB (l ++ [UInt8.ofNat n]) = want l n (letterB n) (digitB n) (nameB l) := by
  have e : (UInt8.ofNat n).toNat = n := by simp; omega
  have hp : plainB (l ++ [UInt8.ofNat n]) = (allOk 0 l && okB l.length n) := by
    unfold plainB
    rw [allOk_append, allOk_one, e]; simp
  unfold want
  by_cases hre : l = [36, 114, 101] ∧ (n : Int) = 102
  · rw [if_pos hre]
    obtain ⟨rfl, h2⟩ := hre
    obtain rfl : n = 102 := by omega
    rfl
  rw [if_neg hre]
  have hne : l ++ [UInt8.ofNat n] ≠ [36, 114, 101, 102] := by
    intro h
    have := List.append_inj' (t₁ := [UInt8.ofNat n]) (s₂ := [36, 114, 101]) (t₂ := [102]) h rfl
    refine hre ⟨this.1, ?_⟩
    have h3 : UInt8.ofNat n = 102 := by simpa using this.2
    have h4 := congrArg UInt8.toNat h3
    rw [e] at h4
    have : (102 : UInt8).toNat = 102 := rfl
    omega
  rw [allOk_name _ hne, hp]
  by_cases hr : l = [36, 114, 101, 102]
  · subst hr
    simp [allOk, okB, letterB, restB, digitB]
  · have hrb : (l == [36, 114, 101, 102]) = false := beq_eq_false_iff_ne.2 hr
    rw [allOk_name l hr, hrb]
    unfold plainB
    by_cases hl : letterB n = true
    · simp only [hl, if_true, okB, Bool.true_or, Bool.and_true, Bool.not_false]
      cases l with
      | nil => rfl
      | cons a t => simp
    · have hl' : letterB n = false := by simpa using hl
      rw [if_neg hl]
      by_cases hd : digitB n = true ∨ (n : Int) = 45 ∨ (n : Int) = 95
      · rw [if_pos hd]
        have hrest : restB n = true := by
          unfold restB
          rcases hd with h | h | h
          · simp [h]
          · simp [show n = 45 by omega]
          · simp [show n = 95 by omega]
        cases l with
        | nil => simp [okB, hl']
        | cons a t => simp [okB, hl', hrest]
      · rw [if_neg hd]
        have hrest : restB n = false := by
          unfold restB
          simp only [not_or] at hd
          have h1 : digitB n = false := by simpa using hd.1
          have h2 : (n == 45) = false := beq_eq_false_iff_ne.2 (by omega)
          have h3 : (n == 95) = false := beq_eq_false_iff_ne.2 (by omega)
          rw [h1, h2, h3]; rfl
        simp [okB, hl', hrest]

set_option maxHeartbeats 4000000 in
theorem walk_small (s : ByteArray) (n : Nat) (hs : s.size ≤ maxLen) (hn : n ≤ 255) (h : s.size ≤ 1048576) (w : World) :
    Calls Try.prog 4 #[.string s, .int .u8 n] w fun e w' => e = .returned (.bool true) ∧ Below w.heap.size w w' := by
  have HB : Hid _ := bytes_any s n hs
  have HA : Hid _ := zzAttr_any s hs
  have kc := conv n hn
  unfold maxLen at hs
  have hd : Hid (decide (s.size ≤ 1048576) = true) := decide_eq_true h
  have ho : (one n).size = 1 := rfl
  have h2 : (s ++ one n).size ≤ maxLen := by unfold maxLen; rw [ByteArray.size_append]; omega
  have HC : Hid _ := zzAttr_any (s ++ one n) h2
  have HL : Hid _ := letter_any n hn
  have HD : Hid _ := digit_any n hn
  clear h2
  have hW : Hid (nameB (s ++ one n).data.toList = want s.toList (n : Int) (letterB n) (digitB n) (nameB s.data.toList)) := by
    show _ = _
    rw [ByteArray.toList_eq, ← want_law _ n hn, ByteArray.data_append, Array.toList_append]; rfl
  generalize nameB s.data.toList = prev at *
  generalize nameB (s ++ one n).data.toList = next at *
  generalize letterB n = L at *
  generalize digitB n = D at *
  go_enter Try.func4, Try.ntmps4
  go_wp2_with (first | (go_at_call 10; refine (HB.out _).mono ?_; rintro e w' ⟨rfl, rfl⟩; rw [hd.out]))
  refine (HA.out _).mono ?_
  rintro e w1 ⟨rfl, hb1⟩
  go_wp2_with fail
  refine (HC.out _).mono ?_
  rintro e w2 ⟨rfl, hb2⟩
  have hbel : Hid (Below w'.heap.size w' w2) := ((hb1.alloc hb1.size _).trans (hb2.mono (Nat.le_trans hb1.size (by simp))))
  clear hb1 hb2
  go_wp2_with (first | (go_at_call 11; refine (HL.out _).mono ?_; rintro e w3 ⟨rfl, rfl⟩) | (go_at_call 12; refine (HD.out _).mono ?_; rintro e w3 ⟨rfl, rfl⟩))
  all_goals go_ret
  all_goals refine ⟨ret_bool ?_, hbel.out⟩
  all_goals have hW' := hW.out
  all_goals clear HA HB HC HL HD kc hd hs hW
  all_goals unfold want at hW'
  all_goals simp_all

set_option maxHeartbeats 1000000 in
theorem walk (s : ByteArray) (n : Nat) (hs : s.size ≤ maxLen) (hn : n ≤ 255) (w : World) :
    Calls Try.prog 4 #[.string s, .int .u8 n] w fun e w' => e = .returned (.bool true) ∧ Below w.heap.size w w' := by
  by_cases h : s.size ≤ 1048576
  · exact walk_small s n hs hn h w
  · have HB : Hid _ := bytes_any s n hs
    have hd : Hid (decide (s.size ≤ 1048576) = false) := decide_eq_false h
    unfold maxLen at hs
    go_enter Try.func4, Try.ntmps4
    go_wp2_with (go_at_call 10; refine (HB.out _).mono ?_; rintro e w' ⟨rfl, rfl⟩; rw [hd.out])
    go_ret
    exact ⟨rfl, Below.refl _ _⟩
end Go.Proofs.Qxb6603535a.Grows
