/-
  Attribute names, on lists of bytes: plain functions and laws; no program is named here.
-/
import Derived.WalkKit
namespace Go.Proofs.Qxb6603535a.Name

def letterB (n : Nat) : Bool := (decide (97 ≤ n) && decide (n ≤ 122)) || (decide (65 ≤ n) && decide (n ≤ 90))
def digitB (n : Nat) : Bool := decide (48 ≤ n) && decide (n ≤ 57)
def restB (n : Nat) : Bool := digitB n || n == 45 || n == 95
def okB (i n : Nat) : Bool := letterB n || (decide (0 < i) && restB n)

def allOk : Nat → List UInt8 → Bool
  | _, [] => true
  | i, c :: t => okB i c.toNat && allOk (i + 1) t

/-- An attribute name, other than the one with a dollar. -/
def plainB (l : List UInt8) : Bool := !l.isEmpty && allOk 0 l
/-- An attribute name. -/
def nameB (l : List UInt8) : Bool := l == [36, 114, 101, 102] || plainB l

theorem allOk_append (a b : List UInt8) : ∀ i, allOk i (a ++ b) = (allOk i a && allOk (i + a.length) b) := by
  induction a with
  | nil => intro i; simp [allOk]
  | cons c t ih => intro i; simp only [List.cons_append, allOk, ih, List.length_cons, Bool.and_assoc]; rw [show i + 1 + t.length = i + (t.length + 1) from by omega]

theorem allOk_one (i : Nat) (c : UInt8) : allOk i [c] = okB i c.toNat := by simp [allOk]

theorem drop_at (s : ByteArray) (p : Nat) (h : p < s.size) : s.data.toList.drop p = s[p] :: s.data.toList.drop (p + 1) := by
  rw [List.drop_eq_getElem_cons (by simpa using h)]; rfl

theorem okB_letter {i n : Nat} (h : (97 ≤ n ∧ n ≤ 122) ∨ (65 ≤ n ∧ n ≤ 90)) : okB i n = true := by
  unfold okB letterB; rcases h with h | h <;> simp [h]
theorem okB_rest {i n : Nat} (hi : 0 < i) (h : (48 ≤ n ∧ n ≤ 57) ∨ n = 45 ∨ n = 95) : okB i n = true := by
  unfold okB restB digitB; rcases h with h | h | h <;> simp [h, hi]
theorem okB_no {i n : Nat} (h : ¬ ((97 ≤ n ∧ n ≤ 122) ∨ (65 ≤ n ∧ n ≤ 90))) (h2 : ¬ (0 < i ∧ ((48 ≤ n ∧ n ≤ 57) ∨ n = 45 ∨ n = 95))) : okB i n = false := by
  rw [Bool.eq_false_iff]
  intro e
  unfold okB letterB restB digitB at e
  simp only [Bool.or_eq_true, Bool.and_eq_true, decide_eq_true_eq, beq_iff_eq] at e
  rcases e with e | ⟨e1, e2⟩
  · exact h e
  · exact h2 ⟨e1, by rcases e2 with (e2 | e2) | e2 <;> omega⟩

/-- A byte that may stand behind the first. -/
def cls (n : Nat) : Bool := letterB n || restB n
def cnt (l : List UInt8) : Nat := (l.filter fun c => cls c.toNat).length

theorem allOk_pos (t : List UInt8) : ∀ i, 0 < i → allOk i t = t.all (fun c => cls c.toNat) := by
  induction t with
  | nil => intro i _; rfl
  | cons c t ih => intro i hi; simp only [allOk, List.all_cons, ih (i + 1) (by omega)]; unfold okB cls; simp [hi]

theorem cnt_le (l : List UInt8) : cnt l ≤ l.length := List.length_filter_le _ _

theorem cnt_all (l : List UInt8) : cnt l = l.length ↔ l.all (fun c => cls c.toNat) = true := by
  unfold cnt
  rw [List.length_filter_eq_length_iff, List.all_eq_true]

theorem cnt_snoc (l : List UInt8) (c : UInt8) : cnt (l ++ [c]) = cnt l + if cls c.toNat then 1 else 0 := by
  unfold cnt
  rw [List.filter_append]
  by_cases h : cls c.toNat = true
  · simp [h]
  · simp [h]

theorem take_snoc (s : ByteArray) (k : Nat) (h : k < s.size) : s.data.toList.take (k + 1) = s.data.toList.take k ++ [s[k]] := by
  rw [List.take_succ_eq_append_getElem (by simpa using h)]; rfl

/-- The model's word: the first byte a letter, and all in the class. -/
theorem plain_count (c : UInt8) (t : List UInt8) : plainB (c :: t) = (letterB c.toNat && (cnt (c :: t) == (c :: t).length)) := by
  have h1 : allOk 0 (c :: t) = (letterB c.toNat && t.all (fun c => cls c.toNat)) := by
    simp only [allOk]
    rw [allOk_pos t (0 + 1) (by omega)]
    unfold okB; simp
  unfold plainB
  rw [h1]
  cases hl : letterB c.toNat with
  | false => simp
  | true =>
    simp only [List.isEmpty_cons, Bool.not_false, Bool.true_and]
    rw [Bool.eq_iff_iff, beq_iff_eq, cnt_all, List.all_cons]
    have : cls c.toNat = true := by unfold cls; rw [hl]; rfl
    rw [this]; simp
end Go.Proofs.Qxb6603535a.Name
