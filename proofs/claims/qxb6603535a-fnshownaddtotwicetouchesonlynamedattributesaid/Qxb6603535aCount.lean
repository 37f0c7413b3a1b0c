/-
  How many members a value has once the subs are shown: plain laws.
-/
import Derived.Test.Qxb6603535aPut
namespace Go.Proofs.Qxb6603535a.Count
open Go.RowKit Go.Maps Go.Proofs.Qxb6603535a.Mem Go.Proofs.Qxb6603535a.Get Go.Proofs.Qxb6603535a.Shown Go.Proofs.Qxb6603535a.AddCx Go.Proofs.Qxb6603535a.Put
set_option linter.unusedVariables false

/-- Sub i is the last of its name among the first m. -/
def lastB (S : Nat → ByteArray) (m i : Nat) : Bool := decide (∀ x, x < m → i < x → S x ≠ S i)

def cntB (L : Nat → Bool) : Nat → Nat
  | 0 => 0
  | j + 1 => cntB L j + if L j then 1 else 0

def anyB (P : Nat → Bool) : Nat → Bool
  | 0 => false
  | j + 1 => anyB P j || P j

theorem anyB_iff (P : Nat → Bool) (m : Nat) : anyB P m = true ↔ ∃ j, j < m ∧ P j = true := by
  induction m with
  | zero => simp [anyB]
  | succ m ih =>
    unfold anyB
    rw [Bool.or_eq_true, ih]
    constructor
    · rintro (⟨j, hj, h⟩ | h)
      · exact ⟨j, by omega, h⟩
      · exact ⟨m, by omega, h⟩
    · rintro ⟨j, hj, h⟩
      rcases Nat.lt_or_ge j m with h' | h'
      · exact Or.inl ⟨j, h', h⟩
      · rw [show m = j by omega]; exact Or.inr h

theorem cntB_le (L : Nat → Bool) (m : Nat) : cntB L m ≤ m := by
  induction m with
  | zero => exact Nat.le_refl _
  | succ m ih => unfold cntB; split <;> omega

/-- The subs' names, from the last on. -/
def back (S : Nat → ByteArray) (m : Nat) : Nat → Dm
  | 0 => .map []
  | t + 1 => (back S m t).put (ks (S (m - (t + 1)))) (.held .nilIface)

section
variable {S T : Nat → ByteArray} {Th : Nat → Bool} {m : Nat} {E : Dm}

theorem back_canon (hS : ∀ j, j < m → (S j).size ≤ maxLen) : ∀ t, t ≤ m → CanonK (back S m t)
  | 0, _ => CanonK.empty
  | t + 1, ht => (back_canon hS t (by omega)).put (hS _ (by omega)) _

theorem back_has (hS : ∀ j, j < m → (S j).size ≤ maxLen) (k : Lit) : ∀ t, t ≤ m → (has (back S m t) k = true ↔ ∃ j, m - t ≤ j ∧ j < m ∧ k = ks (S j))
  | 0, _ => ⟨fun h => absurd h (by simp [back, has_eq]), fun ⟨j, h1, h2, _⟩ => absurd h1 (by omega)⟩
  | t + 1, ht => by
    have ih := back_has hS k t (by omega)
    show has ((back S m t).put _ _) k = true ↔ _
    by_cases e : k = ks (S (m - (t + 1)))
    · subst e
      rw [has_put_same (back_canon hS t (by omega)).isMap (ks_key _)]
      exact ⟨fun _ => ⟨m - (t + 1), by omega, by omega, rfl⟩, fun _ => rfl⟩
    · rw [has_put_other e, ih]
      constructor
      · rintro ⟨j, h1, h2, h3⟩; exact ⟨j, by omega, h2, h3⟩
      · rintro ⟨j, h1, h2, h3⟩
        refine ⟨j, ?_, h2, h3⟩
        rcases Nat.lt_or_ge j (m - t) with h' | h'
        · exact absurd (by rw [h3, show j = m - (t + 1) by omega]) e
        · exact h'

theorem back_size (hS : ∀ j, j < m → (S j).size ≤ maxLen) : ∀ t, t ≤ m → size (back S m t) + cntB (lastB S m) (m - t) = cntB (lastB S m) m
  | 0, _ => by simp [back, size]
  | t + 1, ht => by
    have ih := back_size hS t (by omega)
    have e1 : m - t = (m - (t + 1)) + 1 := by omega
    have e2 : cntB (lastB S m) (m - t) = cntB (lastB S m) (m - (t + 1)) + if lastB S m (m - (t + 1)) then 1 else 0 := by rw [e1]; rfl
    rw [e2] at ih
    show size ((back S m t).put _ _) + _ = _
    rw [size_put (back_canon hS t (by omega)).tidy]
    have hl : lastB S m (m - (t + 1)) = !has (back S m t) (ks (S (m - (t + 1)))) := by
      rw [Bool.eq_iff_iff]
      unfold lastB
      rw [decide_eq_true_eq, Bool.not_eq_true', ← Bool.not_eq_true, back_has hS _ t (by omega)]
      constructor
      · rintro h ⟨j, h1, h2, h3⟩
        exact h j h2 (by omega) (ks_inj h3).symm
      · intro h x hx hlt e
        exact h ⟨x, by omega, hx, by rw [e]⟩
    rw [hl] at ih
    cases hh : has (back S m t) (ks (S (m - (t + 1)))) <;> simp [hh] at ih ⊢ <;> omega

/-- Two maps with the same keys have as many members. -/
theorem same_size {D1 D2 : Dm} (h1 : CanonK D1) (h2 : CanonK D2) (h : ∀ k, has D1 k = has D2 k) : size D1 = size D2 := by
  obtain ⟨es1, rfl, p1, q1⟩ := h1
  obtain ⟨es2, rfl, p2, q2⟩ := h2
  have key : ∀ (es : List (Lit × Dm)), es.Pairwise (fun p q => p.1.before q.1 = true) → Keys (KeysOf Try.prog 9) es →
      Canon (DataW.map (es.map fun p => (p.1, (DataW.nil : Dm)))) := fun es p q =>
    ⟨_, rfl, List.pairwise_map.2 p, fun x hx => by
      obtain ⟨y, hy, rfl⟩ := List.mem_map.1 hx
      exact law.one.key (q y hy)⟩
  have hh : ∀ (es : List (Lit × Dm)) k, has (DataW.map (es.map fun p => (p.1, (DataW.nil : Dm)))) k = has (.map es) k := fun es k => by
    rw [has_eq, has_eq, List.any_map]; rfl
  have hat : ∀ (es : List (Lit × Dm)) k z, has (.map es) k = true → DataW.atKey (DataW.map (es.map fun p => (p.1, (DataW.nil : Dm)))) k z = .nil := fun es k z hk => by
    unfold DataW.atKey
    simp only [List.find?_map]
    rw [has_eq, List.any_eq_true] at hk
    obtain ⟨p, hp, hs⟩ := hk
    cases hf : List.find? ((fun p => p.1.sameKey k) ∘ fun p : Lit × Dm => (p.1, (DataW.nil : Dm))) es with
    | none => exact absurd (List.find?_eq_none.1 hf p hp) (by simpa using hs)
    | some y => rfl
  have e := ext (key es1 p1 q1) (key es2 p2 q2) (fun k => by rw [hh, hh, h]) (fun k z hk => by
    rw [hh] at hk
    rw [hat es1 k z hk, hat es2 k z (by rw [← h]; exact hk)])
  have := congrArg size e
  simpa [size] using this

theorem back_inner (hS : ∀ j, j < m → (S j).size ≤ maxLen) (k : Lit) : has (back S m m) k = has (inner S T Th m) k := by
  rw [Bool.eq_iff_iff, back_has hS k m (Nat.le_refl _), inner_has hS]
  constructor
  · rintro ⟨j, _, h2, h3⟩; exact ⟨j, h2, h3⟩
  · rintro ⟨j, h2, h3⟩; exact ⟨j, by omega, h2, h3⟩

theorem back_all (hS : ∀ j, j < m → (S j).size ≤ maxLen) : size (back S m m) = cntB (lastB S m) m := by
  have := back_size hS m (Nat.le_refl _)
  rw [Nat.sub_self] at this
  exact this

/-- Is the name among the subs? -/
def among (S : Nat → ByteArray) (m : Nat) (s : ByteArray) : Bool := anyB (fun j => decide (S j = s)) m

theorem among_iff (s : ByteArray) : among S m s = true ↔ ∃ j, j < m ∧ S j = s := by
  unfold among
  rw [anyB_iff]
  simp

theorem inner_among (hS : ∀ j, j < m → (S j).size ≤ maxLen) (s : ByteArray) : has (inner S T Th m) (ks s) = among S m s := by
  rw [Bool.eq_iff_iff, inner_has hS, among_iff]
  constructor
  · rintro ⟨j, hj, e⟩; exact ⟨j, hj, (ks_inj e).symm⟩
  · rintro ⟨j, hj, e⟩; exact ⟨j, hj, by rw [e]⟩

theorem base_canon (k : Nat) (t : ByteArray) : CanonK (base k t) := by
  unfold base
  split
  · exact (CanonK.empty.put (by decide) _).put (by decide) _
  · split
    · exact CanonK.empty.put (by decide) _
    · exact CanonK.empty.put (by decide) _

theorem kvt : ks value ≠ ks type_ := fun e => absurd (ks_inj e) (by decide)
theorem kvd : ks value ≠ ks display := fun e => absurd (ks_inj e) (by decide)

theorem size_one (hS : ∀ j, j < m → (S j).size ≤ maxLen) (hv : among S m value = false) (t o : ByteArray) :
    size (shown S T Th (base 1 t) o m) = cntB (lastB S m) m + 1 + if among S m type_ then 0 else 1 := by
  have hc := back_canon hS m (Nat.le_refl _)
  have h1 : size (shown S T Th (base 1 t) o m) = size (((back S m m).put (ks value) (.held .nilIface)).put (ks type_) (.held .nilIface)) := by
    refine same_size (shown_canon (base_canon _ _) hS) ((hc.put (by decide) _).put (by decide) _) (fun k => ?_)
    rw [shown_has (base_canon _ _) hS]
    unfold base
    rw [if_pos rfl]
    by_cases e1 : k = ks type_
    · subst e1
      rw [has_put_same (CanonK.empty.put (by decide) _).isMap (ks_key _), has_put_same (hc.put (by decide) _).isMap (ks_key _)]; rfl
    · by_cases e2 : k = ks value
      · subst e2
        rw [has_put_other e1, has_put_other e1, has_put_same isMap_empty (ks_key _), has_put_same hc.isMap (ks_key _)]; rfl
      · rw [has_put_other e1, has_put_other e1, has_put_other e2, has_put_other e2, back_inner (T := T) (Th := Th) hS]; rfl
  rw [h1, size_put (hc.put (by decide) _).tidy, has_put_other kvt.symm, size_put hc.tidy, back_inner (T := T) (Th := Th) hS, back_inner (T := T) (Th := Th) hS, inner_among hS, inner_among hS, hv, back_all hS]
  cases among S m type_ <;> simp

theorem size_two (hS : ∀ j, j < m → (S j).size ≤ maxLen) (t o : ByteArray) :
    size (shown S T Th (base 2 t) o m) = cntB (lastB S m) m + if among S m display then 0 else 1 := by
  have hc := back_canon hS m (Nat.le_refl _)
  have h1 : size (shown S T Th (base 2 t) o m) = size ((back S m m).put (ks display) (.held .nilIface)) := by
    refine same_size (shown_canon (base_canon _ _) hS) (hc.put (by decide) _) (fun k => ?_)
    rw [shown_has (base_canon _ _) hS]
    unfold base
    rw [if_neg (by decide), if_pos rfl]
    by_cases e2 : k = ks display
    · subst e2
      rw [has_put_same isMap_empty (ks_key _), has_put_same hc.isMap (ks_key _)]; rfl
    · rw [has_put_other e2, has_put_other e2, back_inner (T := T) (Th := Th) hS]; rfl
  rw [h1, size_put hc.tidy, back_inner (T := T) (Th := Th) hS, inner_among hS, back_all hS]
  cases among S m display <;> simp

theorem size_more (hS : ∀ j, j < m → (S j).size ≤ maxLen) (hv : among S m value = false) {k : Nat} (h1 : k ≠ 1) (h2 : k ≠ 2) (t o : ByteArray) :
    size (shown S T Th (base k t) o m) = cntB (lastB S m) m + 1 := by
  have hc := back_canon hS m (Nat.le_refl _)
  have h1 : size (shown S T Th (base k t) o m) = size ((back S m m).put (ks value) (.held .nilIface)) := by
    refine same_size (shown_canon (base_canon _ _) hS) (hc.put (by decide) _) (fun k' => ?_)
    rw [shown_has (base_canon _ _) hS]
    unfold base
    rw [if_neg h1, if_neg h2]
    by_cases e2 : k' = ks value
    · subst e2
      rw [has_put_same isMap_empty (ks_key _), has_put_same hc.isMap (ks_key _)]; rfl
    · rw [has_put_other e2, has_put_other e2, back_inner (T := T) (Th := Th) hS]; rfl
  rw [h1, size_put hc.tidy, back_inner (T := T) (Th := Th) hS, inner_among hS, hv, back_all hS]
  simp

/-- A member that no sub shows is as it was built. -/
theorem at_else (hS : ∀ j, j < m → (S j).size ≤ maxLen) {s : ByteArray} (hs : among S m s = false) (E : Dm) (o : ByteArray) (z : Dm) : (shown S T Th E o m).atKey (ks s) z = E.atKey (ks s) z :=
  shown_else hS _ (by rw [inner_among hS, hs]) z

theorem has_else (hE : CanonK E) (hS : ∀ j, j < m → (S j).size ≤ maxLen) {s : ByteArray} (hs : among S m s = false) (o : ByteArray) : has (shown S T Th E o m) (ks s) = has E (ks s) := by
  rw [shown_has hE hS, inner_among hS, hs, Bool.or_false]

/-- A sub that is the last of its name. -/
theorem at_last (hE : CanonK E) (hS : ∀ j, j < m → (S j).size ≤ maxLen) {j : Nat} (hj : j < m) (hl : lastB S m j = true) (o : ByteArray) (z : Dm) :
    (shown S T Th E o m).atKey (ks (S j)) z = .held (str (full o (T j) (Th j))) ∧ has (shown S T Th E o m) (ks (S j)) = true := by
  have hi : has (inner S T Th m) (ks (S j)) = true := (inner_has hS _).2 ⟨j, hj, rfl⟩
  obtain ⟨j', hj', e, hlast, h1, h2⟩ := shown_at (o := o) hE hS _ hi
  have hl' : ∀ x, x < m → j < x → S x ≠ S j := of_decide_eq_true hl
  have ej := ks_inj e
  have : j' = j := by
    rcases Nat.lt_trichotomy j' j with h | h | h
    · exact absurd ej (hlast j h hj)
    · exact h
    · exact absurd ej.symm (hl' j' hj' h)
  subst this
  exact ⟨h2 z, by rw [shown_has hE hS, hi, Bool.or_true]⟩

theorem base_value (t : ByteArray) (z : Dm) : (base 1 t).atKey (ks value) z = .held (str t) ∧ has (base 1 t) (ks value) = true ∧ (base 1 t).atKey (ks type_) z = .held (str old) ∧ has (base 1 t) (ks type_) = true := by
  unfold base
  rw [if_pos rfl]
  exact ⟨by rw [atKey_put_other kvt, atKey_put_same isMap_empty (ks_key _)], by rw [has_put_other kvt, has_put_same isMap_empty (ks_key _)],
    atKey_put_same (isMap_empty.put _ _) (ks_key _) _ _, has_put_same (isMap_empty.put _ _) (ks_key _) _⟩

theorem base_display (t : ByteArray) (z : Dm) : (base 2 t).atKey (ks value) z = z ∧ has (base 2 t) (ks value) = false ∧ (base 2 t).atKey (ks display) z = .held (str t) ∧ has (base 2 t) (ks display) = true := by
  unfold base
  rw [if_neg (by decide), if_pos rfl]
  refine ⟨by rw [atKey_put_other kvd]; rfl, by rw [has_put_other kvd]; rfl, atKey_put_same isMap_empty (ks_key _) _ _, has_put_same isMap_empty (ks_key _) _⟩

theorem base_num {k : Nat} (h1 : k ≠ 1) (h2 : k ≠ 2) (t : ByteArray) (z : Dm) : (base k t).atKey (ks value) z = .held num ∧ has (base k t) (ks value) = true := by
  unfold base
  rw [if_neg h1, if_neg h2]
  exact ⟨atKey_put_same isMap_empty (ks_key _) _ _, has_put_same isMap_empty (ks_key _) _⟩
end
end Go.Proofs.Qxb6603535a.Count
