/-
  What the maps hold, as folds of 'put': plain laws.
-/
import Derived.Test.Qxb6603535aGet
namespace Go.Proofs.Qxb6603535a.Shown
open Go.RowKit Go.Maps Go.Proofs.Qxb6603535a.Mem Go.Proofs.Qxb6603535a.Get
set_option linter.unusedVariables false

/-- What every reading of a map with string keys is. -/
def CanonK (D : Dm) : Prop := ∃ es, D = .map es ∧ es.Pairwise (fun p q => p.1.before q.1 = true) ∧ Keys (KeysOf Try.prog 9) es

theorem CanonK.canon {D : Dm} (h : CanonK D) : Canon D := by
  obtain ⟨es, rfl, h1, h2⟩ := h
  exact ⟨es, rfl, h1, fun p hp => law.one.key (h2 p hp)⟩

theorem CanonK.isMap {D : Dm} (h : CanonK D) : IsMap D := by
  obtain ⟨es, rfl, _⟩ := h
  exact ⟨es, rfl⟩

theorem CanonK.tidy {D : Dm} (h : CanonK D) : Tidy D := by
  obtain ⟨es, rfl, h1, _⟩ := h
  exact ⟨es, rfl, apart_of_rising h1⟩

theorem CanonK.empty : CanonK (.map []) := ⟨[], rfl, List.Pairwise.nil, fun p hp => by cases hp⟩

theorem ks_of {s : ByteArray} (hs : s.size ≤ maxLen) : KeysOf Try.prog 9 (ks s) := ⟨.string s, key_ks hs⟩

theorem CanonK.put {D : Dm} (h : CanonK D) {s : ByteArray} (hs : s.size ≤ maxLen) (d : Dm) : CanonK (D.put (ks s) d) := by
  obtain ⟨es, rfl, h1, h2⟩ := h
  refine ⟨_, DataW.put_eq _ _ _, ?_, ?_⟩
  · exact insert_sorted law.one (x := (ks s, d)) (ks_of hs) _ (h1.filter _) (fun p hp => h2 p (List.mem_filter.1 hp).1) (fun p hp => (notKey_iff (ks_key s)).1 (List.mem_filter.1 hp).2)
  · intro p hp
    unfold ChangeMaps.putKey at hp
    rcases ChangeMaps.mem_insert_iff.1 hp with rfl | hp
    · exact ks_of hs
    · exact h2 p (List.mem_filter.1 hp).1

theorem Mp.canonK {w : World} {b : Nat} {D : Dm} (h : Mp w b D) : CanonK D := by
  obtain ⟨es, clock, _, F, _, rfl⟩ := h
  refine ⟨_, rfl, sorted_sorted law.one _ (fit_keys F) (fit_apart law F), ?_⟩
  exact keys_perm (WideShapes.sorted_perm _).symm (fit_keys F)

def txt (t : ByteArray) (b : Bool) : Value := .agg #[.string t, .bool b]
def str (t : ByteArray) : Value := .iface 9 (.string t)
def full (o t : ByteArray) (b : Bool) : ByteArray := if b then t ++ o else t

/-- The texts' map when j subs have been laid in. -/
def inner (S T : Nat → ByteArray) (Th : Nat → Bool) : Nat → Dm
  | 0 => .map []
  | j + 1 => (inner S T Th j).put (ks (S j)) (.held (txt (T j) (Th j)))

/-- E with j subs shown. -/
def shown (S T : Nat → ByteArray) (Th : Nat → Bool) (E : Dm) (o : ByteArray) : Nat → Dm
  | 0 => E
  | j + 1 => (shown S T Th E o j).put (ks (S j)) (.held (str (full o (T j) (Th j))))

section
variable {S T : Nat → ByteArray} {Th : Nat → Bool} {E : Dm} {o : ByteArray} {m : Nat}

theorem inner_canon (hS : ∀ j, j < m → (S j).size ≤ maxLen) : CanonK (inner S T Th m) := by
  induction m with
  | zero => exact CanonK.empty
  | succ m ih => exact (ih (fun j hj => hS j (by omega))).put (hS m (by omega)) _

theorem shown_canon (hE : CanonK E) (hS : ∀ j, j < m → (S j).size ≤ maxLen) : CanonK (shown S T Th E o m) := by
  induction m with
  | zero => exact hE
  | succ m ih => exact (ih (fun j hj => hS j (by omega))).put (hS m (by omega)) _

theorem inner_size (hS : ∀ j, j < m → (S j).size ≤ maxLen) : size (inner S T Th m) ≤ m := by
  induction m with
  | zero => exact Nat.le_refl _
  | succ m ih =>
    have h := ih (fun j hj => hS j (by omega))
    have hc := inner_canon (S := S) (T := T) (Th := Th) (m := m) (fun j hj => hS j (by omega))
    show size ((inner S T Th m).put _ _) ≤ _
    rw [size_put hc.tidy]
    split <;> omega

/-- Among the first m subs. -/
theorem inner_has (hS : ∀ j, j < m → (S j).size ≤ maxLen) (k : Lit) : has (inner S T Th m) k = true ↔ ∃ j, j < m ∧ k = ks (S j) := by
  induction m with
  | zero => constructor
            · intro h; cases h
            · rintro ⟨j, hj, _⟩; omega
  | succ m ih =>
    have hc := inner_canon (S := S) (T := T) (Th := Th) (m := m) (fun j hj => hS j (by omega))
    show has ((inner S T Th m).put _ _) k = true ↔ _
    by_cases e : k = ks (S m)
    · subst e
      rw [has_put_same hc.isMap (ks_key _)]
      exact ⟨fun _ => ⟨m, by omega, rfl⟩, fun _ => rfl⟩
    · rw [has_put_other e, ih (fun j hj => hS j (by omega))]
      constructor
      · rintro ⟨j, hj, rfl⟩; exact ⟨j, by omega, rfl⟩
      · rintro ⟨j, hj, rfl⟩
        refine ⟨j, ?_, rfl⟩
        rcases Nat.lt_or_ge j m with h | h
        · exact h
        · exact absurd (by rw [show j = m by omega]) e

theorem shown_has (hE : CanonK E) (hS : ∀ j, j < m → (S j).size ≤ maxLen) (k : Lit) : has (shown S T Th E o m) k = (has E k || has (inner S T Th m) k) := by
  induction m with
  | zero => show has E k = (has E k || has (.map []) k); cases has E k <;> rfl
  | succ m ih =>
    have hS' : ∀ j, j < m → (S j).size ≤ maxLen := fun j hj => hS j (by omega)
    show has ((shown S T Th E o m).put _ _) k = (has E k || has ((inner S T Th m).put _ _) k)
    by_cases e : k = ks (S m)
    · subst e
      rw [has_put_same (shown_canon hE hS').isMap (ks_key _), has_put_same (inner_canon hS').isMap (ks_key _)]
      simp
    · rw [has_put_other e, has_put_other e, ih hS']

/-- At a key that is shown: the last sub of that name. -/
theorem shown_at (hE : CanonK E) (hS : ∀ j, j < m → (S j).size ≤ maxLen) (k : Lit) (h : has (inner S T Th m) k = true) :
    ∃ j, j < m ∧ k = ks (S j) ∧ (∀ i, j < i → i < m → S i ≠ S j) ∧ (∀ z, (inner S T Th m).atKey k z = .held (txt (T j) (Th j))) ∧ ∀ z, (shown S T Th E o m).atKey k z = .held (str (full o (T j) (Th j))) := by
  induction m with
  | zero => cases h
  | succ m ih =>
    have hS' : ∀ j, j < m → (S j).size ≤ maxLen := fun j hj => hS j (by omega)
    by_cases e : k = ks (S m)
    · subst e
      exact ⟨m, by omega, rfl, fun i h1 h2 => by omega, fun z => atKey_put_same (inner_canon hS').isMap (ks_key _) _ _, fun z => atKey_put_same (shown_canon hE hS').isMap (ks_key _) _ _⟩
    · have h' : has ((inner S T Th m).put (ks (S m)) (.held (txt (T m) (Th m)))) k = true := h
      rw [has_put_other e] at h'
      obtain ⟨j, hj, rfl, hl, h1, h2⟩ := ih hS' h'
      refine ⟨j, by omega, rfl, fun i a b => ?_, fun z => ?_, fun z => ?_⟩
      · rcases Nat.lt_or_ge i m with c | c
        · exact hl i a c
        · have : i = m := by omega
          subst this
          exact fun x => e (by rw [x])
      · show ((inner S T Th m).put _ _).atKey _ z = _
        rw [atKey_put_other e, h1]
      · show ((shown S T Th E o m).put _ _).atKey _ z = _
        rw [atKey_put_other e, h2]

/-- At another key: what E holds. -/
theorem shown_else (hS : ∀ j, j < m → (S j).size ≤ maxLen) (k : Lit) (h : has (inner S T Th m) k = false) (z : Dm) : (shown S T Th E o m).atKey k z = E.atKey k z := by
  induction m with
  | zero => rfl
  | succ m ih =>
    have hS' : ∀ j, j < m → (S j).size ≤ maxLen := fun j hj => hS j (by omega)
    have h' : has ((inner S T Th m).put (ks (S m)) (.held (txt (T m) (Th m)))) k = false := h
    have e : k ≠ ks (S m) := by
      intro e
      subst e
      rw [has_put_same (inner_canon hS').isMap (ks_key _)] at h'
      cases h'
    rw [has_put_other e] at h'
    show ((shown S T Th E o m).put _ _).atKey _ z = _
    rw [atKey_put_other e, ih hS' h']

/-- E1 is E with those of DT shown that are no longer to come. -/
structure Part (DT E : Dm) (o : ByteArray) (left : Lit → Bool) (E1 : Dm) : Prop where
  hs : ∀ k, has E1 k = (has E k || (has DT k && !left k))
  done : ∀ k t b, has DT k = true → left k = false → (∀ z, DT.atKey k z = .held (txt t b)) → ∀ z, E1.atKey k z = .held (str (full o t b))
  rest : ∀ k, (has DT k && !left k) = false → ∀ z, E1.atKey k z = E.atKey k z

theorem Part.start (DT E : Dm) (o : ByteArray) : Part DT E o (has DT) E :=
  ⟨fun k => (by cases has DT k <;> simp), fun k t b h1 h2 => absurd (h1.symm.trans h2) (by simp), fun k _ z => rfl⟩

theorem Part.step {DT E E1 : Dm} {left : Lit → Bool} (h : Part DT E o left E1) (hm : IsMap E1) {s t : ByteArray} {b : Bool} (hat : ∀ z, DT.atKey (ks s) z = .held (txt t b)) :
    Part DT E o (fun z => left z && !z.sameKey (ks s)) (E1.put (ks s) (.held (str (full o t b)))) := by
  have hself : (ks s).sameKey (ks s) = true := WideAt.sameKey_self (ks_key s)
  refine ⟨fun k => ?_, fun k t' b' h1 h2 h3 z => ?_, fun k h1 z => ?_⟩
  · by_cases e : k = ks s
    · subst e
      rw [has_put_same hm (ks_key s), has_true_of_atKey hat, hself]
      simp
    · rw [has_put_other e, h.hs k, sameKey_ne e]
      simp
  · by_cases e : k = ks s
    · subst e
      have := (h3 .nil).symm.trans (hat .nil)
      unfold txt at this
      simp at this
      rw [atKey_put_same hm (ks_key s), this.1, this.2]
    · rw [atKey_put_other e]
      refine h.done k t' b' h1 ?_ h3 z
      simpa [sameKey_ne e] using h2
  · by_cases e : k = ks s
    · subst e
      rw [has_true_of_atKey hat, hself] at h1
      simp at h1
    · rw [atKey_put_other e]
      refine h.rest k ?_ z
      rw [sameKey_ne e] at h1
      simpa using h1

theorem Part.fin {E1 : Dm} {left : Lit → Bool} (hS : ∀ j, j < m → (S j).size ≤ maxLen) (h : Part (inner S T Th m) E o left E1) (hl : ∀ k, left k = false) (hE : CanonK E) (h1 : CanonK E1) : E1 = shown S T Th E o m := by
  refine ext h1.canon (shown_canon hE hS).canon (fun k => ?_) (fun k z _ => ?_)
  · rw [h.hs, hl, shown_has hE hS]; simp
  · by_cases hk : has (inner S T Th m) k = true
    · obtain ⟨j, hj, rfl, _, h2, h3⟩ := shown_at (o := o) hE hS k hk
      rw [h.done _ _ _ hk (hl _) h2, h3]
    · have hk' : has (inner S T Th m) k = false := by simpa using hk
      rw [h.rest k (by rw [hk']; rfl), shown_else hS k hk']

/-- Shown twice is shown once. -/
theorem shown_twice (hS : ∀ j, j < m → (S j).size ≤ maxLen) (hE : CanonK E) : shown S T Th (shown S T Th E o m) o m = shown S T Th E o m := by
  have hc := shown_canon (T := T) (Th := Th) (o := o) hE hS
  refine ext (shown_canon hc hS).canon hc.canon (fun k => ?_) (fun k z _ => ?_)
  · rw [shown_has hc hS, shown_has hE hS]; cases has E k <;> cases has (inner S T Th m) k <;> rfl
  · by_cases hk : has (inner S T Th m) k = true
    · obtain ⟨j, hj, rfl, _, h2, h3⟩ := shown_at (o := o) hE hS k hk
      obtain ⟨j', hj', _, _, h2', h3'⟩ := shown_at (o := o) hc hS _ hk
      have := (h2 .nil).symm.trans (h2' .nil)
      unfold txt at this
      simp at this
      rw [h3, h3', this.1, this.2]
    · have hk' : has (inner S T Th m) k = false := by simpa using hk
      rw [shown_else hS k hk']
end
end Go.Proofs.Qxb6603535a.Shown
