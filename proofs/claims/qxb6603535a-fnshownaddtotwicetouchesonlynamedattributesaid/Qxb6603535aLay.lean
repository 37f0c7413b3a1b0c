/-
  From what the builders leave to what AddTo and zzShownHolds ask.
-/
import Derived.Test.Qxb6603535aRdy
namespace Go.Proofs.Qxb6603535a.Lay
open Go.RowKit Go.Maps Go.Proofs.Qxb6603535a.Mem Go.Proofs.Qxb6603535a.Get Go.Proofs.Qxb6603535a.Row Go.Proofs.Qxb6603535a.Shown Go.Proofs.Qxb6603535a.AddCx Go.Proofs.Qxb6603535a.AddTo Go.Proofs.Qxb6603535a.Put Go.Proofs.Qxb6603535a.Count Go.Proofs.Qxb6603535a.Rdy_
set_option linter.unusedVariables false

/-- A list as it is built, its values' maps holding C. -/
structure Lay (w : World) (r n : Nat) (K : Nat → Nat) (V : Nat → ByteArray) (M : Nat → Nat) (C : Nat → Dm) : Prop where
  row : Rowed w r n (fun j => elv (K j) (V j) (M j))
  mp : ∀ j, j < n → K j ≠ 0 → Mp w (M j) (C j)
  new : ∀ j, j < n → K j ≠ 0 → r < M j
  inj : ∀ i j, i < n → j < n → K i ≠ 0 → K j ≠ 0 → M i = M j → i = j

theorem Lay.of {w : World} {om : Nat} {D : Dm} {s : ByteArray} {n : Nat} {K : Nat → Nat} {V : Nat → ByteArray} {r : Nat} {M : Nat → Nat} {w' : World} (h : Laid w om D s n K V r M w') : Lay w' r n K V M (fun j => base (K j) (V j)) :=
  ⟨h.row, h.mp, h.new, h.inj⟩

theorem Lay.turned {P : Nat → Prop} {w w' : World} {r n : Nat} {K : Nat → Nat} {V : Nat → ByteArray} {M : Nat → Nat} {C : Nat → Dm} (h : Lay w r n K V M C) (k : Turned P w w') (hp : ∀ j, P j → j < r ∨ w.heap.size ≤ j) : Lay w' r n K V M C := by
  refine ⟨h.row.block (k.block r h.row.lt (fun e => ?_)), fun j hj hK => k.mp (h.mp j hj hK) (fun e => ?_), h.new, h.inj⟩
  · have := h.row.lt
    rcases hp r e with h' | h' <;> omega
  · have h1 := h.new j hj hK
    have h2 := (h.mp j hj hK).lt
    rcases hp _ e with h' | h' <;> omega

theorem base_size (k : Nat) (t : ByteArray) : size (base k t) ≤ 2 := by
  unfold base
  split
  · rw [size_put (CanonK.empty.put (s := value) (by decide) _).tidy, size_put tidy_empty]
    split <;> split <;> simp [size_eq]
  · split
    · rw [size_put tidy_empty]; split <;> simp [size_eq]
    · rw [size_put tidy_empty]; split <;> simp [size_eq]

theorem shown_size {S T : Nat → ByteArray} {Th : Nat → Bool} {E : Dm} {o : ByteArray} (hE : CanonK E) : ∀ m, (∀ j, j < m → (S j).size ≤ maxLen) → size (shown S T Th E o m) ≤ size E + m
  | 0, _ => Nat.le_refl _
  | m + 1, hS => by
    have ih := shown_size (T := T) (Th := Th) (o := o) hE m (fun j hj => hS j (by omega))
    show size ((shown S T Th E o m).put _ _) ≤ _
    rw [size_put (shown_canon hE (fun j hj => hS j (by omega))).tidy]
    split <;> omega

theorem base_own (k : Nat) (t : ByteArray) : Own (base k t) (ownT k t) := by
  by_cases h1 : k = 1
  · subst h1
    exact ⟨_, (base_value t _).1, Or.inl rfl⟩
  · have eo : ownT k t = ⟨#[]⟩ := by unfold ownT; rw [if_neg h1]
    rw [eo]
    by_cases h2 : k = 2
    · subst h2
      exact ⟨_, (base_display t _).1, Or.inr ⟨rfl, Or.inl rfl⟩⟩
    · exact ⟨_, (base_num h1 h2 t _).1, Or.inr ⟨rfl, Or.inr ⟨_, rfl⟩⟩⟩

theorem okOf (c : Cx) (w : World) (hs : Mp w c.sb c.Ds) (hi : Mp w c.ib c.DT) (hob : Mp w c.om c.D) (hl : Lst c.D c.attr c.r c.n) (ha : c.attr.size ≤ maxLen) (hn : c.n ≤ 4096) (hm : c.m ≤ 4096)
    (lay : Lay w c.r c.n c.K c.V c.M c.C) (hsb : c.sb < c.r) (hib : c.ib < c.r) (hom : c.om < c.r) (hsz : ∀ i, i < c.n → c.K i ≠ 0 → size (c.C i) ≤ 8192)
    (hown : ∀ i, i < c.n → c.K i ≠ 0 → Own (c.C i) (c.o i) ∧ (c.o i).size ≤ 1048576) (hsubs : ∀ j, j < c.m → (c.S j).size ≤ maxLen ∧ c.S j ≠ value ∧ (c.T j).size ≤ 1048576) : Ok c w :=
  ⟨hs, hi, hob, hl, ha, hn, hm, lay.row.lt, fun i h => lay.row.cell h, lay.mp, lay.inj, fun i h hK => by have := lay.new i h hK; omega, hsz, hown, hsubs⟩

theorem out_lay {c : Cx} {w w' : World} (lay : Lay w c.r c.n c.K c.V c.M c.C) (out : Out c w false w') : Lay w' c.r c.n c.K c.V c.M c.C' := by
  have h : Turned (fun k => ∃ j, j < c.n ∧ c.K j ≠ 0 ∧ k = c.M j) w w' ∧ ∀ j, j < c.n → c.K j ≠ 0 → Mp w' (c.M j) (c.C' j) := out
  refine ⟨lay.row.block (h.1.block c.r lay.row.lt (fun ⟨j, hj, hK, e⟩ => ?_)), h.2, lay.new, lay.inj⟩
  have := lay.new j hj hK
  omega

theorem out_turned {c : Cx} {w w' : World} (lay : Lay w c.r c.n c.K c.V c.M c.C) (out : Out c w false w') : Turned (fun k => c.r < k) w w' := by
  have h : Turned (fun k => ∃ j, j < c.n ∧ c.K j ≠ 0 ∧ k = c.M j) w w' ∧ ∀ j, j < c.n → c.K j ≠ 0 → Mp w' (c.M j) (c.C' j) := out
  exact h.1.mono (fun k _ ⟨j, hj, hK, e⟩ => by rw [e]; exact lay.new j hj hK)

theorem ob_turned {P : Nat → Prop} {w w' : World} {ob om : Nat} {D : Dm} (h : Ob w ob om D) (k : Turned P w w') (h1 : ¬ P ob) (h2 : ¬ P om) : Ob w' ob om D :=
  ⟨by rw [← h.cell]; exact k.cell (p := ⟨ob, 0, none⟩) h.lt h1, Nat.lt_of_lt_of_le h.lt k.size, k.mp h.mp h2⟩
end Go.Proofs.Qxb6603535a.Lay
