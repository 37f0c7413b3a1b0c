/-
  Tries of a given level, as plain data, and how one lies in memory. No program is named here.
-/
import Derived.WalkKit
import Derived.ProofKit
namespace Go.Proofs.Qxb6603532aDoor.Trie
open Go.RowKit

/-- A trie read down to level n: nil, or (level 0) four times, or four tries of one level less. -/
def T : Nat → Type
  | 0 => Option (Nat → Int)
  | n + 1 => Option (Nat → T n)

def T.nil : (n : Nat) → T n
  | 0 => (none : Option (Nat → Int))
  | n + 1 => (none : Option (Nat → T n))

def T.leaf (f : Nat → Int) : T 0 := (some f : Option (Nat → Int))
def T.node {n : Nat} (f : Nat → T n) : T (n + 1) := (some f : Option (Nat → T n))

/-- Where node b, o lies, the four leaf cells hold the times f. -/
def Leaf (w : World) (b o : Nat) (f : Nat → Int) : Prop :=
  ∀ i, i < 4 → w.cell? ⟨b, o + 4 + i, none⟩ = some (.int .u64 (f i)) ∧ 0 ≤ f i ∧ f i ≤ 18446744073709551615

/-- A block of plain cells, none of them frozen. -/
def Clean (w : World) (b : Nat) : Prop := ∃ ca ta, w.heap[b]? = some (.cells ca ta (0, 0))

theorem Clean.store {w : World} {b : Nat} (h : Clean w b) (a : Addr) (x : Value) : Clean (w.setCell a x) b := by
  obtain ⟨ca, ta, h⟩ := h
  unfold Clean
  simp only [World.setCell, Array.getElem?_modify, h]
  split
  · exact ⟨_, _, rfl⟩
  · exact ⟨_, _, rfl⟩

theorem Clean.lt {w : World} {b : Nat} (h : Clean w b) : b < w.heap.size := by
  obtain ⟨ca, ta, h⟩ := h
  exact (Array.getElem?_eq_some_iff.1 h).1

theorem Clean.below {w w' : World} {b : Nat} (hb : Below w.heap.size w w') (h : Clean w b) : Clean w' b := by
  have hl := h.lt
  obtain ⟨ca, ta, h⟩ := h
  exact ⟨ca, ta, by rw [hb.block b hl]; exact h⟩

theorem Clean.new (w : World) (c : Array Value) (t : TypeId) {b : Nat} (hb : w.heap.size = b) : Clean (w.alloc (.cells c t)) b := by
  subst hb; exact ⟨c, t, heap_alloc_new w _⟩

/-- How a trie of level n lies in the memory w, in blocks that B lets, reached by the pointer u. With the mark k: in clean blocks. -/
def RepB (w : World) (k : Bool) (B : Nat → Prop) : (n : Nat) → Option Addr → T n → Prop
  | 0, u, t => (t = T.nil 0 ∧ u = none) ∨ ∃ (b o : Nat) (f : Nat → Int), t = T.leaf f ∧ u = some ⟨b, o, none⟩ ∧ B b ∧ (k = true → Clean w b) ∧ Leaf w b o f
  | n + 1, u, t => (t = T.nil (n + 1) ∧ u = none) ∨ ∃ (b o : Nat) (f : Nat → T n) (U : Nat → Option Addr), t = T.node f ∧ u = some ⟨b, o, none⟩ ∧ B b ∧ (k = true → Clean w b) ∧
      ∀ i, i < 4 → w.cell? ⟨b, o + i, none⟩ = some (.pointer (U i)) ∧ RepB w k B n (U i) (f i)

/-- .. in blocks from lo on. -/
def Rep (w : World) (k : Bool) (lo n : Nat) (u : Option Addr) (t : T n) : Prop := RepB w k (fun b => lo ≤ b) n u t

/-- What a trie's cells say in w they say in w'. -/
theorem RepB.carry {w w' : World} {k : Bool} {B B' : Nat → Prop} (h : ∀ (a : Addr) v, B a.block → w.cell? a = some v → w'.cell? a = some v) (hc : ∀ b, Clean w b → Clean w' b)
    (hB : ∀ b, B b → b < w.heap.size → B' b) :
    ∀ (n : Nat) (u : Option Addr) (t : T n), RepB w k B n u t → RepB w' k B' n u t := by
  have lt : ∀ {a : Addr} {v : Value}, w.cell? a = some v → a.block < w.heap.size := by
    intro a v h
    by_cases hb : a.block < w.heap.size
    · exact hb
    · exfalso
      have : w.heap[a.block]? = none := Array.getElem?_eq_none (by omega)
      simp [World.cell?, this] at h
  intro n
  induction n with
  | zero =>
    intro v t hr
    rcases hr with hr | ⟨b, o, f, h1, h2, hl, hcl, h3⟩
    · exact Or.inl hr
    · exact Or.inr ⟨b, o, f, h1, h2, hB b hl (lt (h3 0 (by omega)).1), fun e => hc b (hcl e), fun i hi => ⟨h _ _ hl (h3 i hi).1, (h3 i hi).2⟩⟩
  | succ n ih =>
    intro v t hr
    rcases hr with hr | ⟨b, o, f, V, h1, h2, hl, hcl, h3⟩
    · exact Or.inl hr
    · exact Or.inr ⟨b, o, f, V, h1, h2, hB b hl (lt (h3 0 (by omega)).1), fun e => hc b (hcl e), fun i hi => ⟨h _ _ hl (h3 i hi).1, ih _ _ (h3 i hi).2⟩⟩

theorem Rep.carry {w w' : World} {k : Bool} {lo : Nat} (h : ∀ (a : Addr) v, lo ≤ a.block → w.cell? a = some v → w'.cell? a = some v) (hc : ∀ b, Clean w b → Clean w' b) :
    ∀ (n : Nat) (u : Option Addr) (t : T n), Rep w k lo n u t → Rep w' k lo n u t :=
  RepB.carry h hc (fun _ hb _ => hb)

theorem Rep.low {w : World} {k : Bool} {lo lo' : Nat} (hle : lo' ≤ lo) :
    ∀ (n : Nat) (u : Option Addr) (t : T n), Rep w k lo n u t → Rep w k lo' n u t :=
  RepB.carry (fun _ _ _ h => h) (fun _ h => h) (fun _ hb _ => Nat.le_trans hle hb)

theorem cell_lt {w : World} {a : Addr} {v : Value} (h : w.cell? a = some v) : a.block < w.heap.size := by
  by_cases hb : a.block < w.heap.size
  · exact hb
  · exfalso
    have : w.heap[a.block]? = none := Array.getElem?_eq_none (by omega)
    simp [World.cell?, this] at h

theorem below_cell {w w' : World} (hb : Below w.heap.size w w') {a : Addr} {v : Value} (h : w.cell? a = some v) : w'.cell? a = some v := by
  rw [hb.cell (cell_lt h)]; exact h

theorem cell_store_far {w : World} {a b : Addr} {v x : Value} (hne : a ≠ b) (h : w.cell? b = some x) : (w.setCell a v).cell? b = some x := by
  rw [World.cell?_setCell_other _ _ _ _ hne]; exact h

theorem Rep.below {w w' : World} (hb : Below w.heap.size w w') {k : Bool} {lo n : Nat} {u : Option Addr} {t : T n} (h : Rep w k lo n u t) : Rep w' k lo n u t :=
  Rep.carry (fun _ _ _ hc => below_cell hb hc) (fun _ hc => hc.below hb) n u t h

/-- A store below lo turns nothing of a trie that lies from lo on. -/
theorem Rep.store {w : World} {a : Addr} {x : Value} {k : Bool} {lo n : Nat} {u : Option Addr} {t : T n} (ha : a.block < lo) (h : Rep w k lo n u t) : Rep (w.setCell a x) k lo n u t :=
  Rep.carry (fun p v hp hc => by
    rw [World.cell?_of_block (w := w) (Below.heap_setCell _ _ _ _ (by omega))]; exact hc) (fun _ hc => hc.store _ _) n u t h

theorem Rep.drew {w : World} {k : Bool} {lo n : Nat} {u : Option Addr} {t : T n} (h : Rep w k lo n u t) : Rep w.drew k lo n u t :=
  Rep.carry (w := w) (w' := w.drew) (fun _ _ _ hc => hc) (fun _ hc => hc) n u t h

theorem RepB.nil_of {w : World} {k : Bool} {B : Nat → Prop} {n : Nat} {t : T n} (h : RepB w k B n none t) : t = T.nil n := by
  cases n with
  | zero => rcases h with h | ⟨b, o, f, _, h2, _⟩
            · exact h.1
            · cases h2
  | succ n => rcases h with h | ⟨b, o, f, V, _, h2, _⟩
              · exact h.1
              · cases h2

theorem Rep.nil_of {w : World} {k : Bool} {lo n : Nat} {t : T n} (h : Rep w k lo n none t) : t = T.nil n := RepB.nil_of h

theorem RepB.mk_nil (w : World) (k : Bool) (B : Nat → Prop) (n : Nat) : RepB w k B n none (T.nil n) := by
  cases n with
  | zero => exact Or.inl ⟨rfl, rfl⟩
  | succ n => exact Or.inl ⟨rfl, rfl⟩

theorem Rep.mk_nil (w : World) (k : Bool) (lo n : Nat) : Rep w k lo n none (T.nil n) := RepB.mk_nil _ _ _ _

/-- How many nodes a trie unfolds into. -/
def T.size : (n : Nat) → T n → Nat
  | 0, t => match (t : Option (Nat → Int)) with | none => 0 | some _ => 1
  | n + 1, t => match (t : Option (Nat → T n)) with | none => 0 | some f => 1 + T.size n (f 0) + T.size n (f 1) + T.size n (f 2) + T.size n (f 3)

theorem T.size_nil (n : Nat) : T.size n (T.nil n) = 0 := by cases n <;> rfl
theorem T.size_leaf (f : Nat → Int) : T.size 0 (T.leaf f) = 1 := rfl
theorem T.size_node {n : Nat} (f : Nat → T n) : T.size (n + 1) (T.node f) = 1 + T.size n (f 0) + T.size n (f 1) + T.size n (f 2) + T.size n (f 3) := rfl

/-- The copy in the making: block m of wr holds, at its first k cells, copies of the first k kids, all laid behind m. -/
structure Half (w wr : World) (m n k : Nat) (f : Nat → T n) (C : Nat → Option Addr) : Prop where
  below : Below m w wr
  lt : m < wr.heap.size
  cell : ∀ j, j < 4 → wr.cell? ⟨m, j, none⟩ = some (.pointer (C j))
  thaw : ∀ j, j < 4 → wr.frozen? ⟨m, j, none⟩ = false
  clean : Clean wr m
  kids : ∀ j, j < k → Rep wr true (m + 1) n (C j) (f j)

theorem Half.draw {w wr : World} {m n k : Nat} {f : Nat → T n} {C : Nat → Option Addr} (h : Half w wr m n k f C) : Half w wr.drew m n k f C :=
  ⟨h.below.drew, h.lt, h.cell, h.thaw, h.clean, fun j hj => Rep.drew (h.kids j hj)⟩

/-- One kid more: it was copied in wr (the world behind: w1), and its pointer is stored into cell k of block m. -/
theorem Half.step {w wr w1 : World} {m n k : Nat} {f : Nat → T n} {C : Nat → Option Addr} (h : Half w wr m n k f C) (hk : k < 4)
    (hb : Below wr.heap.size wr w1) {u : Option Addr} (hr : Rep w1 true wr.heap.size n u (f k)) :
    Half w (w1.setCell ⟨m, k, none⟩ (.pointer u)) m n (k + 1) f (fun j => if j = k then u else C j) := by
  have hlt := h.lt
  have hc1 : ∀ j, j < 4 → w1.cell? ⟨m, j, none⟩ = some (.pointer (C j)) := fun j hj => below_cell hb (h.cell j hj)
  refine ⟨(h.below.trans (hb.mono (by omega))).setCell (Nat.le_refl _) _, by have := hb.size; simp [World.setCell]; omega, fun j hj => ?_, fun j hj => ?_, (h.clean.below hb).store _ _, fun j hj => ?_⟩
  · by_cases e : j = k
    · subst e; rw [World.cell?_setCell_same _ _ _ (hc1 j hj)]; simp
    · rw [World.cell?_setCell_other _ _ _ _ (by intro he; cases he; exact e rfl)]; simp [e, hc1 j hj]
  · rw [World.frozen?_setCell, hb.frozen (by exact hlt)]; exact h.thaw j hj
  · by_cases e : j = k
    · subst e; simp only [if_true]
      exact Rep.store (Nat.lt_succ_self m) (Rep.low (by omega) _ _ _ hr)
    · simp only [if_neg e]
      exact Rep.store (Nat.lt_succ_self m) (Rep.below hb (h.kids j (by omega)))

theorem half_start (w : World) (n : Nat) (f : Nat → T n) (c4 c5 c6 c7 : Value) (ty : TypeId) :
    Half w (w.alloc (.cells #[.pointer none, .pointer none, .pointer none, .pointer none, c4, c5, c6, c7] ty)) w.heap.size n 0 f (fun _ => none) := by
  refine ⟨(Below.refl _ _).alloc (Nat.le_refl _) _, by simp, fun j hj => ?_, fun j hj => World.frozen?_alloc_new _ _ _ _, Clean.new w _ _ rfl, fun j hj => by omega⟩
  rw [World.cell?_alloc_new]
  match j, hj with
  | 0, _ => rfl
  | 1, _ => rfl
  | 2, _ => rfl
  | 3, _ => rfl

theorem leaf_new (w : World) (f : Nat → Int) (h : ∀ i, i < 4 → 0 ≤ f i ∧ f i ≤ 18446744073709551615) (c0 c1 c2 c3 : Value) (ty : TypeId) :
    Rep (w.alloc (.cells #[c0, c1, c2, c3, .int .u64 (f 0), .int .u64 (f 1), .int .u64 (f 2), .int .u64 (f 3)] ty)) true w.heap.size 0 (some ⟨w.heap.size, 0, none⟩) (T.leaf f) := by
  refine Or.inr ⟨w.heap.size, 0, f, rfl, rfl, Nat.le_refl _, fun _ => Clean.new w _ _ rfl, fun i hi => ⟨?_, h i hi⟩⟩
  rw [World.cell?_alloc_new]
  match i, hi with
  | 0, _ => rfl
  | 1, _ => rfl
  | 2, _ => rfl
  | 3, _ => rfl

theorem Half.done {w wr : World} {n k : Nat} {f : Nat → T n} {C : Nat → Option Addr} (h : Half w wr w.heap.size n k f C) (hk : 4 ≤ k) :
    Rep wr true w.heap.size (n + 1) (some ⟨w.heap.size, 0, none⟩) (T.node f) :=
  Or.inr ⟨w.heap.size, 0, f, C, rfl, rfl, Nat.le_refl _, fun _ => h.clean, fun i hi => ⟨by rw [Nat.zero_add]; exact h.cell i hi, Rep.low (Nat.le_succ _) _ _ _ (h.kids i (by omega))⟩⟩

theorem RepB.none_of {w : World} {k : Bool} {B : Nat → Prop} {n : Nat} {u : Option Addr} (h : RepB w k B n u (T.nil n)) : u = none := by
  cases n with
  | zero => rcases h with h | ⟨b, o, f, h1, _⟩
            · exact h.2
            · cases h1
  | succ n => rcases h with h | ⟨b, o, f, V, h1, _⟩
              · exact h.2
              · cases h1

theorem Rep.none_of {w : World} {k : Bool} {lo n : Nat} {u : Option Addr} (h : Rep w k lo n u (T.nil n)) : u = none := RepB.none_of h

theorem Rep.some_of {w : World} {k : Bool} {lo n : Nat} {u : Option Addr} {t : T n} (h : Rep w k lo n u t) (ht : t ≠ T.nil n) : ∃ b o, u = some ⟨b, o, none⟩ ∧ lo ≤ b ∧ b < w.heap.size := by
  cases n with
  | zero => rcases h with h | ⟨b, o, f, h1, h2, h3, _, h4⟩
            · exact absurd h.1 ht
            · exact ⟨b, o, h2, h3, cell_lt (h4 0 (by omega)).1⟩
  | succ n => rcases h with h | ⟨b, o, f, V, h1, h2, h3, _, h4⟩
              · exact absurd h.1 ht
              · exact ⟨b, o, h2, h3, cell_lt (h4 0 (by omega)).1⟩

/-- The trie one level higher: the old one under the first kid. -/
def up {n : Nat} (t : T n) : T (n + 1) := T.node (fun i => if i = 0 then t else T.nil n)

theorem up_new {w w' : World} {B : Nat → Prop} {n : Nat} {u : Option Addr} {t : T n} (h : RepB w true B n u t) (hb : Below w.heap.size w w') {b : Nat} (hlo : B b) (hc : Clean w' b)
    (c0 : w'.cell? ⟨b, 0, none⟩ = some (.pointer u)) (c1 : w'.cell? ⟨b, 1, none⟩ = some (.pointer none)) (c2 : w'.cell? ⟨b, 2, none⟩ = some (.pointer none)) (c3 : w'.cell? ⟨b, 3, none⟩ = some (.pointer none)) :
    RepB w' true B (n + 1) (some ⟨b, 0, none⟩) (up t) := by
  refine Or.inr ⟨b, 0, _, (fun i => if i = 0 then u else none), rfl, rfl, hlo, fun _ => hc, fun i hi => ?_⟩
  have hr : RepB w' true B n u t := RepB.carry (fun _ _ _ hc => below_cell hb hc) (fun _ hc => hc.below hb) (fun _ h _ => h) n u t h
  match i, hi with
  | 0, _ => exact ⟨c0, by simpa using hr⟩
  | 1, _ => exact ⟨c1, by simpa using RepB.mk_nil _ _ _ _⟩
  | 2, _ => exact ⟨c2, by simpa using RepB.mk_nil _ _ _ _⟩
  | 3, _ => exact ⟨c3, by simpa using RepB.mk_nil _ _ _ _⟩

/-- A block of two cells, laid ahead of a call that turns nothing old. -/
theorem new_two {w w' : World} {a b : Value} {ty : TypeId} (hb : Below (w.alloc (.cells #[a, b] ty)).heap.size (w.alloc (.cells #[a, b] ty)) w') :
    w'.cell? ⟨w.heap.size, 0, none⟩ = some a ∧ w'.cell? ⟨w.heap.size, 1, none⟩ = some b ∧ w'.frozen? ⟨w.heap.size, 0, none⟩ = false ∧ w'.frozen? ⟨w.heap.size, 1, none⟩ = false := by
  refine ⟨below_cell hb (by rw [World.cell?_alloc_new]; rfl), below_cell hb (by rw [World.cell?_alloc_new]; rfl), ?_, ?_⟩
  · rw [hb.frozen (by simp)]; exact World.frozen?_alloc_new _ _ _ _
  · rw [hb.frozen (by simp)]; exact World.frozen?_alloc_new _ _ _ _

/-- From a block laid at w's end on: what is kept behind it is kept of w. -/
theorem below_new {w w' : World} {o : Obj} (hb : Below (w.alloc o).heap.size (w.alloc o) w') : Below w.heap.size w w' :=
  ((Below.refl _ _).alloc (Nat.le_refl _) _).trans (hb.mono (by simp))

theorem cell_new_at {w : World} {c : Array Value} {t : TypeId} {b i : Nat} (hb : w.heap.size = b) : (w.alloc (.cells c t)).cell? ⟨b, i, none⟩ = c[i]? := by
  subst hb; exact World.cell?_alloc_new _ _ _ _

/-- The root one level higher: nil stays nil; else a new node over the old root. -/
def Lift (w w' : World) (u u' : Option Addr) : Prop :=
  (u = none ∧ u' = none) ∨ ∃ a b, u = some a ∧ u' = some ⟨b, 0, none⟩ ∧ w.heap.size ≤ b ∧ Clean w' b ∧ w'.cell? ⟨b, 0, none⟩ = some (.pointer (some a)) ∧
    w'.cell? ⟨b, 1, none⟩ = some (.pointer none) ∧ w'.cell? ⟨b, 2, none⟩ = some (.pointer none) ∧ w'.cell? ⟨b, 3, none⟩ = some (.pointer none)

/-- Is it nil? -/
def T.isNil : (n : Nat) → T n → Bool
  | 0, t => match (t : Option (Nat → Int)) with | none => true | some _ => false
  | n + 1, t => match (t : Option (Nat → T n)) with | none => true | some _ => false

/-- One level higher: nil stays nil. -/
def upz {n : Nat} (t : T n) : T (n + 1) := if T.isNil n t then T.nil (n + 1) else up t

theorem T.isNil_nil (n : Nat) : T.isNil n (T.nil n) = true := by cases n <;> rfl
theorem upz_nil (n : Nat) : upz (T.nil n) = T.nil (n + 1) := by unfold upz; rw [T.isNil_nil]; rfl
theorem upz_some {w : World} {k : Bool} {B : Nat → Prop} {n : Nat} {a : Addr} {t : T n} (h : RepB w k B n (some a) t) : upz t = up t := by
  have e : T.isNil n t = false := by
    cases n with
    | zero => rcases h with ⟨_, h⟩ | ⟨b, o, f, h1, _⟩
              · cases h
              · subst h1; rfl
    | succ n => rcases h with ⟨_, h⟩ | ⟨b, o, f, V, h1, _⟩
                · cases h
                · subst h1; rfl
  unfold upz; rw [e]; rfl

theorem Lift.repB {w w' : World} {u u' : Option Addr} (h : Lift w w' u u') (hb : Below w.heap.size w w') {B : Nat → Prop} {n : Nat} {t : T n} (hr : RepB w true B n u t) (hlo : ∀ b, w.heap.size ≤ b → B b) :
    RepB w' true B (n + 1) u' (upz t) := by
  rcases h with ⟨rfl, rfl⟩ | ⟨a, b, rfl, rfl, hle, hc, c0, c1, c2, c3⟩
  · rw [RepB.nil_of hr, upz_nil]; exact RepB.mk_nil _ _ _ _
  · rw [upz_some hr]; exact up_new hr hb (hlo b hle) hc c0 c1 c2 c3

theorem Lift.rep {w w' : World} {u u' : Option Addr} (h : Lift w w' u u') (hb : Below w.heap.size w w') {lo n : Nat} {t : T n} (hr : Rep w true lo n u t) (hlo : lo ≤ w.heap.size) :
    Rep w' true lo (n + 1) u' (upz t) := Lift.repB h hb hr (fun _ h => Nat.le_trans hlo h)

theorem Lift.carry {w wa w' w'' : World} {u u' : Option Addr} (h : Lift wa w' u u') (hle : w.heap.size ≤ wa.heap.size)
    (hc : ∀ (a : Addr) v, wa.heap.size ≤ a.block → w'.cell? a = some v → w''.cell? a = some v) (hcl : ∀ b, Clean w' b → Clean w'' b) : Lift w w'' u u' := by
  rcases h with h | ⟨a, b, h1, h2, h3, h4, c0, c1, c2, c3⟩
  · exact Or.inl h
  · exact Or.inr ⟨a, b, h1, h2, by omega, hcl b h4, hc _ _ h3 c0, hc _ _ h3 c1, hc _ _ h3 c2, hc _ _ h3 c3⟩

theorem store_two_far {w : World} {b B : Nat} {x y : Value} (hb : b < B) : ∀ (a : Addr) v, B ≤ a.block → w.cell? a = some v → ((w.setCell ⟨b, 0, none⟩ x).setCell ⟨b, 1, none⟩ y).cell? a = some v := by
  intro a v ha hc
  refine cell_store_far ?_ (cell_store_far ?_ hc)
  · intro he; have := congrArg Addr.block he; simp at this; omega
  · intro he; have := congrArg Addr.block he; simp at this; omega

theorem RepB.below {w w' : World} (hb : Below w.heap.size w w') {k : Bool} {B : Nat → Prop} {n : Nat} {u : Option Addr} {t : T n} (h : RepB w k B n u t) : RepB w' k B n u t :=
  RepB.carry (fun _ _ _ hc => below_cell hb hc) (fun _ hc => hc.below hb) (fun _ h _ => h) n u t h

/-- Two stores into a block that B does not let turn nothing of the trie. -/
theorem RepB.store {w : World} {a : Addr} {x : Value} {k : Bool} {B : Nat → Prop} {n : Nat} {u : Option Addr} {t : T n} (ha : ¬ B a.block) (h : RepB w k B n u t) : RepB (w.setCell a x) k B n u t :=
  RepB.carry (fun p v hp hc => cell_store_far (by intro e; rw [e] at ha; exact ha hp) hc) (fun _ hc => hc.store _ _) (fun _ h _ => h) n u t h

/-- d levels higher. -/
def upn : (d n : Nat) → T n → T (n + d)
  | 0, _, t => t
  | d + 1, n, t => upz (upn d n t)

end Go.Proofs.Qxb6603532aDoor.Trie
