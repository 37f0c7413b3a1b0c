/-
  What zzTimes lists, as plain data; two slices that the calls append to, as they lie in memory. No program is named here but for the two element types' numbers.
-/
import Derived.Test.Qxb6603532aTrie
import Derived.Deep.AppendLies
namespace Go.Proofs.Qxb6603532a.TimesLaw
open Go.RowKit Go.Proofs.Qxb6603532a.Trie

/-- The id of kid i of a node at level l whose first id is base. -/
def idOf (l base i : Int) : Int := wrap64 (base + wrap64 (i * 2 ^ min (2 * l).toNat 64))

def pick (id x : Int) : List Int := if x = 0 then [] else [id]
def pickT (x : Int) : List Int := if x = 0 then [] else [x]

/-- The ids, in order, and the times other than 0. -/
def ids : (n : Nat) → T n → Int → List Int
  | 0, t, base => match (t : Option (Nat → Int)) with
    | none => []
    | some f => pick (wrap64 (base + 0)) (f 0) ++ (pick (wrap64 (base + 1)) (f 1) ++ (pick (wrap64 (base + 2)) (f 2) ++ pick (wrap64 (base + 3)) (f 3)))
  | n + 1, t, base => match (t : Option (Nat → T n)) with
    | none => []
    | some f => ids n (f 0) (idOf (n + 1) base 0) ++ (ids n (f 1) (idOf (n + 1) base 1) ++ (ids n (f 2) (idOf (n + 1) base 2) ++ ids n (f 3) (idOf (n + 1) base 3)))

def ts : (n : Nat) → T n → List Int
  | 0, t => match (t : Option (Nat → Int)) with
    | none => []
    | some f => pickT (f 0) ++ (pickT (f 1) ++ (pickT (f 2) ++ pickT (f 3)))
  | n + 1, t => match (t : Option (Nat → T n)) with
    | none => []
    | some f => ts n (f 0) ++ (ts n (f 1) ++ (ts n (f 2) ++ ts n (f 3)))

theorem pick_len (id x : Int) : (pick id x).length = (pickT x).length ∧ (pickT x).length ≤ 1 := by
  unfold pick pickT; split <;> simp

theorem len_eq : ∀ (n : Nat) (t : T n) (base : Int), (ids n t base).length = (ts n t).length := by
  intro n
  induction n with
  | zero =>
    intro t base
    match (t : Option (Nat → Int)) with
    | none => rfl
    | some f => simp only [ids, ts, List.length_append, (pick_len _ _).1]
  | succ n ih =>
    intro t base
    match (t : Option (Nat → T n)) with
    | none => rfl
    | some f => simp only [ids, ts, List.length_append, ih]

theorem len_le : ∀ (n : Nat) (t : T n), (ts n t).length ≤ 4 * T.size n t := by
  intro n
  induction n with
  | zero =>
    intro t
    match (t : Option (Nat → Int)) with
    | none => simp [ts]
    | some f =>
      have h0 := (pick_len 0 (f 0)).2
      have h1 := (pick_len 0 (f 1)).2
      have h2 := (pick_len 0 (f 2)).2
      have h3 := (pick_len 0 (f 3)).2
      simp only [ts, List.length_append, T.size]
      omega
  | succ n ih =>
    intro t
    match (t : Option (Nat → T n)) with
    | none => simp [ts]
    | some f =>
      have h0 := ih (f 0)
      have h1 := ih (f 1)
      have h2 := ih (f 2)
      have h3 := ih (f 3)
      simp only [ts, List.length_append, T.size]
      omega

theorem ids_nil (n : Nat) (base : Int) : ids n (T.nil n) base = [] := by cases n <;> rfl
theorem ts_nil (n : Nat) : ts n (T.nil n) = [] := by cases n <;> rfl

theorem idOf_zero (l : Int) : idOf l 0 0 = 0 := by
  unfold idOf
  rw [Int.zero_mul]
  rw [IntWalk.wrap64_in 0 ⟨by omega, by omega⟩]
  exact IntWalk.wrap64_in _ ⟨by omega, by omega⟩

theorem ids_up (n : Nat) (t : T n) : ids (n + 1) (up t) 0 = ids n t 0 := by
  show ids n t (idOf (n + 1) 0 0) ++ (ids n (T.nil n) _ ++ (ids n (T.nil n) _ ++ ids n (T.nil n) _)) = _
  rw [ids_nil, ids_nil, ids_nil, idOf_zero]; simp

theorem ts_up (n : Nat) (t : T n) : ts (n + 1) (up t) = ts n t := by
  show ts n t ++ (ts n (T.nil n) ++ (ts n (T.nil n) ++ ts n (T.nil n))) = _
  rw [ts_nil]; simp

/-- The lists after k kids. -/
def idsTo0 (f : Nat → Int) (base : Int) : Nat → List Int
  | 0 => []
  | k + 1 => idsTo0 f base k ++ pick (wrap64 (base + k)) (f k)
def tsTo0 (f : Nat → Int) : Nat → List Int
  | 0 => []
  | k + 1 => tsTo0 f k ++ pickT (f k)
def idsTo {n : Nat} (f : Nat → T n) (base : Int) : Nat → List Int
  | 0 => []
  | k + 1 => idsTo f base k ++ ids n (f k) (idOf (n + 1) base k)
def tsTo {n : Nat} (f : Nat → T n) : Nat → List Int
  | 0 => []
  | k + 1 => tsTo f k ++ ts n (f k)

theorem ids_leaf (f : Nat → Int) (base : Int) : ids 0 (T.leaf f) base = idsTo0 f base 4 := by
  simp only [idsTo0, List.nil_append, List.append_assoc]; rfl
theorem ts_leaf (f : Nat → Int) : ts 0 (T.leaf f) = tsTo0 f 4 := by
  simp only [tsTo0, List.nil_append, List.append_assoc]; rfl
theorem ids_node {n : Nat} (f : Nat → T n) (base : Int) : ids (n + 1) (T.node f) base = idsTo f base 4 := by
  simp only [idsTo, List.nil_append, List.append_assoc]; rfl
theorem ts_node {n : Nat} (f : Nat → T n) : ts (n + 1) (T.node f) = tsTo f 4 := by
  simp only [tsTo, List.nil_append, List.append_assoc]; rfl

theorem idsTo_len {n : Nat} (f : Nat → T n) (base : Int) (k : Nat) : (idsTo f base k).length = (tsTo f k).length := by
  induction k with
  | zero => rfl
  | succ k ih => simp only [idsTo, tsTo, List.length_append, ih, len_eq]

theorem room {n : Nat} (f : Nat → T n) (k : Nat) (hk : k < 4) : (tsTo f k).length + 4 * T.size n (f k) ≤ 4 * T.size (n + 1) (T.node f) := by
  have h0 := len_le n (f 0)
  have h1 := len_le n (f 1)
  have h2 := len_le n (f 2)
  rw [T.size_node]
  match k, hk with
  | 0, _ => simp only [tsTo, List.length_nil]; omega
  | 1, _ => simp only [tsTo, List.length_append, List.length_nil]; omega
  | 2, _ => simp only [tsTo, List.length_append, List.length_nil]; omega
  | 3, _ => simp only [tsTo, List.length_append, List.length_nil]; omega

/-- Two slices that lie apart, in blocks from w0's end on: ints Li, uint64s Lt; below that w is as w0 was. -/
structure Two (w0 w : World) (vi vt : Value) (Li Lt : List Int) : Prop where
  below : Below w0.heap.size w0 w
  oi : w.ownsRow w0.heap.size 3 1 vi Li.length (Li.map (Value.int .i64))
  ot : w.ownsRow w0.heap.size 38 1 vt Lt.length (Lt.map (Value.int .u64))
  apart : vi.ownBlock = none ∨ vi.ownBlock ≠ vt.ownBlock

theorem Two.start (w : World) : Two w w (.slice none 0 0) (.slice none 0 0) [] [] :=
  ⟨Below.refl _ _, World.ownsRow_nil _ _ _ _, World.ownsRow_nil _ _ _ _, Or.inl rfl⟩

theorem own_lt {w : World} {base : Nat} {e : TypeId} {size : Nat} {v : Value} {n : Nat} {xs : List Value} (h : w.ownsRow base e size v n xs) {k : Nat} (hk : v.ownBlock = some k) : k < w.heap.size := (h.lt k hk).2

/-- append(ids, x): behind the one-element slice that is laid first. -/
theorem Two.pushI {w0 w w1 : World} {vi vt : Value} {Li Lt : List Int} (h : Two w0 w vi vt Li Lt) (x : Int) (o : Obj) {g cap : Nat}
    (hown : w1.ownsRow w0.heap.size 3 1 (.slice (some ⟨g, 0, none⟩) (Li.length + 1) cap) (Li.length + 1) (Li.map (Value.int .i64) ++ [.int .i64 x]))
    (hgrow : (w.alloc o).grownBy w1 vi.ownBlock) (hat : vi.ownBlock = some g ∨ g = (w.alloc o).heap.size) :
    Two w0 w1 (.slice (some ⟨g, 0, none⟩) (Li.length + 1) cap) vt (Li ++ [x]) Lt := by
  have hsz := h.below.size
  refine ⟨(h.below.alloc hsz o).grown hgrow (by simp; omega) (fun k hk => (h.oi.lt k hk).1), ?_, ?_, Or.inr ?_⟩
  · simpa using hown
  · refine (h.ot.alloc o).kept hgrow ?_
    rcases h.apart with ha | ha
    · rw [ha]; cases vt.ownBlock <;> simp
    · exact Or.inr (Ne.symm ha)
  · intro he
    have he' : vt.ownBlock = some g := he.symm
    rcases hat with hat | hat
    · rcases h.apart with ha | ha
      · rw [hat] at ha; cases ha
      · exact ha (by rw [hat, he'])
    · have := own_lt h.ot he'
      simp at hat; omega

/-- append(ts, x). -/
theorem Two.pushT {w0 w w1 : World} {vi vt : Value} {Li Lt : List Int} (h : Two w0 w vi vt Li Lt) (x : Int) (o : Obj) {g cap : Nat}
    (hown : w1.ownsRow w0.heap.size 38 1 (.slice (some ⟨g, 0, none⟩) (Lt.length + 1) cap) (Lt.length + 1) (Lt.map (Value.int .u64) ++ [.int .u64 x]))
    (hgrow : (w.alloc o).grownBy w1 vt.ownBlock) (hat : vt.ownBlock = some g ∨ g = (w.alloc o).heap.size) :
    Two w0 w1 vi (.slice (some ⟨g, 0, none⟩) (Lt.length + 1) cap) Li (Lt ++ [x]) := by
  have hsz := h.below.size
  refine ⟨(h.below.alloc hsz o).grown hgrow (by simp; omega) (fun k hk => (h.ot.lt k hk).1), ?_, ?_, ?_⟩
  · refine (h.oi.alloc o).kept hgrow ?_
    exact h.apart
  · simpa using hown
  · rcases h.apart with ha | ha
    · exact Or.inl ha
    · right
      intro he
      have he' : vi.ownBlock = some g := he
      rcases hat with hat | hat
      · exact ha (by rw [he', hat])
      · have := own_lt h.oi he'
        simp at hat; omega

end Go.Proofs.Qxb6603532a.TimesLaw
