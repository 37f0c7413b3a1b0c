/-
  AddTo: the state of its three loops, and the steps between them.
-/
import Derived.Test.Qxb6603535aShown
namespace Go.Proofs.Qxb6603535a.AddCx
open Go.RowKit Go.Maps Go.Proofs.Qxb6603535a.Mem Go.Proofs.Qxb6603535a.Get Go.Proofs.Qxb6603535a.Shown
set_option linter.unusedVariables false

def value : ByteArray := ⟨#[118, 97, 108, 117, 101]⟩

/-- A list's element. -/
def elv (k : Nat) (t : ByteArray) (b : Nat) : Value := if k = 0 then .iface 9 (.string t) else .iface 47 (.map (some b))

/-- What a value's own text is: its member 'value', where that is a string. -/
def Own (E : Dm) (o : ByteArray) : Prop := ∃ v, E.atKey (ks value) (.held .nilIface) = .held v ∧ (v = .iface 9 (.string o) ∨ o = ⟨#[]⟩ ∧ (v = .nilIface ∨ ∃ u, v = .iface 51 u))

structure Cx where
  attr : ByteArray
  sb : Nat
  ib : Nat
  om : Nat
  r : Nat
  n : Nat
  m : Nat
  S : Nat → ByteArray
  T : Nat → ByteArray
  Th : Nat → Bool
  K : Nat → Nat
  V : Nat → ByteArray
  M : Nat → Nat
  C : Nat → Dm
  o : Nat → ByteArray
  D : Dm

def Cx.Ds (c : Cx) : Dm := (DataW.map []).put (ks c.attr) (.held (.map (some c.ib)))
def Cx.DT (c : Cx) : Dm := inner c.S c.T c.Th c.m
def Cx.C' (c : Cx) (i : Nat) : Dm := shown c.S c.T c.Th (c.C i) (c.o i) c.m

structure Ok (c : Cx) (w : World) : Prop where
  s : Mp w c.sb c.Ds
  i : Mp w c.ib c.DT
  ob : Mp w c.om c.D
  lst : Lst c.D c.attr c.r c.n
  attr : c.attr.size ≤ maxLen
  n : c.n ≤ 4096
  m : c.m ≤ 4096
  rlt : c.r < w.heap.size
  cell : ∀ i, i < c.n → w.cell? ⟨c.r, i, none⟩ = some (elv (c.K i) (c.V i) (c.M i))
  mp : ∀ i, i < c.n → c.K i ≠ 0 → Mp w (c.M i) (c.C i)
  inj : ∀ i j, i < c.n → j < c.n → c.K i ≠ 0 → c.K j ≠ 0 → c.M i = c.M j → i = j
  ns : ∀ i, i < c.n → c.K i ≠ 0 → c.M i ≠ c.sb ∧ c.M i ≠ c.ib ∧ c.M i ≠ c.om ∧ c.M i ≠ c.r
  sz : ∀ i, i < c.n → c.K i ≠ 0 → size (c.C i) ≤ 8192
  own : ∀ i, i < c.n → c.K i ≠ 0 → Own (c.C i) (c.o i) ∧ (c.o i).size ≤ 1048576
  subs : ∀ j, j < c.m → (c.S j).size ≤ maxLen ∧ c.S j ≠ value ∧ (c.T j).size ≤ 1048576

theorem ranges_block {w w' : World} {b r n : Nat} {D : Dm} {left : Lit → Bool} {cnt : Nat} (h : w.ranges Try.prog 9 raw b r n D left cnt) (hb : w'.heap[b]? = w.heap[b]?) (hr : w'.heap[r]? = w.heap[r]?) : w'.ranges Try.prog 9 raw b r n D left cnt := by
  obtain ⟨es, clock, since, seen, c0, h1, F, hs, hD, h2, rest⟩ := h
  exact ⟨es, clock, since, seen, c0, hb.trans h1, F, hs, hD, hr.trans h2, rest⟩

theorem turned_ranges {S : Nat → Prop} {w w' : World} (k : Turned S w w') {b r n : Nat} {D : Dm} {left : Lit → Bool} {cnt : Nat} (h : w.ranges Try.prog 9 raw b r n D left cnt) (hb : ¬ S b) (hr : ¬ S r) : w'.ranges Try.prog 9 raw b r n D left cnt :=
  ranges_block h (k.block b h.owns.lt hb) (k.block r h.lt hr)

/-- The middle loop's state ahead of element i. -/
structure Mid (c : Cx) (w : World) (r1 N1 : Nat) (l1 : Lit → Bool) (c1 i : Nat) (wr : World) : Prop where
  turned : Turned (fun k => ∃ j, j < i ∧ j < c.n ∧ c.K j ≠ 0 ∧ k = c.M j) w wr
  before : ∀ j, j < i → j < c.n → c.K j ≠ 0 → Mp wr (c.M j) (c.C' j)
  outer : wr.ranges Try.prog 9 raw c.sb r1 N1 c.Ds l1 c1
  r1w : w.heap.size ≤ r1

/-- The inner loop's state at element i. -/
structure St (c : Cx) (w : World) (r1 N1 : Nat) (l1 : Lit → Bool) (c1 i r3 N3 : Nat) (left : Lit → Bool) (cnt : Nat) (E : Dm) (wr : World) : Prop where
  turned : Turned (fun k => ∃ j, j < i + 1 ∧ j < c.n ∧ c.K j ≠ 0 ∧ k = c.M j) w wr
  before : ∀ j, j < i → j < c.n → c.K j ≠ 0 → Mp wr (c.M j) (c.C' j)
  here : Mp wr (c.M i) E
  part : Part c.DT (c.C i) (c.o i) left E
  sz : size E + cnt ≤ 12288
  outer : wr.ranges Try.prog 9 raw c.sb r1 N1 c.Ds l1 c1
  inner : wr.ranges Try.prog 9 raw c.ib r3 N3 c.DT left cnt
  r1w : w.heap.size ≤ r1
  r3w : w.heap.size ≤ r3
  r13 : r1 ≠ r3

section
variable {c : Cx} {w wr : World} {r1 N1 : Nat} {l1 : Lit → Bool} {c1 i r3 N3 : Nat} {left : Lit → Bool} {cnt : Nat} {E : Dm}

theorem Ok.subsz (h : Ok c w) : ∀ j, j < c.m → (c.S j).size ≤ maxLen := fun j hj => (h.subs j hj).1

theorem Ok.Mlt (h : Ok c w) {j : Nat} (hj : j < c.n) (hk : c.K j ≠ 0) : c.M j < w.heap.size := (h.mp j hj hk).lt

theorem Mid.cell (h : Mid c w r1 N1 l1 c1 i wr) (ok : Ok c w) (hi : i < c.n) : wr.cell? ⟨c.r, i, none⟩ = some (elv (c.K i) (c.V i) (c.M i)) := by
  rw [← ok.cell i hi]
  exact h.turned.cell (p := ⟨c.r, i, none⟩) ok.rlt (fun ⟨j, _, hj, hk, e⟩ => (ok.ns j hj hk).2.2.2 e.symm)

theorem Mid.texts (h : Mid c w r1 N1 l1 c1 i wr) (ok : Ok c w) : Mp wr c.ib c.DT :=
  h.turned.mp ok.i (fun ⟨j, _, hj, hk, e⟩ => (ok.ns j hj hk).2.1 e.symm)

theorem Mid.mine (h : Mid c w r1 N1 l1 c1 i wr) (ok : Ok c w) (hi : i < c.n) (hk : c.K i ≠ 0) : Mp wr (c.M i) (c.C i) :=
  h.turned.mp (ok.mp i hi hk) (fun ⟨j, hji, hj, hkj, e⟩ => by have := ok.inj i j hi hj hk hkj e; omega)

theorem Mid.start (ok : Ok c w) (h : wr.ranges Try.prog 9 raw c.sb r1 N1 c.Ds l1 c1) (k : Kept w wr) (hr : w.heap.size ≤ r1) : Mid c w r1 N1 l1 c1 0 wr :=
  ⟨k.mono (fun _ _ e => absurd e id), fun j hj => by omega, h, hr⟩

/-- An element that is no object. -/
theorem Mid.skip (h : Mid c w r1 N1 l1 c1 i wr) (hk : c.K i = 0) : Mid c w r1 N1 l1 c1 (i + 1) wr :=
  ⟨h.turned.mono (fun k _ ⟨j, h1, h2, h3, e⟩ => ⟨j, by omega, h2, h3, e⟩), fun j hj hn hkj => by
    rcases Nat.lt_or_ge j i with h' | h'
    · exact h.before j h' hn hkj
    · have : j = i := by omega
      subst this
      exact absurd hk hkj, h.outer, h.r1w⟩

theorem Mid.range (h : Mid c w r1 N1 l1 c1 i wr) (ok : Ok c w) (hi : i < c.n) (hk : c.K i ≠ 0) {w0 : World} (hrg : w0.ranges Try.prog 9 raw c.ib wr.heap.size (size c.DT) c.DT (has c.DT) (size c.DT)) (hg : wr.grownBy w0 none) :
    St c w r1 N1 l1 c1 i wr.heap.size (size c.DT) (has c.DT) (size c.DT) (c.C i) w0 := by
  have hT : Turned (fun _ => False) wr w0 := (Turned.of_grown hg).mono (fun _ _ e => by cases e)
  have hsz := inner_size (T := c.T) (Th := c.Th) ok.subsz
  have hm := ok.m
  have h8 := ok.sz i hi hk
  refine ⟨(h.turned.trans hT (fun _ _ e => absurd e id)).mono (fun k _ ⟨j, h1, h2, h3, e⟩ => ⟨j, by omega, h2, h3, e⟩), fun j a b d => hT.mp (h.before j a b d) id, hT.mp (h.mine ok hi hk) id, Part.start _ _ _, ?_, turned_ranges hT h.outer id id, hrg, h.r1w, h.turned.size, ?_⟩
  · show size (c.C i) + size (Shown.inner c.S c.T c.Th c.m) ≤ _
    omega
  · have := h.outer.lt
    omega

/-- The inner loop has come to its end. -/
theorem St.fin (h : St c w r1 N1 l1 c1 i r3 N3 left cnt E wr) (ok : Ok c w) (hi : i < c.n) (hk : c.K i ≠ 0) (hl : ∀ k, left k = false) : Mid c w r1 N1 l1 c1 (i + 1) wr := by
  refine ⟨h.turned, fun j hj hn hkj => ?_, h.outer, h.r1w⟩
  rcases Nat.lt_or_ge j i with h' | h'
  · exact h.before j h' hn hkj
  · have : j = i := by omega
    subst this
    have e := Part.fin ok.subsz h.part hl (Shown.Mp.canonK (ok.mp j hn hkj)) (Shown.Mp.canonK h.here)
    rw [show c.C' j = E from e.symm]
    exact h.here

/-- The value's own text, while subs are laid in. -/
theorem St.own (h : St c w r1 N1 l1 c1 i r3 N3 left cnt E wr) (ok : Ok c w) (hi : i < c.n) (hk : c.K i ≠ 0) : Own E (c.o i) := by
  obtain ⟨v, hv, hv'⟩ := (ok.own i hi hk).1
  refine ⟨v, ?_, hv'⟩
  have hno : has c.DT (ks value) = false := by
    cases hh : has c.DT (ks value)
    · rfl
    · obtain ⟨j, hj, e⟩ := (inner_has ok.subsz _).1 hh
      exact absurd (ks_inj e).symm (ok.subs j hj).2.1
  rw [h.part.rest _ (by rw [hno]; rfl), hv]

/-- The step of the inner loop: one more entry has come; the text is laid into the value. -/
theorem St.step (h : St c w r1 N1 l1 c1 i r3 N3 left cnt E wr) (ok : Ok c w) (hi : i < c.n) (hk : c.K i ≠ 0) {w1 w3 w4 : World} {cnt' : Nat} {s t : ByteArray} {b : Bool}
    (hrg : w1.ranges Try.prog 9 raw c.ib r3 N3 c.DT (fun z => left z && !z.sameKey (ks s)) cnt') (hlt : cnt' < cnt) (hat : ∀ z, c.DT.atKey (ks s) z = .held (txt t b)) (hg1 : wr.grownBy w1 (some r3)) (k3 : Kept w1 w3)
    (hm : Mp w4 (c.M i) (E.put (ks s) (.held (str (full (c.o i) t b))))) (hg4 : w3.grownBy w4 (some (c.M i))) :
    St c w r1 N1 l1 c1 i r3 N3 (fun z => left z && !z.sameKey (ks s)) cnt' (E.put (ks s) (.held (str (full (c.o i) t b)))) w4 := by
  have T1 := Turned.of_grown hg1
  have T4 := Turned.of_grown hg4
  have hMi := ok.Mlt hi hk
  have hr1 := h.r1w
  have hr3 := h.r3w
  have h13 := h.r13
  obtain ⟨n1, n2, n3, n4⟩ := ok.ns i hi hk
  have hsb := ok.s.lt
  have hib := ok.i.lt
  refine ⟨?_, fun j a b' d => ?_, hm, h.part.step h.here.isMap hat, ?_, ?_, ?_, hr1, hr3, h13⟩
  · refine ((h.turned.trans T1 (fun j hj e => ?_)).trans k3 (fun _ _ e => absurd e id)).trans T4 (fun j hj e => ?_)
    · cases e; omega
    · cases e; exact ⟨i, by omega, hi, hk, rfl⟩
  · have hj := ok.Mlt b' d
    refine T4.mp (k3.mp (T1.mp (h.before j a b' d) (fun e => ?_)) id) (fun e => ?_)
    · cases e; omega
    · have e2 : c.M i = c.M j := Option.some.inj e
      have := ok.inj i j hi b' hk d e2
      omega
  · have := size_put (k := ks s) h.here.tidy (.held (str (full (c.o i) t b)))
    have h2 := h.sz
    rw [this]
    split <;> omega
  · refine turned_ranges T4 (turned_ranges k3 (turned_ranges T1 h.outer (fun e => ?_) (fun e => ?_)) id id) (fun e => ?_) (fun e => ?_)
    · cases e; omega
    · exact h13 (Option.some.inj e).symm
    · exact n1 (Option.some.inj e)
    · have e2 : c.M i = r1 := Option.some.inj e
      omega
  · refine turned_ranges T4 (turned_ranges k3 hrg id id) (fun e => ?_) (fun e => ?_)
    · exact n2 (Option.some.inj e)
    · have e2 : c.M i = r3 := Option.some.inj e
      omega
end

/-- A range's step over a map with string keys; 'mkV' says the values' shape. -/
theorem next_law {β : Type} (w : World) {ops : Array Oper} {rest : List Oper} {o : Oper} {a : Act} {Q : Exit → Act → World → Prop} (hg : o.guard = none) (it : Operand) (hop : o.op = Op.next it false) (mkV : β → Value) (b r n : Nat) (D : Dm) (left : Lit → Bool) (cnt : Nat)
    (invV : ∀ (s : ByteArray) (v : Value), left (ks s) = true → (∀ z, D.atKey (ks s) z = .held v) → ∃ x, v = mkV x)
    (hit : a.eval it = .pointer (some ⟨r, 0, none⟩)) (h : w.ranges Try.prog 9 raw b r n D left cnt)
    (hDone : cnt = 0 → (∀ kl, left kl = false) → wpList Try.prog ops Q rest (a.put o.dst (.tuple #[.bool false])) w)
    (hMore : ∀ (s : ByteArray) (x : β) (w' : World) (cnt' : Nat), s.size ≤ maxLen → left (ks s) = true → (∀ z, D.atKey (ks s) z = .held (mkV x)) → w'.ranges Try.prog 9 raw b r n D (fun z => left z && !z.sameKey (ks s)) cnt' → cnt' < cnt →
      w.grownBy w' (some r) → w'.heap.size = w.heap.size → (Instr.entry (.pointer (some ⟨r, 0, none⟩))).run Try.prog w' = .ok (.tuple #[.string s, mkV x]) w' → wpList Try.prog ops Q rest (a.put o.dst (.tuple #[.bool true, .string s, mkV x])) w') :
    wpList Try.prog ops Q (o :: rest) a w := by
  refine wpList_plain hg fun K' hK' => ?_
  unfold Oper.wp
  rcases h.next law o.type with ⟨h0, hl, hrun⟩ | ⟨key, v, kl, y, w', cnt', hkey, hlk, hv, hat, hrun, hrg, hlt, hgr, hsz, hen⟩
  · simp [execOp, hop, hit, hrun, Result.andThen]
    exact hK' _ _ (hDone h0 hl)
  · have hks : ∃ s : ByteArray, key = .string s ∧ kl = ks s ∧ s.size ≤ maxLen := by
      cases key <;> simp [keyOf, Try.underlying9, mapKey] at hkey
      exact ⟨_, rfl, hkey.2.symm, hkey.1⟩
    obtain ⟨s, rfl, rfl, hs⟩ := hks
    unfold raw at hv
    cases hv
    obtain ⟨x, rfl⟩ := invV s v hlk hat
    simp [execOp, hop, hit, hrun, Result.andThen]
    exact hK' _ _ (hMore s x w' cnt' hs hlk hat hrg hlt hgr hsz hen)
end Go.Proofs.Qxb6603535a.AddCx
