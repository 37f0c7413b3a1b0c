/-
  Maps in memory whose elements are whatever values: the kit's laws on maps, at a reader that takes each value as itself.
-/
import Derived.Test.Qxb6603535aModel
import Derived.Maps.RangeWalk
import Derived.Maps.Ext
namespace Go.Proofs.Qxb6603535a.Mem
open Go.RowKit Go.Maps
set_option linter.unusedVariables false

abbrev Dm := DataW Value

/-- Each value reads as itself. -/
def raw (v : Value) : Option (DataW Value × List MemPlace) := some (.held v, [])

theorem law : Keyed Try.prog 9 := string_keyed Try.underlying9

/-- What a string is as a key. -/
def ks (s : ByteArray) : Lit := .string s.data.toList

theorem ks_inj {a b : ByteArray} (h : ks a = ks b) : a = b := by
  unfold ks at h
  cases a with
  | mk x => cases b with
    | mk y => simp at h; simp [h]

theorem ks_key (s : ByteArray) : WideAt.IsKeyLit (ks s) := by unfold ks; trivial

theorem key_ks {s : ByteArray} (hs : s.size ≤ maxLen) : keyOf Try.prog 9 (.string s) = some (ks s) := Go.WideMaps.keyOf_string_mk Try.underlying9 hs

/-- Block b is a map that reads as D. -/
def Mp (w : World) (b : Nat) (D : DataW Value) : Prop := w.ownsMap Try.prog 9 raw b (size D) D

theorem Mp.of {w : World} {b n : Nat} {D : DataW Value} (h : w.ownsMap Try.prog 9 raw b n D) : Mp w b D := by
  obtain ⟨es, clock, hb, F, hs, rfl⟩ := h
  exact ⟨es, clock, hb, F, by rw [size_eq, length_sorted]; simp, rfl⟩

theorem Mp.made (w : World) : Mp (w.alloc (.map #[] 0)) w.heap.size (.map []) := Mp.of (World.ownsMap_made w Try.prog 9 raw)

theorem Mp.lt {w : World} {b : Nat} {D : DataW Value} (h : Mp w b D) : b < w.heap.size := World.ownsMap.lt h

theorem Mp.isMap {w : World} {b : Nat} {D : DataW Value} (h : Mp w b D) : IsMap D := World.ownsMap.isMap h

theorem Mp.canon {w : World} {b : Nat} {D : DataW Value} (h : Mp w b D) : Canon D := World.ownsMap.canon h law

theorem Mp.tidy {w : World} {b : Nat} {D : DataW Value} (h : Mp w b D) : Tidy D := World.ownsMap.tidy h law

theorem Mp.block {w w' : World} {b : Nat} {D : DataW Value} (h : Mp w b D) (hb : w'.heap[b]? = w.heap[b]?) : Mp w' b D := by
  obtain ⟨es, clock, h1, r⟩ := h
  exact ⟨es, clock, hb.trans h1, r⟩

theorem Mp.look {w : World} {b : Nat} {D : DataW Value} (h : Mp w b D) {t e : TypeId} (ht : Try.prog.underlying t = some (.map 9 e)) {z : Value} (hz : ∀ w, (zeroValue e).run Try.prog w = .ok z w) {s : ByteArray} (hs : s.size ≤ maxLen) {v : Value}
    (hv : D.atKey (ks s) (.held z) = .held v) : (Instr.lookup t (.map (some b)) (.string s) false).run Try.prog w = .ok v w := by
  obtain ⟨v', ps, hrun, hr⟩ := World.ownsMap.lookup h law ht (hz w) (zd := .held z) (zp := []) rfl (key_ks hs)
  rw [hv] at hr
  unfold raw at hr
  simp at hr
  rw [hrun, hr.1]

theorem Mp.look_ok {w : World} {b : Nat} {D : DataW Value} (h : Mp w b D) {t e : TypeId} (ht : Try.prog.underlying t = some (.map 9 e)) {z : Value} (hz : ∀ w, (zeroValue e).run Try.prog w = .ok z w) {s : ByteArray} (hs : s.size ≤ maxLen) {v : Value}
    (hv : D.atKey (ks s) (.held z) = .held v) : (Instr.lookup t (.map (some b)) (.string s) true).run Try.prog w = .ok (.tuple #[v, .bool (has D (ks s))]) w := by
  obtain ⟨v', ps, hrun, hr⟩ := World.ownsMap.look_ok h law ht (hz w) (zd := .held z) (zp := []) rfl (key_ks hs)
  rw [hv] at hr
  unfold raw at hr
  simp at hr
  rw [hrun, hr.1]

theorem Mp.len {w : World} {b : Nat} {D : DataW Value} (h : Mp w b D) {t e : TypeId} (ht : Try.prog.underlying t = some (.map 9 e)) (ty : TypeId) : (Builtin.len_ #[t] ty #[.map (some b)]).run Try.prog w = .ok (.int .i64 (size D)) w :=
  World.ownsMap.len h ht ty

theorem Mp.store {w : World} {b : Nat} {D : DataW Value} (h : Mp w b D) {t e : TypeId} (ht : Try.prog.underlying t = some (.map 9 e)) (hn : size D < maxLen) {s : ByteArray} (hs : s.size ≤ maxLen) (v : Value) :
    ∃ w', (Instr.mapUpdate t (.map (some b)) (.string s) v).run Try.prog w = .ok () w' ∧ Mp w' b (D.put (ks s) (.held v)) ∧ w.grownBy w' (some b) ∧ w'.heap.size = w.heap.size := by
  obtain ⟨w', h1, h2, h3⟩ := World.ownsMap.store h law ht hn (d := .held v) (ps := []) (key_ks hs) rfl
  refine ⟨w', h1, Mp.of h2, h3.grown, ?_⟩
  obtain ⟨es, clock, es', clock', hb, rfl⟩ := h3
  simp [ChangeMaps.setBlock]

/-- S says which of the old blocks may have turned. -/
structure Turned (S : Nat → Prop) (w w' : World) : Prop where
  os : w'.os = w.os
  tape : w'.tape = w.tape
  output : w'.output = w.output
  size : w.heap.size ≤ w'.heap.size
  block : ∀ k, k < w.heap.size → ¬ S k → w'.heap[k]? = w.heap[k]?

theorem Turned.refl (S : Nat → Prop) (w : World) : Turned S w w := ⟨rfl, rfl, rfl, Nat.le_refl _, fun _ _ _ => rfl⟩

theorem Turned.trans {S S' : Nat → Prop} {a b c : World} (h : Turned S a b) (k : Turned S' b c) (hs : ∀ j, j < a.heap.size → S' j → S j) : Turned S a c :=
  ⟨k.os.trans h.os, k.tape.trans h.tape, k.output.trans h.output, Nat.le_trans h.size k.size, fun j hj hn =>
    (k.block j (Nat.lt_of_lt_of_le hj h.size) (fun e => hn (hs j hj e))).trans (h.block j hj hn)⟩

theorem Turned.of_grown {w w' : World} {row : Option Nat} (h : w.grownBy w' row) : Turned (fun k => row = some k) w w' :=
  ⟨h.os, h.tape, h.output, h.size, fun k hk hn => h.block k hk (fun e => hn e.symm)⟩

theorem Turned.of_below {B : Nat} {w w' : World} (h : Below B w w') : Turned (fun k => B ≤ k) w w' :=
  ⟨h.os, h.tape, h.output, h.size, fun k hk hn => h.block k (by omega)⟩

theorem Turned.mono {S S' : Nat → Prop} {w w' : World} (h : Turned S w w') (hs : ∀ j, j < w.heap.size → S j → S' j) : Turned S' w w' :=
  ⟨h.os, h.tape, h.output, h.size, fun k hk hn => h.block k hk (fun e => hn (hs k hk e))⟩

theorem Turned.below {S : Nat → Prop} {B : Nat} {w w' : World} (h : Turned S w w') (hB : B ≤ w.heap.size) (hs : ∀ k, k < B → ¬ S k) : Below B w w' :=
  ⟨h.os, h.tape, h.output, h.size, fun k hk => h.block k (by omega) (hs k hk)⟩

theorem Turned.alloc {S : Nat → Prop} {a w : World} (h : Turned S a w) (o : Obj) : Turned S a (w.alloc o) :=
  h.trans (Turned.of_grown (World.grownBy_alloc w o none)) (fun j _ e => by cases e)

theorem Turned.drew {S : Nat → Prop} {a w : World} (h : Turned S a w) : Turned S a w.drew := ⟨h.os, h.tape, h.output, h.size, h.block⟩

theorem Turned.setCell {S : Nat → Prop} {a w : World} (h : Turned S a w) {p : Addr} (hp : a.heap.size ≤ p.block ∨ S p.block) (u : Value) : Turned S a (w.setCell p u) :=
  ⟨h.os, h.tape, h.output, by have := h.size; simpa using this, fun k hk hn => by
    have hne : k ≠ p.block := by
      intro e
      rcases hp with hp | hp
      · omega
      · exact hn (e ▸ hp)
    rw [Below.heap_setCell _ _ _ _ hne]
    exact h.block k hk hn⟩

theorem Turned.cell {S : Nat → Prop} {w w' : World} (h : Turned S w w') {p : Addr} (hp : p.block < w.heap.size) (hn : ¬ S p.block) : w'.cell? p = w.cell? p := World.cell?_of_block (w := w) (h.block p.block hp hn)

theorem Turned.mp {S : Nat → Prop} {w w' : World} (h : Turned S w w') {b : Nat} {D : DataW Value} (hm : Mp w b D) (hn : ¬ S b) : Mp w' b D := hm.block (h.block b hm.lt hn)

/-- Nothing old has turned. -/
abbrev Kept (w w' : World) : Prop := Turned (fun _ => False) w w'

theorem Kept.of_below {w w' : World} (h : Below w.heap.size w w') : Kept w w' := (Turned.of_below h).mono (fun j hj e => absurd e (by omega))
theorem Kept.below {w w' : World} (h : Kept w w') {B : Nat} (hB : B ≤ w.heap.size) : Below B w w' := Turned.below h hB (fun _ _ => id)

/-- A slice's n elements are the values that f names. -/
def Rd (w : World) (v : Value) (n : Nat) (f : Nat → Value) : Prop :=
  ∃ p cap, v = .slice p n cap ∧ n ≤ maxLen ∧ ∀ i, i < n → ∃ b off, p = some ⟨b, off, none⟩ ∧ b < w.heap.size ∧ w.cell? ⟨b, off + i, none⟩ = some (f i)

theorem Rd.block {w w' : World} {v : Value} {n : Nat} {f : Nat → Value} (h : Rd w v n f) (hk : ∀ b off cap i, v = .slice (some ⟨b, off, none⟩) n cap → i < n → w'.heap[b]? = w.heap[b]?) (hs : w.heap.size ≤ w'.heap.size) : Rd w' v n f := by
  obtain ⟨p, cap, rfl, hn, hc⟩ := h
  refine ⟨p, cap, rfl, hn, fun i hi => ?_⟩
  obtain ⟨b, off, rfl, hb, hcell⟩ := hc i hi
  refine ⟨b, off, rfl, by omega, ?_⟩
  rw [← hcell]
  exact World.cell?_of_block (w := w) (hk b off cap i rfl hi)

theorem Rd.kept {w w' : World} {v : Value} {n : Nat} {f : Nat → Value} (h : Rd w v n f) (k : Kept w w') : Rd w' v n f := by
  obtain ⟨p, cap, rfl, hn, hc⟩ := h
  refine ⟨p, cap, rfl, hn, fun i hi => ?_⟩
  obtain ⟨b, off, rfl, hb, hcell⟩ := hc i hi
  exact ⟨b, off, rfl, Nat.lt_of_lt_of_le hb k.size, by rw [← hcell]; exact k.cell (p := ⟨b, off + i, none⟩) hb id⟩

theorem Rd.nil (w : World) (f : Nat → Value) : Rd w (.slice none 0 0) 0 f := ⟨none, 0, rfl, by unfold maxLen; omega, fun i hi => by omega⟩
end Go.Proofs.Qxb6603535a.Mem
