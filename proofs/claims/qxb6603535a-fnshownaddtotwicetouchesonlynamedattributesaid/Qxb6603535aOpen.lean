import Derived.Test.Qxb6603535aPut
import Derived.Deep.Strs
import Derived.OpenShut
namespace Go.Proofs.Qxb6603535a.Open
open Go.RowKit Go.ChangeShapes Go.WideShapes Go.Proofs.Qxb6603535a.Mem Go.Proofs.Qxb6603535a.Bounds Go.Proofs.Qxb6603535a.Sizes Go.Proofs.Qxb6603535a.Put
set_option linter.unusedVariables false

theorem cells9 : Try.prog.cellsOf 9 = 1 := by kernel_rfl
theorem cells4 : Try.prog.cellsOf 4 = 1 := by kernel_rfl
theorem cells5 : Try.prog.cellsOf 5 = 1 := by kernel_rfl

theorem cell_lt {w : World} {a : Addr} {v : Value} (h : w.cell? a = some v) : a.block < w.heap.size := by
  unfold World.cell? at h
  split at h
  · rename_i c e f hb
    exact (Array.getElem?_eq_some_iff.1 hb).1
  · cases h

theorem plain_of {w : World} {a : Addr} {v0 : Value} (h0 : w.cell? (a.add 0) = some v0) : ∃ b off, a = ⟨b, off, none⟩ ∧ b < w.heap.size ∧ ∀ i, a.add i = ⟨b, off + i, none⟩ := by
  have e0 : a.add 0 = a := by simp [Addr.add]
  rw [e0] at h0
  have h1 := World.cell?_spot h0
  have h2 := cell_lt h0
  obtain ⟨b, off, sp⟩ := a
  have e1 : sp = none := h1
  subst e1
  exact ⟨b, off, rfl, h2, fun i => Addr.add_lit _ _ _⟩

def boolOf (v : Value) : Bool := match v with | .bool b => b | _ => false
def natOf (v : Value) : Nat := match v with | .int _ z => z.toNat | _ => 0

section
variable {H : Type} {enc : TypeId × Value → H} {W : World} {base : Nat} {spare : Nat → Bool} {held : Bool}

theorem open26 {v : Value} {x : DataW H × List MemPlace} (h : ∃ fuel, DataW.trod enc Try.prog W base spare held fuel 26 [v] = some x) :
    ∃ p n cap S, v = .slice p n cap ∧ n ≤ maxLen ∧ (p = none → n = 0 ∧ cap = 0) ∧ Strs W p n S := by
  obtain ⟨fuel, hf⟩ := h
  rcases Deep.open_strs Try.underlying26 Try.underlying9 cells9 hf with ⟨hcs, _⟩ | ⟨a, len, cap, m, Sx, hcs, _, hl, hm, hmm, _, hcell⟩
  · refine ⟨none, 0, 0, fun _ => ⟨#[]⟩, by simpa using hcs, Nat.zero_le _, fun _ => ⟨rfl, rfl⟩, fun i hi => by omega⟩
  · refine ⟨some a, len, cap, Sx, by simpa using hcs, by omega, fun e => absurd e (by simp), fun i hi => ?_⟩
    have hlm : len ≤ m := by rw [hmm]; split <;> omega
    obtain ⟨h1, h2⟩ := hcell i (by omega)
    obtain ⟨b, off, rfl, h3, h4⟩ := plain_of (hcell 0 (by omega)).1
    exact ⟨b, off, rfl, h3, by rw [← h4]; exact h1, h2⟩

theorem open27 {v : Value} {x : DataW H × List MemPlace} (h : ∃ fuel, DataW.trod enc Try.prog W base spare held fuel 27 [v] = some x) :
    ∃ p n cap B, v = .slice p n cap ∧ n ≤ maxLen ∧ Bools W p n B := by
  obtain ⟨fuel, hf⟩ := h
  rcases Deep.open_slice1 Try.underlying27 cells4 hf with ⟨hcs, _⟩ | ⟨a, len, cap, m, n, Vx, D, Pl, hcs, _, hl, hm, hmm, _, hx⟩
  · exact ⟨none, 0, 0, fun _ => false, by simpa using hcs, Nat.zero_le _, fun i hi => absurd hi (by omega)⟩
  · have hlm : len ≤ m := by rw [hmm]; split <;> omega
    refine ⟨some a, len, cap, fun i => boolOf (Vx i), by simpa using hcs, by omega, fun i hi => ?_⟩
    obtain ⟨b, off, rfl, h3, h4⟩ := plain_of (hx 0 (by omega)).1
    obtain ⟨h1, h2⟩ := hx i (by omega)
    obtain ⟨bb, e1, _⟩ := DataW.trod_bool Try.underlying4 h2
    have e2 : Vx i = .bool bb := by simpa using e1
    refine ⟨b, off, rfl, h3, ?_⟩
    show W.cell? ⟨b, off + i, none⟩ = some (.bool (boolOf (Vx i)))
    rw [← h4, h1, e2]
    rfl

theorem open24 {v : Value} {x : DataW H × List MemPlace} (h : ∃ fuel, DataW.trod enc Try.prog W base spare held fuel 24 [v] = some x) :
    ∃ p n cap K, v = .slice p n cap ∧ n ≤ maxLen ∧ (p = none → n = 0 ∧ cap = 0) ∧ Nats W p n K := by
  obtain ⟨fuel, hf⟩ := h
  rcases Deep.open_slice1 Try.underlying24 cells5 hf with ⟨hcs, _⟩ | ⟨a, len, cap, m, n, Vx, D, Pl, hcs, _, hl, hm, hmm, _, hx⟩
  · exact ⟨none, 0, 0, fun _ => 0, by simpa using hcs, Nat.zero_le _, fun _ => ⟨rfl, rfl⟩, fun i hi => absurd hi (by omega)⟩
  · have hlm : len ≤ m := by rw [hmm]; split <;> omega
    refine ⟨some a, len, cap, fun i => natOf (Vx i), by simpa using hcs, by omega, fun e => absurd e (by simp), fun i hi => ?_⟩
    obtain ⟨b, off, rfl, h3, h4⟩ := plain_of (hx 0 (by omega)).1
    obtain ⟨h1, h2⟩ := hx i (by omega)
    obtain ⟨z, e1, _, hw⟩ := DataW.trod_int Try.underlying5 h2
    have e2 : Vx i = .int .u8 z := by simpa using e1
    have hr : decide (IntKind.u8.min ≤ z) && decide (z ≤ IntKind.u8.max) := hw
    rw [Bool.and_eq_true, decide_eq_true_eq, decide_eq_true_eq] at hr
    have m1 : IntKind.u8.min = 0 := by decide
    have m2 : IntKind.u8.max = 255 := by decide
    refine ⟨b, off, rfl, h3, ?_, ?_⟩
    · have e3 : ((natOf (Vx i) : Nat) : Int) = z := by rw [e2]; show ((z.toNat : Nat) : Int) = z; omega
      show W.cell? ⟨b, off + i, none⟩ = some (.int .u8 ((natOf (Vx i) : Nat) : Int))
      rw [e3, ← h4, h1, e2]
    · show natOf (Vx i) ≤ 255
      rw [e2]; show z.toNat ≤ 255; omega
end
end Go.Proofs.Qxb6603535a.Open
