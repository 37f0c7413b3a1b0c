import Derived.Test.Qxb6603532aDoorTrie
import Derived.Test.Qxb6603532aDoorRows
import Derived.OpenShut
namespace Go.Proofs.Qxb6603532aDoor.Open
open Go.RowKit Go.ChangeShapes Go.WideShapes Go.Proofs.Qxb6603532aDoor.Trie
set_option linter.unusedVariables false

theorem cells22 : Tryd.prog.cellsOf 22 = 1 := by kernel_rfl
theorem cells42 : Tryd.prog.cellsOf 42 = 8 := by kernel_rfl
theorem cells40 : Tryd.prog.cellsOf 40 = 4 := by kernel_rfl
theorem cells34 : Tryd.prog.cellsOf 34 = 4 := by kernel_rfl
theorem cells33 : Tryd.prog.cellsOf 33 = 1 := by kernel_rfl

section
variable {H : Type} {enc : TypeId × Value → H} {w : World} {sp : Nat → Bool} {held : Bool}

/-- One node that can be read: its four kids' cells, each read again, and its four times. -/
theorem node_open {fuel : Nat} {v : Value} {x : DataW H × List MemPlace} (h : DataW.trod enc Tryd.prog w 0 sp held fuel 22 [v] = some x) :
    v = .pointer none ∨ ∃ (b o : Nat) (C : Nat → Value) (m : Nat) (f : Nat → Int), v = .pointer (some ⟨b, o, none⟩) ∧ Leaf w b o f ∧
      ∀ i, i < 4 → w.cell? ⟨b, o + i, none⟩ = some (C i) ∧ ∃ y, DataW.trod enc Tryd.prog w 0 sp held m 22 [C i] = some y := by
  rcases DataW.trod_pointer Tryd.underlying22 h with ⟨hc, _⟩ | ⟨a, cs, y, m, _, hc, _, hcells, hy⟩
  · left; simpa using hc
  · right
    obtain rfl : v = .pointer (some a) := by simpa using hc
    rw [cells42] at hcells
    obtain ⟨_, hlen, hcell⟩ := World.cells?_some hcells
    match cs, hlen with
    | [c0, c1, c2, c3, c4, c5, c6, c7], _ =>
      obtain ⟨b, off, spot⟩ := a
      have g0 : w.cell? ((⟨b, off, spot⟩ : Addr).add 0) = some c0 := hcell 0 (by omega)
      have hspot : spot = none := by simpa [Addr.add] using World.cell?_spot g0
      subst hspot
      have hc' : ∀ i, i < 8 → w.cell? ⟨b, off + i, none⟩ = [c0, c1, c2, c3, c4, c5, c6, c7][i]? := fun i hi => by
        have e : (⟨b, off, none⟩ : Addr).add i = ⟨b, off + i, none⟩ := by unfold Addr.add; split <;> simp_all
        rw [← e]; exact hcell i hi
      obtain ⟨y0, y1, k, _, _, h0, h1⟩ := trod_struct2 Tryd.underlying42 hy
      simp only [cells40, cells34] at h0 h1
      obtain ⟨xs, m0, _, _, _, hl0, ha0⟩ := DataW.trod_array Tryd.underlying40 h0
      obtain ⟨ys, m1, _, _, _, hl1, ha1⟩ := DataW.trod_array Tryd.underlying34 h1
      simp only [cells22] at ha0
      simp only [cells33] at ha1
      have t4 : ∀ i (c : Value), i < 4 → (((([c0, c1, c2, c3, c4, c5, c6, c7] : List Value).drop 4).take 4).drop (i * 1)).take 1 = [c] → ∃ n, c = .int .u64 n ∧ 0 ≤ n ∧ n ≤ 18446744073709551615 := fun i c hi hc => by
        have h2 := ha1 i hi
        rw [hc, List.getElem?_eq_getElem (by omega)] at h2
        obtain ⟨n, hn, _, hw⟩ := DataW.trod_int Tryd.underlying33 h2
        exact ⟨n, by simpa using hn, (bounds_u64 hw).1, (bounds_u64 hw).2⟩
      obtain ⟨n0, rfl, b0⟩ := t4 0 c4 (by omega) rfl
      obtain ⟨n1, rfl, b1⟩ := t4 1 c5 (by omega) rfl
      obtain ⟨n2, rfl, b2⟩ := t4 2 c6 (by omega) rfl
      obtain ⟨n3, rfl, b3⟩ := t4 3 c7 (by omega) rfl
      refine ⟨b, off, fun i => [c0, c1, c2, c3].getD i c0, m0, fun i => [n0, n1, n2, n3].getD i 0, rfl, fun i hi => ?_, fun i hi => ?_⟩
      · match i, hi with
        | 0, _ => exact ⟨hc' 4 (by omega), b0⟩
        | 1, _ => exact ⟨hc' 5 (by omega), b1⟩
        | 2, _ => exact ⟨hc' 6 (by omega), b2⟩
        | 3, _ => exact ⟨hc' 7 (by omega), b3⟩
      · have h2 := ha0 i hi
        rw [List.getElem?_eq_getElem (by omega)] at h2
        match i, hi with
        | 0, _ => exact ⟨hc' 0 (by omega), _, h2⟩
        | 1, _ => exact ⟨hc' 1 (by omega), _, h2⟩
        | 2, _ => exact ⟨hc' 2 (by omega), _, h2⟩
        | 3, _ => exact ⟨hc' 3 (by omega), _, h2⟩

/-- A root that can be read is a trie, read down to whatever level. -/
theorem root_open (n : Nat) : ∀ {fuel : Nat} {v : Value} {x : DataW H × List MemPlace}, DataW.trod enc Tryd.prog w 0 sp held fuel 22 [v] = some x →
    ∃ u t, v = .pointer u ∧ Rep w false 0 n u t := by
  induction n with
  | zero =>
    intro fuel v x h
    rcases node_open h with rfl | ⟨b, o, C, m, f, rfl, hl, hk⟩
    · exact ⟨none, T.nil 0, rfl, Rep.mk_nil _ _ _ _⟩
    · exact ⟨_, T.leaf f, rfl, Or.inr ⟨b, o, f, rfl, rfl, Nat.zero_le _, (fun h => by cases h), hl⟩⟩
  | succ n ih =>
    intro fuel v x h
    rcases node_open h with rfl | ⟨b, o, C, m, f, rfl, hl, hk⟩
    · exact ⟨none, T.nil (n + 1), rfl, Rep.mk_nil _ _ _ _⟩
    · obtain ⟨y0, e0⟩ := (hk 0 (by omega)).2
      obtain ⟨y1, e1⟩ := (hk 1 (by omega)).2
      obtain ⟨y2, e2⟩ := (hk 2 (by omega)).2
      obtain ⟨y3, e3⟩ := (hk 3 (by omega)).2
      obtain ⟨u0, t0, v0, r0⟩ := ih e0
      obtain ⟨u1, t1, v1, r1⟩ := ih e1
      obtain ⟨u2, t2, v2, r2⟩ := ih e2
      obtain ⟨u3, t3, v3, r3⟩ := ih e3
      refine ⟨_, T.node (fun i => [t0, t1, t2, t3].getD i t0), rfl, Or.inr ⟨b, o, _, fun i => [u0, u1, u2, u3].getD i u0, rfl, rfl, Nat.zero_le _, (fun h => by cases h), fun i hi => ?_⟩⟩
      match i, hi with
      | 0, _ => exact ⟨by rw [(hk 0 (by omega)).1, v0]; rfl, r0⟩
      | 1, _ => exact ⟨by rw [(hk 1 (by omega)).1, v1]; rfl, r1⟩
      | 2, _ => exact ⟨by rw [(hk 2 (by omega)).1, v2]; rfl, r2⟩
      | 3, _ => exact ⟨by rw [(hk 3 (by omega)).1, v3]; rfl, r3⟩

end
end Go.Proofs.Qxb6603532aDoor.Open
