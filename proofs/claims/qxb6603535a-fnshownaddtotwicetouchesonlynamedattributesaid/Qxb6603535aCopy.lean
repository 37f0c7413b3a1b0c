import Derived.Test.Qxb6603535aPut
import Derived.Laws.IdiomCopy
namespace Go.Proofs.Qxb6603535a.Copy
open Go.RowKit Go.Maps Go.Proofs.Qxb6603535a.Mem Go.Proofs.Qxb6603535a.Get Go.Proofs.Qxb6603535a.Bounds Go.Proofs.Qxb6603535a.Sizes Go.Proofs.Qxb6603535a.Row Go.Proofs.Qxb6603535a.Put
set_option linter.unusedVariables false

theorem turned_setCells (b : Nat) : ∀ (vs : List Value) (o : Nat) (w : World), Turned (fun k => k = b) w (w.setCells b o vs)
  | [], _, w => Turned.refl _ _
  | v :: r, o, w => Turned.trans (S := fun k => k = b) ((Turned.refl (fun k => k = b) w).setCell (p := ⟨b, o, none⟩) (Or.inr rfl) v) (turned_setCells b r (o + 1) _) (fun _ _ e => e)

theorem copied (w : World) (kr nk : Nat) (f : Nat → Value) (hrow : Rowed w kr nk f) (p : Option Addr) (ck : Nat) (K : Nat → Nat) (h : Nats w p nk K) :
    ∃ w', (∀ ty, (Builtin.copy_ #[24, 24] ty #[.slice (some ⟨kr, 0, none⟩) nk nk, .slice p nk ck]).run Try.prog w = .ok (.int .i64 nk) w') ∧ Nats w' (some ⟨kr, 0, none⟩) nk K ∧ Turned (fun k => k = kr) w w' := by
  have hi : (Try.prog.info? 5).map (·.size) = some 1 := by kernel_rfl
  by_cases h0 : nk = 0
  · subst h0
    exact ⟨w, fun ty => run_copy_none w 24 24 ty 5 _ _ _ _ _ _ Try.underlying24 hi (by simp), fun i hi => by omega, Turned.refl _ _⟩
  · obtain ⟨b, off, rfl, hb, _, _⟩ := h 0 (by omega)
    have hcs : ((List.range nk).map (fun i => Value.int .u8 (K i))).length = nk := by simp
    have hget : ∀ j, j < nk → ((List.range nk).map (fun i => Value.int .u8 (K i)))[j]? = some (.int .u8 (K j)) := fun j hj => by simp [hj]
    have hrun := fun ty => run_copy_cells (P := Try.prog) w 24 24 ty 5 kr 0 nk nk ⟨b, off, none⟩ nk ck ((List.range nk).map (fun i => Value.int .u8 (K i))) Try.underlying24 hi (by simp)
      (fun j v hj => by
        have hjl : j < nk := by
          have := (List.getElem?_eq_some_iff.1 hj).1
          simpa using this
        rw [hget j hjl] at hj
        cases hj
        obtain ⟨b', off', e, _, h3, _⟩ := h j hjl
        cases e
        rw [Addr.add_lit]
        exact h3)
      (fun j hj => by
        rw [hcs] at hj
        rw [Nat.zero_add, hrow.cell hj]; rfl)
      (fun j hj => by rw [Nat.zero_add]; exact hrow.frozen j)
      (fun v hv => by
        obtain ⟨i, _, rfl⟩ := List.mem_map.1 hv
        rfl)
    rw [hcs] at hrun
    refine ⟨_, hrun, fun i hi' => ⟨kr, 0, rfl, ?_, ?_, ?_⟩, turned_setCells _ _ _ _⟩
    · have := (turned_setCells kr ((List.range nk).map (fun i => Value.int .u8 (K i))) 0 w).size
      have := hrow.lt
      omega
    · have := World.cell?_setCells_in kr ((List.range nk).map (fun i => Value.int .u8 (K i))) 0 w (fun j hj => by
        rw [hcs] at hj
        rw [Nat.zero_add, hrow.cell hj]; rfl) i (by rw [hcs]; exact hi')
      rw [this]
      simp
    · obtain ⟨_, _, _, _, _, h4⟩ := h i hi'
      exact h4

/-- 'copy(zzc, kinds)' at the operation. -/
theorem copy_law (w : World) {ops : Array Oper} {rest : List Oper} {o : Oper} {a : Act} {Q : Exit → Act → World → Prop} (hg : o.guard = none) (d s : Operand) (hop : o.op = Op.call { callee := Callee.builtin Builtin.copy, args := #[d, s], argTypes := #[24, 24] })
    (kr nk ck : Nat) (p : Option Addr) (hd : a.eval d = .slice (some ⟨kr, 0, none⟩) nk nk) (hs : a.eval s = .slice p nk ck) (f : Nat → Value) (K : Nat → Nat) (hrow : Rowed w kr nk f) (h : Nats w p nk K)
    (hK : ∀ w', Nats w' (some ⟨kr, 0, none⟩) nk K → Turned (fun k => k = kr) w w' → wpList Try.prog ops Q rest (a.put o.dst (.int .i64 nk)) w') :
    wpList Try.prog ops Q (o :: rest) a w := by
  refine wpList_plain hg fun K' hK' => ?_
  obtain ⟨w', hrun, h1, h2⟩ := copied w kr nk f hrow p ck K h
  unfold Oper.wp
  simp [execOp, hop, resolve, invoke, builtin, hd, hs, hrun, Result.andThen]
  exact hK' _ _ (hK w' h1 h2)
end Go.Proofs.Qxb6603535a.Copy
