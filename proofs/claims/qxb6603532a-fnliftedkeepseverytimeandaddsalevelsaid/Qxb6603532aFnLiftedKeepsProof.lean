/-
  The proof of 'Rows.FnLiftedKeepsEveryTimeAndAddsALevelSaid': the frame of the row (after the guide's own shell for a law that writes nothing old) round the walks.
-/
import Derived.Test.Qxb6603532aLiftedWalk
import Derived.Test.Qxb6603532aOpen
import Derived.ShutString
import Derived.ChangeOld
import Derived.Below
namespace Go.Proofs.Qxb6603532a.fnLiftedKeeps
open Go.ChangeShapes Go.WideShapes Go.ChangeAt Go.RowKit
open Go.Proofs.Qxb6603532a.Trie
set_option linter.unusedVariables false

theorem own : ownKnob Try.prog.godebug = none := by kernel_rfl
theorem laidOut : laidOutB Try.prog = true := by kernel_rfl

/-- For every root that is a trie at whatever level, and every height: the law returns true, and writes nothing that was there. -/
theorem walk (u : Option Addr) (a1 : Int) (w : World) (h : ∀ n, ∃ t : T n, Rep w 0 n u t) (w1 : (Lit.int .i64 a1).wf = true) :
    Calls Try.prog 5 #[.pointer u, .int .i64 a1] w fun e w' => e = .returned (.bool true) ∧ Below w.heap.size w w' := by
  obtain ⟨b1, b2⟩ := bounds_i64 w1
  by_cases hin : a1 < 0 ∨ 65536 < a1
  · exact LiftedWalk.walk_out u a1 w hin b1 b2
  · obtain ⟨n, rfl⟩ := Int.eq_ofNat_of_zero_le (show 0 ≤ a1 by omega)
    obtain ⟨t, ht⟩ := h n
    by_cases hz : t = T.nil n
    · subst hz
      obtain rfl := Rep.none_of ht
      exact LiftedWalk.walk_nil n n w (Int.le_refl _) (Int.le_refl _) (by omega)
    · exact LiftedWalk.walk_some n u t hz n 0 w ht (Int.le_refl _) (Int.le_refl _) (by omega)

set_option maxRecDepth 100000 in
theorem lifted (os : Os) (started : os.Started) (H : Type) (enc : TypeId × Value → H) :
    ReturnsInHanded {} Try.checked os 5 .any (Rows.fnLiftedKeepsEveryTimeAndAddsALevelSpec.pre6 enc Try.prog Try.f5 Rows.fnLiftedKeepsEveryTimeAndAddsALevelRow.domain false) (Rows.fnLiftedKeepsEveryTimeAndAddsALevelSpec.post enc Try.prog Try.f5 false true false false) := by
  refine returnsInHanded_of_change (C := Try.checked) own started (by kernel_rfl) Try.func5
    (ChangeSpec.witness6 (enc := enc) (C := Try.checked) false ⟨#[], #[.pointer none, .int .i64 0], []⟩ 8 (by kernel_rfl) (by kernel_rfl) (by kernel_rfl) (by kernel_rfl)) ?_
  intro W base args ds gs before hval0 hW hcnd _
  have hval : ∀ (j : Nat) t v, Try.f5.params[j]? = some t → args[j]? = some v → Value.okWide Try.prog W .any base t v := hval0
  have hW' := hW
  obtain ⟨p, q, hA0, hV, rfl, hfz, hnd⟩ := hW
  have hA : DataW.TrodAll enc Try.prog W 0 (fun _ => true) true Try.f5.params.toList args.toList ds p := hA0
  rw [Try.params5] at hA hval
  obtain ⟨v0, vs0, d0, ds0, p0, q0, hargs, rfl, rfl, h0, r0⟩ := trodAll_cons hA
  obtain ⟨v1, vs1, d1, ds1, p1, q1, rfl, rfl, rfl, h1, r1⟩ := trodAll_cons r0
  obtain ⟨rfl, rfl, rfl⟩ := trodAll_nil r1
  obtain rfl : args = #[v0, v1] := by cases args; simp_all
  obtain ⟨rfl, rfl⟩ := trodVars_none hV
  obtain ⟨u, rfl⟩ := okWide_pointer Try.underlying25 (hval 0 25 v0 rfl rfl)
  have k0 := h0
  have lt0 : ∀ x ∈ p0, x.block < W.heap.size := by obtain ⟨m, hm⟩ := k0; exact DataW.trod_lt m _ _ _ hm
  have w0 : ∀ n, ∃ t : T n, Rep W 0 n u t := by
    intro n
    obtain ⟨fuel, hf⟩ := h0
    obtain ⟨u', t, hu, hr⟩ := Open.root_open n (v := .pointer u) (by simpa [Value.cells] using hf)
    cases hu
    exact ⟨t, hr⟩
  obtain ⟨a1, rfl, rfl, rfl, w1⟩ := open_int Try.underlying3 (hval 1 3 v1 rfl rfl) h1
  clear hA0 hval0
  refine (walk u a1 W w0 w1).mono fun e W' ⟨he, bel⟩ => ?_
  subst he
  exact ⟨_, rfl, _, _, _, [], _, [], hW', trodAll_mk1 (shut_bool Try.underlying4 _), (trodAll_cons_mk (Below.trod laidOut (by kernel_rfl) (of_decide_eq_true (by kernel_rfl)) k0 bel lt0) (trodAll_cons_mk (shut_int Try.underlying3 w1) trodAll_mk0)), rfl, bel.frame _, fun h => by cases h⟩

theorem over : Rows.fnLiftedKeepsEveryTimeAndAddsALevelRow.holds Try.pinned (OpenSpec.ofChange Rows.fnLiftedKeepsEveryTimeAndAddsALevelSpec) :=
  OpenClaim.holds_of_wide 5 Try.f5 rfl rfl rfl rfl rfl rfl rfl ⟨rfl, rfl, rfl, rfl, rfl⟩ rfl rfl rfl rfl rfl (by kernel_rfl) Try.func5 (by kernel_rfl)
    (of_decide_eq_true (by kernel_rfl)) (by unfold Func.isWrapper; first | (rw [if_pos (by decide +kernel)]; kernel_rfl) | (rw [if_neg (by decide +kernel)]; exact ⟨rfl, rfl⟩))
    (fun os started H enc _ => lifted os started H enc)

theorem proved : Rows.FnLiftedKeepsEveryTimeAndAddsALevelSaid := over
#print axioms proved
end Go.Proofs.Qxb6603532a.fnLiftedKeeps
