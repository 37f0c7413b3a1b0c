/-
  The proof of the row 'Rows.FnLiftedHoldsTheSameClockBySameButSaid' and of its tied card.
-/
import Derived.Test.Qxb6603532aDoorLawWalk
import Derived.Test.Qxb6603532aDoorOpen
import Derived.Test.Qxb6603532aDoorTie
import Derived.Test.Qxb6603532aDoorCards
import Derived.ShutString
import Derived.ChangeOld
import Derived.ChangeVars
import Derived.LaidLaws
import Derived.LaidHandle
import Derived.LaidMore
import Derived.Stop.Joined
import Derived.Below
import Derived.WalkSmall
import Derived.SevenTiedAt
namespace Go.Proofs.Qxb6603532aDoor.fnLiftedHolds
open Go.ChangeShapes Go.WideShapes Go.ChangeAt Go.RowKit
open Go.Proofs.Qxb6603532aDoor.Trie
set_option linter.unusedVariables false

theorem own : ownKnob Tryd.prog.godebug = none := by kernel_rfl
theorem laidOut : laidOutB Tryd.prog = true := by kernel_rfl
theorem gZero : Tryd.prog.globalNamed (Rows.fnLiftedHoldsTheSameClockBySameButSpec.vars.headD "") = some 0 := by kernel_rfl
theorem tZero : (Tryd.prog.globals[0]?).map (·.type) = some 48 := by kernel_rfl

/-- For every root that is a trie at whatever level, and every height: the law returns true, and writes nothing that was there. -/
theorem walk (u : Option Addr) (a1 : Int) (w : World) (h : ∀ n, ∃ t : T n, Rep w false 0 n u t) (w1 : (Lit.int .i64 a1).wf = true) :
    Calls Tryd.prog 3 #[.pointer u, .int .i64 a1] w fun e w' => e = .returned (.bool true) ∧ Below w.heap.size w w' := by
  obtain ⟨b1, b2⟩ := bounds_i64 w1
  by_cases hin : a1 < 0 ∨ 65536 < a1
  · exact LawWalk.walk_out u a1 w hin b1 b2
  · obtain ⟨n, rfl⟩ := Int.eq_ofNat_of_zero_le (show 0 ≤ a1 by omega)
    obtain ⟨t, ht⟩ := h n
    by_cases hz : t = T.nil n
    · subst hz
      obtain rfl := Rep.none_of ht
      exact LawWalk.walk_nil n n w (Int.le_refl _) (Int.le_refl _) (by omega)
    · exact LawWalk.walk_some n u t hz n 0 w ht (Int.le_refl _) (Int.le_refl _) (by omega)

/-- The door's own heap meets the condition. -/
theorem door_met (os : Os) (args : Array Value) : laidMetH Tryd.prog Rows.fnLiftedHoldsTheSameClockBySameButRow.laid ((World.doorLaid Tryd.prog 400 os).forCall (fun _ _ => 0) ⟨#[], args, []⟩).memory :=
  laidMetH_of_parts3 (fuel := 8) (laidMet_of_run' 8 (by kernel_rfl) (by kernel_rfl)) (by kernel_rfl) (by kernel_rfl)

set_option maxRecDepth 100000 in
theorem lifted (os : Os) (started : os.Started) (H : Type) (enc : TypeId × Value → H) :
    ReturnsInHanded {} Tryd.checked os 3 .any (fun w args => (Rows.fnLiftedHoldsTheSameClockBySameButSpec.pre enc Tryd.prog Tryd.f3 [] false w args ∧ laidMetH Tryd.prog Rows.fnLiftedHoldsTheSameClockBySameButRow.laid w) ∧ sizedMet enc Tryd.prog Tryd.f3 (OpenSpec.ofChange Rows.fnLiftedHoldsTheSameClockBySameButSpec) false w args)
      (Rows.fnLiftedHoldsTheSameClockBySameButSpec.post enc Tryd.prog Tryd.f3 false true false false) := by
  refine returnsInHanded_of_change_and (C := Tryd.checked) (X := fun w _ => laidMetH Tryd.prog Rows.fnLiftedHoldsTheSameClockBySameButRow.laid w) (fun _ _ _ hh h => h.of_heap hh) own started (by kernel_rfl) Tryd.func3
    (ChangeSpec.witness_shaped (enc := enc) (C := Tryd.checked) (os := os) (X := fun w _ => laidMetH Tryd.prog Rows.fnLiftedHoldsTheSameClockBySameButRow.laid w) false (World.doorLaid Tryd.prog 400 os) #[.pointer none, .int .i64 0] 8 rfl (World.shaped_of_RefB (by kernel_rfl) (by kernel_rfl)) (by kernel_rfl) (by kernel_rfl) (by kernel_rfl) (door_met os _)) ?_
  intro W base args ds gs before hval0 hW _ _ hL _
  have hval : ∀ (j : Nat) t v, Tryd.f3.params[j]? = some t → args[j]? = some v → Value.okWide Tryd.prog W .any base t v := hval0
  have hW' := hW
  obtain ⟨p, q, hA0, hV, rfl, hfz, hnd⟩ := hW
  have hA : DataW.TrodAll enc Tryd.prog W 0 (fun _ => true) true Tryd.f3.params.toList args.toList ds p := hA0
  rw [Tryd.params3] at hA hval
  obtain ⟨v0, vs0, d0, ds0, p0, q0, hargs, rfl, rfl, h0, r0⟩ := trodAll_cons hA
  obtain ⟨v1, vs1, d1, ds1, p1, q1, rfl, rfl, rfl, h1, r1⟩ := trodAll_cons r0
  obtain ⟨rfl, rfl, rfl⟩ := trodAll_nil r1
  obtain rfl : args = #[v0, v1] := by cases args; simp_all
  obtain ⟨g, ty, cs, fz, dz, pz, rfl, hg, hty, hvar, hz, rfl⟩ := trodVars_one hV
  obtain rfl : g = 0 := Option.some.inj (hg.symm.trans gZero)
  obtain rfl : ty = 48 := Option.some.inj (hty.symm.trans tZero)
  obtain ⟨u, rfl⟩ := okWide_pointer Tryd.underlying22 (hval 0 22 v0 rfl rfl)
  have k0 := h0
  have lt0 : ∀ x ∈ p0, x.block < W.heap.size := by obtain ⟨m, hm⟩ := k0; exact DataW.trod_lt m _ _ _ hm
  have ltz : ∀ x ∈ pz, x.block < W.heap.size := DataW.trod_lt fz _ _ _ hz
  have w0 : ∀ n, ∃ t : T n, Rep W false 0 n u t := by
    intro n
    obtain ⟨fuel, hf⟩ := h0
    obtain ⟨u', t, hu, hr⟩ := Open.root_open n (v := .pointer u) (by simpa [Value.cells] using hf)
    cases hu
    exact ⟨t, hr⟩
  have hvlt : 0 < W.heap.size := by
    by_cases h : 0 < W.heap.size
    · exact h
    · exfalso
      unfold World.var? at hvar
      have e : W.heap[0]? = none := Array.getElem?_eq_none (by omega)
      simp [hg, e] at hvar
  obtain ⟨a1, rfl, rfl, rfl, w1⟩ := open_int Tryd.underlying3 (hval 1 3 v1 rfl rfl) h1
  clear hA0 hval0
  refine (walk u a1 W w0 w1).mono fun e W' ⟨he, bel⟩ => ?_
  subst he
  have hvz := trodVars_mk1 (enc := enc) (spare := fun b => decide (b < W.heap.size)) hg hty (var?_below bel hg hvlt hvar)
    (DataW.trod_stays (kids_book laidOut (show Tryd.prog.readableRec 48 = true by kernel_rfl)) (book_sized (show Tryd.prog.readableRec 48 = true by kernel_rfl)) (fun h => by cases h) ⟨of_decide_eq_true (by kernel_rfl), book_self 48⟩ hz
      (fun x hx => bel.same (ltz x hx)) (fun x hx => by simpa using ltz x hx))
  exact ⟨_, rfl, _, _, _, [], _, _, hW', trodAll_mk1 (shut_bool Tryd.underlying4 _), (trodAll_cons_mk (Below.trod laidOut (by kernel_rfl) (of_decide_eq_true (by kernel_rfl)) k0 bel lt0) (trodAll_cons_mk (shut_int Tryd.underlying3 w1) trodAll_mk0)), hvz, bel.frame _, fun h => by cases h⟩

theorem over : Rows.FnLiftedHoldsTheSameClockBySameButSaid :=
  OpenClaim.holds_of_wide 3 Tryd.f3 rfl rfl rfl rfl rfl rfl rfl ⟨rfl, rfl, rfl, rfl, rfl⟩ rfl rfl rfl rfl rfl (by kernel_rfl) Tryd.func3 (by kernel_rfl)
    (of_decide_eq_true (by kernel_rfl)) (by unfold Func.isWrapper; first | (rw [if_pos (by decide +kernel)]; kernel_rfl) | (rw [if_neg (by decide +kernel)]; exact ⟨rfl, rfl⟩))
    (fun os started H enc _ => lifted os started H enc)

/-- THE TIED CARD: the row, its one listed variable tied to the program's text (the tie is given). -/
theorem card : Rows.FnLiftedHoldsTheSameClockBySameButCardSaid :=
  Claim7.holds_tied_plain_at .later [] [.zeroDeep] true Rows.fnLiftedHoldsTheSameClockBySameButCard.stood.harness false
    over (fun _ h => by cases h) (by kernel_rfl) (fun _ h => by cases h) fnLiftedHoldsTheSameClockBySameBut_row_tie rfl ⟨rfl, rfl⟩ (by kernel_rfl) rfl
    (fun f fn hf hfn => by
      obtain rfl : f = 3 := Option.some.inj ((show Tryd.prog.funcNamed Rows.fnLiftedHoldsTheSameClockBySameButRow.func = some 3 by kernel_rfl).symm.trans hf) |>.symm
      obtain rfl : fn = Tryd.f3 := (Option.some.inj (Tryd.func3.symm.trans hfn)).symm
      exact ⟨by kernel_rfl, fun j t ht => by
        rw [Tryd.params3] at ht
        have h3 : t = 22 ∨ t = 3 := by
          rcases j with _ | _ | j
          · exact Or.inl (by simpa using ht.symm)
          · exact Or.inr (by simpa using ht.symm)
          · simp at ht
        rcases h3 with rfl | rfl
        · exact (show Tryd.prog.wantsStandIn 22 = false by kernel_rfl)
        · exact (show Tryd.prog.wantsStandIn 3 = false by kernel_rfl)⟩)
    (by kernel_rfl)
#print axioms card
end Go.Proofs.Qxb6603532aDoor.fnLiftedHolds
