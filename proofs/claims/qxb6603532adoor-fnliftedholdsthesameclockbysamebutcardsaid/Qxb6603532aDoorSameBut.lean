/-
  SameBut over two clocks that are lifts of one trie: true.
-/
import Derived.Test.Qxb6603532aDoorIter
import Derived.Laws.StructEq
import Derived.RangeFuncNested
import Derived.RangeFuncBound
import Derived.RangeFuncCalls
import Derived.RangeFuncLeaves
import Derived.Shelf.Abstract
import Derived.Shelf.RegionOpen
import Derived.WalkKit
import Derived.OwnWalkIn
import Derived.TacticsInMore
import Derived.LoopNIn
import Derived.LoopIn
namespace Go.Proofs.Qxb6603532aDoor.SameBut
open Go.RowKit Go.Shelf Go.Proofs.Qxb6603532aDoor.Trie Go.Proofs.Qxb6603532aDoor.Iter
set_option linter.unusedVariables false
attribute [local go_sem] Oper.semAt_some

set_option maxHeartbeats 400000 in
theorem later_fn (uc uo : Option Addr) (hc ho : Int) (w : World) :
    Calls Tryd.prog 14 #[.agg #[.pointer uc, .int .i64 hc], .agg #[.pointer uo, .int .i64 ho]] w fun e w' =>
      e = .returned (.func (.func 15) #[] #[.pointer (some ⟨w.heap.size + 1, 0, none⟩), .pointer (some ⟨w.heap.size, 0, none⟩)]) ∧
      w' = (w.alloc (.cells #[.pointer uc, .int .i64 hc] 29)).alloc (.cells #[.pointer uo, .int .i64 ho] 29) := by
  go_enter Tryd.func14, Tryd.ntmps14
  go_wp2_with fail
  go_ret
  exact ⟨rfl, rfl⟩

/-- What lies behind a loop over the iterator, no round having run: all old blocks but the two boxes are as they were; the block for deferred calls is empty. -/
structure After (bo bc : Nat) (w w' : World) : Prop where
  os : w'.os = w.os
  tape : w'.tape = w.tape
  output : w'.output = w.output
  size : w.heap.size < w'.heap.size
  block : ∀ k, k < w.heap.size → k ≠ bo → k ≠ bc → w'.heap[k]? = w.heap[k]?
  none : w'.heap[w.heap.size]? = some (.deferred (some []))

/-- THE STATEMENT 'for .. := range g { .. }' where the iterator comes to its end without a round. -/
theorem range_none {n : Nat} {g : Operand} {ps : Array Tmp} {assign body : Code} {Q : Exit → Act → World → Prop} {a : Act} {w : World} (bo bc : Nat) (hbo : bo < w.heap.size) (hbc : bc < w.heap.size)
    (lb : Array Value) (hg : a.eval g = .func (.func 15) #[] lb)
    (hcall : ∀ (r : Loop) (y : Value), Calls Tryd.prog 15 (#[y] ++ lb) ((w.alloc (.deferred (some []))).alloc (.loop r)) fun e w' => (∃ v, e = .returned v) ∧ Kept2 bo bc ((w.alloc (.deferred (some []))).alloc (.loop r)) w')
    (hQ : ∀ W', After bo bc w W' → Q .normal { a with defers := { target := .collected w.heap.size, args := #[] } :: a.defers } W') :
    (Code.rangeFunc g ps assign body).wpIn Fence.wide n Tryd.prog Q a w := by
  refine wpIn_rangeFunc ?_
  intro fn hfn
  obtain ⟨W1, hW1⟩ : ∃ W1, (w.alloc (.deferred (some []))).alloc (.loop { state := .ready, pending := none, fn, tmps := a.tmps, params := ps, assign, body, defers := w.heap.size }) = W1 := ⟨_, rfl⟩
  refine ⟨w.heap.size + 1, [{ target := .collected w.heap.size, args := #[] }], W1, { target := .fn (.func 15) lb, args := #[.func (.yield (w.heap.size + 1)) #[] #[]] }, W1, 15,
    #[.func (.yield (w.heap.size + 1)) #[] #[]] ++ lb, W1, (by rw [← hW1]; exact run_enterLoop_outer _ _ _ _ _), ?_, ?_, ?_, (fun h => by cases h), ?_⟩
  · simp only [resolve, hg]
    simp [go_sem]
  · intro f' _; trivial
  · simp [invoke, go_sem]
  · rw [← hW1]
    refine callsIn_wide.2 ((hcall _ _).mono ?_)
    rintro e w3 ⟨⟨v, rfl⟩, hk⟩
    have hs : w.heap.size + 2 ≤ w3.heap.size := by have := hk.size; simp at this; omega
    have hl : w3.heap[w.heap.size + 1]? = some (.loop { state := .ready, pending := none, fn, tmps := a.tmps, params := ps, assign, body, defers := w.heap.size }) := by
      rw [hk.block _ (by simp) (by omega) (by omega)]
      have := World.alloc_heap_new (w.alloc (.deferred (some []))) (.loop { state := .ready, pending := none, fn, tmps := a.tmps, params := ps, assign, body, defers := w.heap.size })
      rwa [World.size_alloc] at this
    refine ⟨none, _, run_endLoop hl (by simp), ?_⟩
    refine hQ _ ⟨hk.os, hk.tape, hk.output, by simp; omega, fun k hk1 h1 h2 => ?_, ?_⟩
    · rw [World.putObj_heap_other (by omega), hk.block k (by simp; omega) h1 h2, Below.heap_alloc _ _ _ (by simp; omega), Below.heap_alloc _ _ _ hk1]
    · rw [World.putObj_heap_other (by omega), hk.block _ (by simp; omega) (by omega) (by omega), Below.heap_alloc _ _ _ (by simp)]
      exact World.alloc_heap_new w _

/-- Where the two boxes are laid, and the loop's two blocks behind them, the iterator can start. -/
theorem st_start {w W : World} (hb : Below w.heap.size w W) {n i j : Nat} {t : T n} {uo uc : Option Addr} {lo lo' : Nat} (hro : Rep w true lo (n + i) uo (upn i n t)) (hrc : Rep w true lo' (n + j) uc (upn j n t)) (r : Loop) {ho hc : Int} (eo : ho = (n : Int) + i) (ec : hc = (n : Int) + j)
    {W1 : World} (hW1 : W1 = ((((W.alloc (.cells #[.pointer uc, .int .i64 hc] 29)).alloc (.cells #[.pointer uo, .int .i64 ho] 29)).alloc (.deferred (some []))).alloc (.loop r))) :
    St W1 (W.heap.size + 1) W.heap.size n t i j uo uc W1 := by
  subst eo ec
  have hsz := hb.size
  have b1 : Below W.heap.size W (W.alloc (.cells #[.pointer uc, .int .i64 ((n : Int) + j)] 29)) := (Below.refl _ _).alloc (Nat.le_refl _) _
  have b2 : Below W.heap.size W ((W.alloc (.cells #[.pointer uc, .int .i64 ((n : Int) + j)] 29)).alloc (.cells #[.pointer uo, .int .i64 ((n : Int) + i)] 29)) := b1.alloc (by simp) _
  have b4 : Below ((W.alloc (.cells #[.pointer uc, .int .i64 ((n : Int) + j)] 29)).alloc (.cells #[.pointer uo, .int .i64 ((n : Int) + i)] 29)).heap.size ((W.alloc (.cells #[.pointer uc, .int .i64 ((n : Int) + j)] 29)).alloc (.cells #[.pointer uo, .int .i64 ((n : Int) + i)] 29)) W1 := by
    rw [hW1]; exact ((Below.refl _ _).alloc (Nat.le_refl _) _).alloc (by simp) _
  have bx : Below (W.alloc (.cells #[.pointer uc, .int .i64 ((n : Int) + j)] 29)).heap.size (W.alloc (.cells #[.pointer uc, .int .i64 ((n : Int) + j)] 29)) W1 := below_new b4
  have hall : Below w.heap.size w W1 := hb.trans ((below_new bx).mono hsz)
  obtain ⟨p0, p1, p2, p3⟩ := new_two bx
  obtain ⟨q0, q1, q2, q3⟩ := new_two b4
  simp only [World.size_alloc] at q0 q1 q2 q3
  have hlift : ∀ {lo m : Nat} {u : Option Addr} {x : T m}, Rep w true lo m u x → RepB W1 true (fun b => b ≠ W.heap.size + 1 ∧ b ≠ W.heap.size) m u x := fun h =>
    RepB.carry (fun _ _ _ hc => below_cell hall hc) (fun _ hc => hc.below hall) (fun b _ hl => ⟨by omega, by omega⟩) _ _ _ h
  exact ⟨⟨q0, q1, q2, q3⟩, ⟨p0, p1, p2, p3⟩, hlift hro, hlift hrc, Kept2.refl _ _ _⟩

/-- Two roots, each nil or in a clean block: they are told apart, or not, without a word. -/
theorem ptr_eq (d : Nat) (w : World) {n m lo lo' : Nat} {u v : Option Addr} {x : T n} {y : T m} (hu : Rep w true lo n u x) (hv : Rep w true lo' m v y) :
    (Op.equalIn (d + 1) 27 (.pointer u) (.pointer v)).run Tryd.prog w = .ok (decide (u = v)) w := by
  have clean : ∀ {n lo : Nat} {a : Addr} {x : T n}, Rep w true lo n (some a) x → Trie.Clean w a.block := by
    intro n lo a x h
    cases n with
    | zero => rcases h with ⟨_, h⟩ | ⟨b, o, f, _, h2, _, h3, _⟩
              · cases h
              · cases h2; exact h3 rfl
    | succ n => rcases h with ⟨_, h⟩ | ⟨b, o, f, V, _, h2, _, h3, _⟩
                · cases h
                · cases h2; exact h3 rfl
  have hs := Later.info48s
  cases hi : Tryd.prog.info? 48 with
  | none => rw [hi] at hs; cases hs
  | some j =>
    have hj : j.size = 8 := by rw [hi] at hs; simpa using hs
    match u, v, hu, hv with
    | none, none, _, _ => simp [Op.equalIn, run_underlying Tryd.underlying27]
    | none, some b, _, _ => simp [Op.equalIn, run_underlying Tryd.underlying27]
    | some a, none, _, _ => simp [Op.equalIn, run_underlying Tryd.underlying27]
    | some a, some b, hu, hv =>
      by_cases e : a = b
      · subst e
        simp [Op.equalIn, run_underlying Tryd.underlying27, sizeOf, typeInfo, hi, run_sameAddr_same]
      · obtain ⟨ca, ta, h1⟩ := clean hu
        obtain ⟨cb, tb, h2⟩ := clean hv
        simp [Op.equalIn, run_underlying Tryd.underlying27, sizeOf, typeInfo, hi, hj, run_sameAddr_other w e h1 h2, e]

theorem clock_eq (w : World) {n m lo lo' : Nat} {u v : Option Addr} {x : T n} {y : T m} (hu : Rep w true lo n u x) (hv : Rep w true lo' m v y) (h h' : Int) :
    (binOp .eql 29 (.agg #[.pointer u, .int .i64 h]) (.agg #[.pointer v, .int .i64 h'])).run Tryd.prog w = .ok (.bool (decide (u = v) && (h == h'))) w := by
  have hr := ptr_eq 9998 w hu hv
  generalize decide (u = v) = r at *
  rw [run_eql_struct, run_equalIn_struct w 9999 29 _ _ (by kernel_rfl) (by kernel_rfl)]
  simp only [Program.fieldsOf, Tryd.underlying29]
  have p0 : ∀ (xs : Array Value) (z : Value) (w : World), xs[0]? = some z → (part 27 xs 0).run Tryd.prog w = .ok z w := fun xs z w hz => by simp [part, hz]
  have p1 : ∀ (xs : Array Value) (z : Value) (w : World), xs[1]? = some z → (part 3 xs 1).run Tryd.prog w = .ok z w := fun xs z w hz => by simp [part, hz]
  simp only [Op.eqFields, Sem.run_bind, Sem.run_ite]
  rw [p0 _ (.pointer u) _ rfl]
  simp only [Result.andThen_ok]
  rw [p0 _ (.pointer v) _ rfl]
  simp only [Result.andThen_ok]
  rw [hr]
  cases r
  · simp
  · simp only [Result.andThen_ok]
    rw [p1 _ (.int .i64 h) _ rfl]
    simp only [Result.andThen_ok]
    rw [p1 _ (.int .i64 h') _ rfl]
    simp only [Result.andThen_ok]
    rw [run_equalIn_int w 9998 3 .i64 .i64 h h' Tryd.underlying3]
    cases (h == h') <;> simp

theorem guard29 : Tryd.prog.eqGuardType Tryd.prog.depth 29 = false := by kernel_rfl

set_option maxHeartbeats 1000000 in
theorem sameBut_eq (u : Option Addr) (h g : Int) (w : World)
    (heq : ∀ A B C D, (Op.equalIn 9999 27 (.pointer u) (.pointer u)).run Tryd.prog ((((w.alloc A).alloc B).alloc C).alloc D) = .ok true ((((w.alloc A).alloc B).alloc C).alloc D)) :
    Calls Tryd.prog 13 #[.agg #[.pointer u, .int .i64 h], .agg #[.pointer u, .int .i64 h], .int .i64 g] w fun e w' => e = .returned (.bool true) ∧ Below w.heap.size w w' := by
  have hg := guard29
  go_enter Tryd.func13, Tryd.ntmps13
  go_wp2_with fail
  refine bodyPost_ret (v := .bool true) (by simp [results, Tryd.results13, go_sem]) rfl ⟨rfl, ?_⟩
  exact ((((Below.refl _ _).alloc (Nat.le_refl _) _).alloc (by simp) _).alloc (by simp; omega) _).alloc (by simp; omega) _

/-- Behind one loop over the iterator whose two boxes were laid at W's end. -/
theorem after_facts {w W W' : World} (hb : Below w.heap.size w W) {o1 o2 : Obj} (hA : After (W.heap.size + 1) W.heap.size ((W.alloc o1).alloc o2) W') :
    Below w.heap.size w W' ∧ (∀ k, k < W.heap.size → W'.heap[k]? = W.heap[k]?) ∧ W'.heap[W.heap.size + 1 + 1]? = some (.deferred (some [])) ∧ W.heap.size + 2 < W'.heap.size := by
  have hs := hb.size
  have hz := hA.size
  simp at hz
  have hk : ∀ k, k < W.heap.size → W'.heap[k]? = W.heap[k]? := fun k hk => by
    rw [hA.block k (by simp; omega) (by omega) (by omega), Below.heap_alloc _ _ _ (by simp; omega), Below.heap_alloc _ _ _ hk]
  refine ⟨⟨hA.os.trans hb.os, hA.tape.trans hb.tape, hA.output.trans hb.output, by omega, fun k h => (hk k (by omega)).trans (hb.block k h)⟩, hk, ?_, by omega⟩
  have := hA.none
  simp only [World.size_alloc] at this
  exact this

/-- The first world of the loop: four boxes and the pair's. -/
theorem five {w W : World} {A B C : Obj} {x : Value} {E : Obj} (hW : (((((w.alloc A).alloc B).alloc C).alloc (.cells #[x] 4)).alloc E) = W) :
    Below w.heap.size w W ∧ W.heap.size = w.heap.size + 5 ∧ W.cell? ⟨w.heap.size + 1 + 1 + 1, 0, none⟩ = some x ∧ W.frozen? ⟨w.heap.size + 1 + 1 + 1, 0, none⟩ = false := by
  have h3 : (((w.alloc A).alloc B).alloc C).heap.size = w.heap.size + 1 + 1 + 1 := by simp
  have b5 : Below ((((w.alloc A).alloc B).alloc C).alloc (.cells #[x] 4)).heap.size ((((w.alloc A).alloc B).alloc C).alloc (.cells #[x] 4)) W := by
    rw [← hW]; exact (Below.refl _ _).alloc (Nat.le_refl _) _
  refine ⟨below_new (below_new (below_new (below_new b5))), by rw [← hW]; simp, ?_, ?_⟩
  · exact below_cell b5 (cell_new_at h3)
  · rw [b5.frozen (by simp), ← h3]; exact World.frozen?_alloc_new _ _ _ _

theorem cell_blocks {W W' : World} (h : ∀ k, k < W.heap.size → W'.heap[k]? = W.heap[k]?) {b o : Nat} {x : Value} (hc : W.cell? ⟨b, o, none⟩ = some x) : W'.cell? ⟨b, o, none⟩ = some x := by
  have hl := cell_lt hc
  rw [World.cell?_of_block (w := W) (h b hl)]; exact hc

theorem frozen_blocks {W W' : World} (h : ∀ k, k < W.heap.size → W'.heap[k]? = W.heap[k]?) {b o : Nat} {x : Value} (hc : W.cell? ⟨b, o, none⟩ = some x) (hf : W.frozen? ⟨b, o, none⟩ = false) : W'.frozen? ⟨b, o, none⟩ = false := by
  have hl := cell_lt hc
  rw [World.frozen?_of_block (w := W) (h b hl)]; exact hf

theorem below_put {w W : World} (h : Below w.heap.size w W) {b : Nat} (hb : w.heap.size ≤ b) (o : Obj) : Below w.heap.size w (W.putObj b o) :=
  ⟨h.os, h.tape, h.output, by rw [World.putObj_size]; exact h.size, fun k hk => by rw [World.putObj_heap_other (by omega)]; exact h.block k hk⟩

set_option maxHeartbeats 1000000 in
theorem sameBut_ne (n i j : Nat) (t : T n) (u v : Option Addr) (lo lo' : Nat) (g : Int) (w : World) (hu : Rep w true lo (n + i) u (upn i n t)) (hv : Rep w true lo' (n + j) v (upn j n t)) (hn : n ≤ 65536) (hi : i ≤ 2) (hj : j ≤ 2)
    (h h' : Int) (hh : h = (n : Int) + i) (hh' : h' = (n : Int) + j) (r : Bool)
    (heq : ∀ A B C D, (Op.equalIn 9999 27 (.pointer u) (.pointer v)).run Tryd.prog ((((w.alloc A).alloc B).alloc C).alloc D) = .ok r ((((w.alloc A).alloc B).alloc C).alloc D))
    (hr : r = false ∨ (h == h') = false) :
    Calls Tryd.prog 13 #[.agg #[.pointer u, .int .i64 h], .agg #[.pointer v, .int .i64 h'], .int .i64 g] w fun e w' => e = .returned (.bool true) ∧ Below w.heap.size w w' := by
  have hg := guard29
  have HU : Hid _ := hu
  have HV : Hid _ := hv
  have HH : Hid _ := hh
  have HH' : Hid _ := hh'
  clear hu hv hh hh'
  have x0 : ∀ (a b c d e f g h : Value) (w : World), (Instr.index 50 (.agg #[a, b, c, d, e, f, g, h]) (.int .i64 0)).run Tryd.prog w = .ok (.agg #[a, b, c, d]) w := fun _ _ _ _ _ _ _ _ _ => by kernel_rfl
  have x1 : ∀ (a b c d e f g h : Value) (w : World), (Instr.index 50 (.agg #[a, b, c, d, e, f, g, h]) (.int .i64 1)).run Tryd.prog w = .ok (.agg #[e, f, g, h]) w := fun _ _ _ _ _ _ _ _ _ => by kernel_rfl
  refine (callsIn_wide (n := 9)).1 ?_
  refine callsIn_of_wp_marks Tryd.func13 rfl trivial ?_ rfl
  simp only [Tryd.ntmps13, List.size_toArray, List.length_cons, List.length_nil, Nat.reduceAdd, Nat.reduceSub, Array.replicate_succ, Array.replicate_zero, List.push_toArray, List.append_toArray, List.nil_append, List.cons_append]
  rcases hr with rfl | hr
  all_goals
    gi_wp2
    refine wpIn_loop_rounds 3 ?_
    rw [roundsIn_succ]
    gi_wp2_with fail
    obtain ⟨W, hW⟩ : ∃ W, (((((w.alloc (.cells #[.pointer u, .int .i64 h] 29)).alloc (.cells #[.pointer v, .int .i64 h'] 29)).alloc (.cells #[.int .i64 g] 3)).alloc (.cells #[.bool false] 4)).alloc (.cells #[.pointer u, .int .i64 h, .pointer v, .int .i64 h'] 49)) = W := ⟨_, rfl⟩
    rw [hW]
    obtain ⟨hbW, hsW, hcW, hfW⟩ := five hW
    have HB : Hid _ := hbW
    have hs5 : w.heap.size + 5 ≤ W.heap.size := by omega
    clear hW hbW heq hsW
    refine ⟨trivial, (callsIn_wide.2 (later_fn u v h h' W)).mono ?_⟩
    rintro e w' ⟨rfl, rfl⟩
    gi_wp2_with fail
    refine range_none (W.heap.size + 1) W.heap.size (by simp) (by simp; omega) #[.pointer (some ⟨W.heap.size + 1, 0, none⟩), .pointer (some ⟨W.heap.size, 0, none⟩)] rfl
      (fun r y => iter_any y (W.heap.size + 1) W.heap.size (by omega) n j i t v u _ (st_start HB.out HV.out HU.out r HH'.out HH.out rfl) hn hj hi) ?_
    intro W' hA
    obtain ⟨a1, a2, a3, a4⟩ := after_facts HB.out hA
    have HB1 : Hid _ := a1
    have c1 := cell_blocks a2 hcW
    have f1 := frozen_blocks a2 hcW hfW
    have HD1 : Hid (W'.heap[W.heap.size + 1 + 1]? = some (.deferred (some []))) := a3
    have hs1 : w.heap.size + 7 < W'.heap.size := by omega
    clear hA a1 a2 a3 HB hcW hfW
    simp only [World.size_alloc]
    gi_wp2_with fail
    rw [roundsIn_succ]
    gi_wp2_with fail
    obtain ⟨V, hV⟩ : ∃ V, W'.alloc (.cells #[.pointer v, .int .i64 h', .pointer u, .int .i64 h] 49) = V := ⟨_, rfl⟩
    rw [hV]
    have bV : Below W'.heap.size W' V := by rw [← hV]; exact (Below.refl _ _).alloc (Nat.le_refl _) _
    have HBV : Hid (Below w.heap.size w V) := HB1.out.trans (bV.mono HB1.out.size)
    have c2 := below_cell bV c1
    have f2 : V.frozen? ⟨w.heap.size + 1 + 1 + 1, 0, none⟩ = false := (bV.frozen (by show w.heap.size + 1 + 1 + 1 < _; omega)).trans f1
    have HD2 : Hid (V.heap[W.heap.size + 1 + 1]? = some (.deferred (some []))) := (bV.block _ (by omega)).trans HD1.out
    have hs2 : W.heap.size + 2 < V.heap.size := by have := bV.size; omega
    clear hV c1 f1 HB1 HD1 bV a4
    refine ⟨trivial, (callsIn_wide.2 (later_fn v u h' h V)).mono ?_⟩
    rintro e w' ⟨rfl, rfl⟩
    gi_wp2_with fail
    refine range_none (V.heap.size + 1) V.heap.size (by simp) (by simp; omega) #[.pointer (some ⟨V.heap.size + 1, 0, none⟩), .pointer (some ⟨V.heap.size, 0, none⟩)] rfl
      (fun r y => iter_any y (V.heap.size + 1) V.heap.size (by omega) n i j t u v _ (st_start HBV.out HU.out HV.out r HH.out HH'.out rfl) hn hi hj) ?_
    intro V' hA
    obtain ⟨a1, a2, a3, a4⟩ := after_facts HBV.out hA
    have c3 := cell_blocks a2 c2
    have f3 := frozen_blocks a2 c2 f2
    have HB3 : Hid _ := a1
    have E1 : Hid (V'.heap[W.heap.size + 1 + 1]? = some (.deferred (some []))) := (a2 _ (by omega)).trans HD2.out
    have E2 : Hid (V'.heap[V.heap.size + 1 + 1]? = some (.deferred (some []))) := a3
    clear hA a1 a2 a3 c2 f2 HBV HD2
    simp only [World.size_alloc]
    gi_wp2_with fail
    rw [roundsIn_succ]
    gi_wp2_with fail
    have g2 : (V'.setCell ⟨w.heap.size + 1 + 1 + 1, 0, none⟩ (.bool true)).heap[V.heap.size + 1 + 1]? = some (.deferred (some [])) := (Below.heap_setCell _ _ _ _ (by show _ ≠ w.heap.size + 1 + 1 + 1; omega)).trans E2.out
    have g1 : ((V'.setCell ⟨w.heap.size + 1 + 1 + 1, 0, none⟩ (.bool true)).putObj (V.heap.size + 1 + 1) (.deferred none)).heap[W.heap.size + 1 + 1]? = some (.deferred (some [])) := by
      rw [World.putObj_heap_other (by omega)]
      exact (Below.heap_setCell _ _ _ _ (by show _ ≠ w.heap.size + 1 + 1 + 1; omega)).trans E1.out
    refine ⟨by simp, .inl ⟨_, _, rfl, run_takeDeferred g2, ⟨by simp, .inl ⟨_, _, rfl, run_takeDeferred g1, ?_⟩⟩⟩⟩
    have hc : (((V'.setCell ⟨w.heap.size + 1 + 1 + 1, 0, none⟩ (.bool true)).putObj (V.heap.size + 1 + 1) (.deferred none)).putObj (W.heap.size + 1 + 1) (.deferred none)).cell? ⟨w.heap.size + 1 + 1 + 1, 0, none⟩ = some (.bool true) := by
      rw [World.cell?_of_block (w := (V'.setCell ⟨w.heap.size + 1 + 1 + 1, 0, none⟩ (.bool true)).putObj (V.heap.size + 1 + 1) (.deferred none)) (World.putObj_heap_other (by show w.heap.size + 1 + 1 + 1 ≠ _; omega)),
        World.cell?_of_block (w := V'.setCell ⟨w.heap.size + 1 + 1 + 1, 0, none⟩ (.bool true)) (World.putObj_heap_other (by show w.heap.size + 1 + 1 + 1 ≠ _; omega))]
      exact World.cell?_setCell_same _ _ _ c3
    refine ⟨.bool true, ?_, rfl, ?_⟩
    · simp [results, Tryd.results13, go_sem, hc]
    · exact below_put (below_put (HB3.out.setCell (by show _ ≤ w.heap.size + 1 + 1 + 1; omega) _) (by omega) _) (by omega) _

/-- SameBut over two lifts of one trie. -/
theorem sameBut_any (n i j : Nat) (t : T n) (u v : Option Addr) (lo lo' : Nat) (g : Int) (w : World) (hu : Rep w true lo (n + i) u (upn i n t)) (hv : Rep w true lo' (n + j) v (upn j n t)) (hn : n ≤ 65536) (hi : i ≤ 2) (hj : j ≤ 2)
    (h h' : Int) (hh : h = (n : Int) + i) (hh' : h' = (n : Int) + j) :
    Calls Tryd.prog 13 #[.agg #[.pointer u, .int .i64 h], .agg #[.pointer v, .int .i64 h'], .int .i64 g] w fun e w' => e = .returned (.bool true) ∧ Below w.heap.size w w' := by
  have heq : ∀ A B C D, (Op.equalIn 9999 27 (.pointer u) (.pointer v)).run Tryd.prog ((((w.alloc A).alloc B).alloc C).alloc D) = .ok (decide (u = v)) ((((w.alloc A).alloc B).alloc C).alloc D) := fun A B C D => by
    have hb : Below w.heap.size w ((((w.alloc A).alloc B).alloc C).alloc D) := ((((Below.refl _ _).alloc (Nat.le_refl _) _).alloc (by simp) _).alloc (by simp; omega) _).alloc (by simp; omega) _
    exact ptr_eq 9998 _ (Rep.below hb hu) (Rep.below hb hv)
  by_cases e : u = v ∧ h = h'
  · obtain ⟨rfl, rfl⟩ := e
    exact sameBut_eq u h g w (by simpa using heq)
  · refine sameBut_ne n i j t u v lo lo' g w hu hv hn hi hj h h' hh hh' _ heq ?_
    by_cases e1 : u = v
    · exact Or.inr (beq_eq_false_iff_ne.2 (fun e2 => e ⟨e1, e2⟩))
    · exact Or.inl (decide_eq_false e1)

end Go.Proofs.Qxb6603532aDoor.SameBut
