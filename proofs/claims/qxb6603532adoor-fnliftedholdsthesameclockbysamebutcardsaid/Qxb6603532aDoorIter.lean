/-
  The iterator that Later hands out, called with whatever yield: over two clocks that are lifts of one trie it comes to its end and never calls yield.
-/
import Derived.Test.Qxb6603532aDoorLater
import Derived.Test.Qxb6603532aDoorClock
import Derived.Deep.LoopGhost
namespace Go.Proofs.Qxb6603532aDoor.Iter
open Go.RowKit Go.Proofs.Qxb6603532aDoor.Trie
set_option linter.unusedVariables false

/-- A clock's variable: two cells that may be written. -/
structure Box (w : World) (b : Nat) (u : Option Addr) (h : Int) : Prop where
  c0 : w.cell? ⟨b, 0, none⟩ = some (.pointer u)
  c1 : w.cell? ⟨b, 1, none⟩ = some (.int .i64 h)
  f0 : w.frozen? ⟨b, 0, none⟩ = false
  f1 : w.frozen? ⟨b, 1, none⟩ = false

theorem Box.lt {w : World} {b : Nat} {u : Option Addr} {h : Int} (x : Box w b u h) : b < w.heap.size := cell_lt x.c0

theorem Box.below {w w' : World} {b : Nat} {u : Option Addr} {h : Int} (x : Box w b u h) (hb : Below w.heap.size w w') : Box w' b u h :=
  ⟨below_cell hb x.c0, below_cell hb x.c1, (hb.frozen (p := ⟨b, 0, none⟩) x.lt).trans x.f0, (hb.frozen (p := ⟨b, 1, none⟩) x.lt).trans x.f1⟩

theorem ne_block {b b' o o' : Nat} (h : b ≠ b') : (⟨b, o, none⟩ : Addr) ≠ ⟨b', o', none⟩ := by intro e; exact h (congrArg Addr.block e)

theorem Box.far {w : World} {b b' : Nat} {u : Option Addr} {h : Int} (x : Box w b u h) (hne : b' ≠ b) (o : Nat) (y : Value) : Box (w.setCell ⟨b', o, none⟩ y) b u h :=
  ⟨cell_store_far (ne_block hne) x.c0, cell_store_far (ne_block hne) x.c1, by rw [World.frozen?_setCell]; exact x.f0, by rw [World.frozen?_setCell]; exact x.f1⟩

theorem Box.put {w : World} {b : Nat} {u u' : Option Addr} {h h' : Int} (x : Box w b u h) : Box ((w.setCell ⟨b, 0, none⟩ (.pointer u')).setCell ⟨b, 1, none⟩ (.int .i64 h')) b u' h' := by
  have e01 : (⟨b, 1, none⟩ : Addr) ≠ ⟨b, 0, none⟩ := by intro e; have := congrArg Addr.off e; simp at this
  have e10 : (⟨b, 0, none⟩ : Addr) ≠ ⟨b, 1, none⟩ := by intro e; have := congrArg Addr.off e; simp at this
  refine ⟨cell_store_far e01 (World.cell?_setCell_same _ _ _ x.c0), World.cell?_setCell_same _ _ _ (cell_store_far e10 x.c1), ?_, ?_⟩
  · rw [World.frozen?_setCell, World.frozen?_setCell]; exact x.f0
  · rw [World.frozen?_setCell, World.frozen?_setCell]; exact x.f1

/-- All old blocks but the two boxes are as they were. -/
structure Kept2 (bo bc : Nat) (w w' : World) : Prop where
  os : w'.os = w.os
  tape : w'.tape = w.tape
  output : w'.output = w.output
  size : w.heap.size ≤ w'.heap.size
  block : ∀ k, k < w.heap.size → k ≠ bo → k ≠ bc → w'.heap[k]? = w.heap[k]?

theorem Kept2.refl (bo bc : Nat) (w : World) : Kept2 bo bc w w := ⟨rfl, rfl, rfl, Nat.le_refl _, fun _ _ _ _ => rfl⟩
theorem Kept2.step {bo bc : Nat} {w a b : World} (h : Kept2 bo bc w a) (hb : Below a.heap.size a b) : Kept2 bo bc w b :=
  ⟨hb.os.trans h.os, hb.tape.trans h.tape, hb.output.trans h.output, Nat.le_trans h.size hb.size, fun k hk h1 h2 => (hb.block k (Nat.lt_of_lt_of_le hk h.size)).trans (h.block k hk h1 h2)⟩
theorem Kept2.storeO {bo bc : Nat} {w a : World} (h : Kept2 bo bc w a) (o : Nat) (y : Value) : Kept2 bo bc w (a.setCell ⟨bo, o, none⟩ y) :=
  ⟨h.os, h.tape, h.output, by have := h.size; simp [World.setCell]; exact this, fun k hk h1 h2 => (Below.heap_setCell _ _ _ _ h1).trans (h.block k hk h1 h2)⟩
theorem Kept2.storeC {bo bc : Nat} {w a : World} (h : Kept2 bo bc w a) (o : Nat) (y : Value) : Kept2 bo bc w (a.setCell ⟨bc, o, none⟩ y) :=
  ⟨h.os, h.tape, h.output, by have := h.size; simp [World.setCell]; exact this, fun k hk h1 h2 => (Below.heap_setCell _ _ _ _ h2).trans (h.block k hk h1 h2)⟩

theorem Kept2.drewN {bo bc : Nat} {w a : World} (h : Kept2 bo bc w a) (m : Nat) : Kept2 bo bc w (a.drewN m) := ⟨h.os, h.tape, h.output, h.size, h.block⟩

/-- Where the iterator stands: old has been lifted to n + i, c to n + j. -/
structure St (w0 : World) (bo bc n : Nat) (t : T n) (i j : Nat) (u v : Option Addr) (w : World) : Prop where
  so : Box w bo u ((n : Int) + i)
  sc : Box w bc v ((n : Int) + j)
  ro : RepB w true (fun x => x ≠ bo ∧ x ≠ bc) (n + i) u (upn i n t)
  rc : RepB w true (fun x => x ≠ bo ∧ x ≠ bc) (n + j) v (upn j n t)
  kept : Kept2 bo bc w0 w

theorem St.liftO {w0 w w1 : World} {bo bc n i j : Nat} {t : T n} {u v u' : Option Addr} (h : St w0 bo bc n t i j u v w) (hne : bo ≠ bc) (hL : Lift w w1 u u') (hb : Below w.heap.size w w1) :
    St w0 bo bc n t (i + 1) j u' v ((w1.setCell ⟨bo, 0, none⟩ (.pointer u')).setCell ⟨bo, 1, none⟩ (.int .i64 ((n : Int) + i + 1))) := by
  have hbo := h.so.lt
  have hbc := h.sc.lt
  have e : ((n : Int) + ((i + 1 : Nat) : Int)) = (n : Int) + i + 1 := by omega
  refine ⟨by rw [e]; exact (h.so.below hb).put, ((h.sc.below hb).far hne 0 _).far hne 1 _, ?_, ?_, ((h.kept.step hb).storeO 0 _).storeO 1 _⟩
  · exact RepB.store (n := n + i + 1) (by simp) (RepB.store (n := n + i + 1) (by simp) (Lift.repB hL hb h.ro (fun b hle => ⟨by omega, by omega⟩)))
  · exact RepB.store (by simp) (RepB.store (by simp) (RepB.below hb h.rc))

theorem St.liftC {w0 w w1 : World} {bo bc n i j : Nat} {t : T n} {u v v' : Option Addr} (h : St w0 bo bc n t i j u v w) (hne : bo ≠ bc) (hL : Lift w w1 v v') (hb : Below w.heap.size w w1) :
    St w0 bo bc n t i (j + 1) u v' ((w1.setCell ⟨bc, 0, none⟩ (.pointer v')).setCell ⟨bc, 1, none⟩ (.int .i64 ((n : Int) + j + 1))) := by
  have hbo := h.so.lt
  have hbc := h.sc.lt
  have e : ((n : Int) + ((j + 1 : Nat) : Int)) = (n : Int) + j + 1 := by omega
  refine ⟨((h.so.below hb).far (Ne.symm hne) 0 _).far (Ne.symm hne) 1 _, by rw [e]; exact (h.sc.below hb).put, ?_, ?_, ((h.kept.step hb).storeC 0 _).storeC 1 _⟩
  · exact RepB.store (by simp) (RepB.store (by simp) (RepB.below hb h.ro))
  · exact RepB.store (n := n + j + 1) (by simp) (RepB.store (n := n + j + 1) (by simp) (Lift.repB hL hb h.rc (fun b hle => ⟨by omega, by omega⟩)))

set_option maxHeartbeats 1000000 in
theorem iter_any (y : Value) (bo bc : Nat) (hne : bo ≠ bc) (n a b : Nat) (t : T n) (u v : Option Addr) (w : World) (h : St w bo bc n t a b u v w) (hn : n ≤ 65536) (ha : a ≤ 2) (hb : b ≤ 2) :
    Calls Tryd.prog 15 #[y, .pointer (some ⟨bo, 0, none⟩), .pointer (some ⟨bc, 0, none⟩)] w fun e w' => (∃ r, e = .returned r) ∧ Kept2 bo bc w w' := by
  have H : Hid _ := h
  clear h
  go_enter Tryd.func15, Tryd.ntmps15
  go_wp2_with fail
  go_loopg [4] (b - a) (fun g x wr => ∃ (i : Nat) (u' : Option Addr), a ≤ i ∧ i ≤ 2 ∧ (i ≤ b ∨ i = a) ∧ b - i ≤ g ∧ Hid (St w bo bc n t i b u' v wr))
  case atStart => exact ⟨a, u, by omega, by omega, by omega, by omega, H⟩
  case round =>
    obtain ⟨i, u', hai, hi2, hib, hg, hS⟩ := hrel
    have c0 := hS.out.so.c0
    have c1 := hS.out.so.c1
    have d0 := hS.out.sc.c0
    have d1 := hS.out.sc.c1
    by_cases hlt : i < b
    · go_wp2_with (go_at_call 12; refine (Clock.lifted_any u' ((n : Int) + i) _ (by omega) (by omega)).mono ?_; rintro e w1 ⟨⟨u2, rfl, hL⟩, hb1⟩; have q0 := (hS.out.so.below hb1).c0; have q1 := (hS.out.so.below hb1).c1; have q2 := (hS.out.so.below hb1).f0; have q3 := (hS.out.so.below hb1).f1; have S1 : Hid _ := hS.out.liftO hne hL hb1; clear hL hb1)
      go_roundg (b - (i + 1))
      case rel => exact ⟨i + 1, u2, by omega, by omega, by omega, by omega, S1⟩
      case measure => omega
    · go_wp2_with fail
      clear c0 c1 d0 d1
      go_loopg [11] (i - b) (fun g x wr2 => ∃ (j : Nat) (v' : Option Addr), b ≤ j ∧ j ≤ 2 ∧ j ≤ i ∧ i - j ≤ g ∧ Hid (St w bo bc n t i j u' v' wr2))
      case atStart => exact ⟨b, v, by omega, by omega, by omega, by omega, hS⟩
      case round =>
        clear hS
        obtain ⟨j, v', hbj, hj2, hji, hg2, hS⟩ := hrel
        have c0 := hS.out.so.c0
        have c1 := hS.out.so.c1
        have d0 := hS.out.sc.c0
        have d1 := hS.out.sc.c1
        by_cases hlt2 : j < i
        · go_wp2_with (go_at_call 12; refine (Clock.lifted_any v' ((n : Int) + j) _ (by omega) (by omega)).mono ?_; rintro e w1 ⟨⟨u2, rfl, hL⟩, hb1⟩; have q0 := (hS.out.sc.below hb1).c0; have q1 := (hS.out.sc.below hb1).c1; have q2 := (hS.out.sc.below hb1).f0; have q3 := (hS.out.sc.below hb1).f1; have S1 : Hid _ := hS.out.liftC hne hL hb1; clear hL hb1)
          go_roundg (i - (j + 1))
          case rel => exact ⟨j + 1, u2, by omega, by omega, by omega, by omega, S1⟩
          case measure => omega
        · obtain rfl : j = i := by omega
          go_wp2_with fail
          refine (Later.later_any (n + j) v' u' (upn j n t) ((n : Int) + j) 0 _ _ y _ hS.out.rc hS.out.ro (by omega) (by omega) (by omega)).mono ?_
          rintro e w2 ⟨rfl, m, hw2⟩
          have hK : Hid (Kept2 bo bc w w2) := by show Kept2 _ _ _ _; rw [hw2]; exact hS.out.kept.drewN m
          clear hw2
          go_wp2_with fail
          go_end0
          exact ⟨⟨_, rfl⟩, hK.out⟩
end Go.Proofs.Qxb6603532aDoor.Iter
