import Derived.Test.Qxb6603532aDoorTrie
import Derived.Test.Qxb6603532aDoorRows
import Derived.WalkLawsBesides
import Derived.Deep.RegionHeld3
namespace Go.Proofs.Qxb6603532aDoor.Clone
open Go.RowKit Go.Proofs.Qxb6603532aDoor.Trie
set_option linter.unusedVariables false

set_option maxHeartbeats 400000 in
theorem copy_nil (l : Int) (w : World) :
    Calls Tryd.prog 5 #[.pointer none, .int .i64 l] w fun e w' => e = .returned (.pointer none) ∧ w' = w := by
  go_enter Tryd.func5, Tryd.ntmps5
  go_wp2_with fail
  go_ret
  exact ⟨rfl, rfl⟩

set_option maxHeartbeats 400000 in
theorem copy_leaf (b o : Nat) (f : Nat → Int) (w : World) (h : Leaf w b o f) :
    Calls Tryd.prog 5 #[.pointer (some ⟨b, o, none⟩), .int .i64 0] w fun e w' => (∃ u, e = .returned (.pointer u) ∧ Rep w' true w.heap.size 0 u (T.leaf f)) ∧ Below w.heap.size w w' := by
  have h0 : w.cell? ⟨b, o + 4, none⟩ = some (.int .u64 (f 0)) := (h 0 (by omega)).1
  have h1 := (h 1 (by omega)).1
  have h2 := (h 2 (by omega)).1
  have h3 := (h 3 (by omega)).1
  have hbw : b < w.heap.size := cell_lt h0
  have H : Hid _ := h
  clear h
  go_enter Tryd.func5, Tryd.ntmps5
  go_wp2_with fail
  go_ret
  exact ⟨⟨_, rfl, leaf_new w f (fun i hi => (H.out i hi).2) _ _ _ _ _⟩, (Below.refl _ _).alloc (Nat.le_refl _) _⟩

set_option maxHeartbeats 1000000 in
theorem copy_any (n : Nat) : ∀ (u : Option Addr) (t : T n) (l : Int) (kb : Bool) (lo : Nat) (w : World), Rep w kb lo n u t → l ≤ n → n ≤ l → n ≤ 65540 →
    Calls Tryd.prog 5 #[.pointer u, .int .i64 l] w fun e w' => (∃ u', e = .returned (.pointer u') ∧ Rep w' true w.heap.size n u' t) ∧ Below w.heap.size w w' := by
  induction n with
  | zero =>
    intro u t l kb lo w hr hl1 hl2 hn
    rcases hr with ⟨rfl, rfl⟩ | ⟨bl, o, f, rfl, rfl, _, _, hl⟩
    · refine (copy_nil _ w).mono ?_
      rintro e w' ⟨rfl, rfl⟩
      exact ⟨⟨none, rfl, Rep.mk_nil _ _ _ _⟩, Below.refl _ _⟩
    · obtain rfl : l = 0 := by omega
      exact copy_leaf bl o f w hl
  | succ n ih =>
    intro u t l kb lo w hr hl1 hl2 hn
    rcases hr with ⟨rfl, rfl⟩ | ⟨bl, o, f, U, rfl, rfl, _, _, hk⟩
    · refine (copy_nil _ w).mono ?_
      rintro e w' ⟨rfl, rfl⟩
      exact ⟨⟨none, rfl, Rep.mk_nil _ _ _ _⟩, Below.refl _ _⟩
    · have ih' : Hid _ := ih
      clear ih
      have HK : Hid _ := hk
      clear hk
      have hle : decide (l ≤ 0) = false := by simp; omega
      have H0 : Hid _ := half_start w n f (.int .u64 0) (.int .u64 0) (.int .u64 0) (.int .u64 0) 42
      go_enter Tryd.func5, Tryd.ntmps5
      go_wp2_with fail
      go_loopw [6] (fun i wr => ∃ (k : Nat) (C : Nat → Option Addr), k ≤ 4 ∧ i = .int .i64 k ∧ Hid (Half w wr w.heap.size n k f C)) (fun i _ => 4 - (intOf i).toNat)
      case atStart => exact ⟨0, _, by omega, rfl, H0⟩
      case round =>
        obtain ⟨k, C, hk4, rfl, hH⟩ := hrel
        have hsz := hH.out.lt
        by_cases hlt : k < 4
        · have hcell0 := (HK.out k hlt).1
          have hbl : bl < w.heap.size := cell_lt hcell0
          have hcell : wr.cell? ⟨bl, o + k, none⟩ = some (.pointer (U k)) := by rw [hH.out.below.cell (by exact hbl)]; exact hcell0
          have hm := hH.out.cell k hlt
          have hf := hH.out.thaw k hlt
          have hrep : Hid (Rep wr kb lo n (U k) (f k)) := Rep.below hH.out.below (HK.out k hlt).2
          have k0 : (0 : Int) ≤ (k : Int) := by omega
          have k4 : (k : Int) < 4 := by omega
          have hw1 : IntKind.i64.wrap (l - 1) = l - 1 := IntWalk.i64_in _ ⟨by omega, by omega⟩
          have hne : (⟨w.heap.size, k, none⟩ : Addr) ≠ ⟨bl, o + k, none⟩ := by intro he; have := congrArg Addr.block he; simp at this; omega
          clear hcell0
          go_wp2_with fail
          go_region_held3 (fun w' => w'.cell? ⟨bl, o + k, none⟩ = some (.pointer (U k))) (first | go_keep | exact cell_store_far hne (by assumption))
            (first | (go_at_call 5; refine (ih'.out (U k) (f k) (l - 1) kb lo _ ?_ (by omega) (by omega) (by omega)).mono ?_; (exact Rep.drew hrep.out); rintro e w' ⟨⟨u', rfl, hr1⟩, hb1⟩; have q1 := below_cell hb1 (w := wr.drew) hcell; have q2 := below_cell hb1 (w := wr.drew) hm; have q3 := (hb1.frozen (p := ⟨w.heap.size, k, none⟩) hsz).trans hf; have HB : Hid _ := hb1; have HR : Hid _ := hr1; clear hb1 hr1))
          go_wp2_with fail
          go_roundw
          case rel => exact ⟨k + 1, _, by omega, by go_num, hH.out.draw.step hlt HB.out HR.out⟩
          case measure => simp [intOf]; omega
        · have h4 : 4 ≤ k := by omega
          go_wp2_with fail
          go_ret
          exact ⟨⟨_, rfl, hH.out.done h4⟩, hH.out.below⟩
end Go.Proofs.Qxb6603532aDoor.Clone
