import Derived.Test.Qxb6603532aDoorTrie
import Derived.Test.Qxb6603532aDoorRows
import Derived.WalkLawsBesides
import Derived.Deep.QuietTactic
import Derived.BigQuiet
import Derived.LaidEqlPtr
import Derived.Laws.Shifts
namespace Go.Proofs.Qxb6603532aDoor.Later
open Go.RowKit Go.Proofs.Qxb6603532aDoor.Trie
set_option linter.unusedVariables false

theorem info48s : ((Tryd.prog.info? 48).map (·.size)) = some 8 := by kernel_rfl

theorem eq_same (a : Addr) (w : World) : (binOp .eql 27 (.pointer (some a)) (.pointer (some a))).run Tryd.prog w = .ok (.bool true) w := by
  have h := info48s
  cases hi : Tryd.prog.info? 48 with
  | none => rw [hi] at h; cases h
  | some j => exact run_eql_ptr_same w a Tryd.underlying27 hi

theorem eq_other {w : World} {b o b' o' : Nat} (h : Trie.Clean w b) (h' : Trie.Clean w b') (hne : (⟨b, o, none⟩ : Addr) ≠ ⟨b', o', none⟩) :
    (binOp .eql 27 (.pointer (some ⟨b, o, none⟩)) (.pointer (some ⟨b', o', none⟩))).run Tryd.prog w = .ok (.bool false) w := by
  have hs := info48s
  obtain ⟨ca, ta, h⟩ := h
  obtain ⟨cb, tb, h'⟩ := h'
  cases hi : Tryd.prog.info? 48 with
  | none => rw [hi] at hs; cases hs
  | some j =>
    have hj : j.size = 8 := by rw [hi] at hs; simpa using hs
    exact run_eql_ptr_other w Tryd.underlying27 hi (by omega) hne h h'

theorem rep_drewN {w : World} {kb : Bool} {B : Nat → Prop} {n : Nat} {u : Option Addr} {t : T n} (m : Nat) (h : RepB w kb B n u t) : RepB (w.drewN m) kb B n u t :=
  RepB.carry (w := w) (w' := w.drewN m) (fun a v _ hc => hc) (fun _ hc => hc) (fun _ h _ => h) n u t h

set_option maxHeartbeats 400000 in
theorem later_nil (l base : Int) (y : Value) (w : World) :
    Calls Tryd.prog 16 #[.pointer none, .pointer none, .int .i64 l, .int .i64 base, y] w fun e w' => e = .returned (.bool true) ∧ ∃ m, w' = w.drewN m := by
  go_enter Tryd.func16, Tryd.ntmps16
  go_wp2_with fail
  go_ret
  exact ⟨rfl, 0, rfl⟩

set_option maxHeartbeats 400000 in
theorem later_same (a : Addr) (l base : Int) (y : Value) (w : World) :
    Calls Tryd.prog 16 #[.pointer (some a), .pointer (some a), .int .i64 l, .int .i64 base, y] w fun e w' => e = .returned (.bool true) ∧ ∃ m, w' = w.drewN m := by
  have he := eq_same a
  go_enter Tryd.func16, Tryd.ntmps16
  go_wp2_with fail
  go_ret
  exact ⟨rfl, 0, rfl⟩

set_option maxHeartbeats 400000 in
theorem later_leaf (b o b' o' : Nat) (f : Nat → Int) (base : Int) (y : Value) (w : World) (h : Leaf w b o f) (h' : Leaf w b' o' f)
    (he : (binOp .eql 27 (.pointer (some ⟨b, o, none⟩)) (.pointer (some ⟨b', o', none⟩))).run Tryd.prog w = .ok (.bool false) w) :
    Calls Tryd.prog 16 #[.pointer (some ⟨b, o, none⟩), .pointer (some ⟨b', o', none⟩), .int .i64 0, .int .i64 base, y] w fun e w' => e = .returned (.bool true) ∧ ∃ m, w' = w.drewN m := by
  have H : Hid _ := h
  have H' : Hid _ := h'
  clear h h'
  go_enter Tryd.func16, Tryd.ntmps16
  go_wp2_with fail
  go_loopw [22] (fun i wr => ∃ (k m : Nat), k ≤ 4 ∧ i = .int .i64 k ∧ Hid (wr = w.drewN m)) (fun i _ => 4 - (intOf i).toNat)
  case atStart => exact ⟨0, 0, by omega, rfl, rfl⟩
  case round =>
    obtain ⟨k, m, hk4, rfl, hwr⟩ := hrel
    by_cases hlt : k < 4
    · have c1 : wr.cell? ⟨b, o + 4 + k, none⟩ = some (.int .u64 (f k)) := by rw [hwr.out]; exact (H.out k hlt).1
      have c2 : wr.cell? ⟨b', o' + 4 + k, none⟩ = some (.int .u64 (f k)) := by rw [hwr.out]; exact (H'.out k hlt).1
      have k0 : (0 : Int) ≤ (k : Int) := by omega
      have k4 : (k : Int) < 4 := by omega
      go_wp2_with fail
      go_quiet (fail)
      go_wp2_with fail
      go_roundw
      case rel => exact ⟨k + 1, m + _, by omega, by go_num, (by show _ = _; rw [hwr.out, World.drewN_drewN])⟩
      case measure => simp [intOf]; omega
    · go_wp2_with fail
      go_ret
      exact ⟨rfl, m, hwr.out⟩

set_option maxHeartbeats 1000000 in
theorem later_any (n : Nat) : ∀ (u u' : Option Addr) (t : T n) (l base : Int) (B B' : Nat → Prop) (y : Value) (w : World), RepB w true B n u t → RepB w true B' n u' t → l ≤ n → n ≤ l → n ≤ 65540 →
    Calls Tryd.prog 16 #[.pointer u, .pointer u', .int .i64 l, .int .i64 base, y] w fun e w' => e = .returned (.bool true) ∧ ∃ m, w' = w.drewN m := by
  induction n with
  | zero =>
    intro u u' t l base B B' y w hr hr' hl1 hl2 hn
    rcases hr with ⟨rfl, rfl⟩ | ⟨bl, o, f, rfl, rfl, _, hc, hl⟩
    · obtain rfl := RepB.none_of hr'
      exact later_nil _ _ _ w
    · rcases hr' with ⟨h1, _⟩ | ⟨bl', o', f', h1, rfl, _, hc', hl'⟩
      · cases h1
      · obtain rfl : f = f' := by injection h1
        obtain rfl : l = 0 := by omega
        by_cases e : (⟨bl, o, none⟩ : Addr) = ⟨bl', o', none⟩
        · rw [e]; exact later_same _ _ _ _ w
        · exact later_leaf bl o bl' o' f base y w hl hl' (eq_other (hc rfl) (hc' rfl) e)
  | succ n ih =>
    intro u u' t l base B B' y w hr hr' hl1 hl2 hn
    rcases hr with ⟨rfl, rfl⟩ | ⟨bl, o, f, U, rfl, rfl, _, hc, hk⟩
    · obtain rfl := RepB.none_of hr'
      exact later_nil _ _ _ w
    · rcases hr' with ⟨h1, _⟩ | ⟨bl', o', f', U', h1, rfl, _, hc', hk'⟩
      · cases h1
      · obtain rfl : f = f' := by injection h1
        by_cases e : (⟨bl, o, none⟩ : Addr) = ⟨bl', o', none⟩
        · rw [e]; exact later_same _ _ _ _ w
        have he := eq_other (hc rfl) (hc' rfl) e
        have ih' : Hid _ := ih
        have HK : Hid _ := hk
        have HK' : Hid _ := hk'
        clear ih hk hk' h1 e hc hc'
        have hle : decide (0 < l) = true := by simp; omega
        have hsh : 0 ≤ 2 * l := by omega
        go_enter Tryd.func16, Tryd.ntmps16
        go_wp2_with fail
        go_loopw [22] (fun i wr => ∃ (k m : Nat), k ≤ 4 ∧ i = .int .i64 k ∧ Hid (wr = w.drewN m)) (fun i _ => 4 - (intOf i).toNat)
        case atStart => exact ⟨0, 0, by omega, rfl, rfl⟩
        case round =>
          obtain ⟨k, m, hk4, rfl, hwr⟩ := hrel
          by_cases hlt : k < 4
          · have c1 : wr.cell? ⟨bl, o + k, none⟩ = some (.pointer (U k)) := by rw [hwr.out]; exact (HK.out k hlt).1
            have c2 : wr.cell? ⟨bl', o' + k, none⟩ = some (.pointer (U' k)) := by rw [hwr.out]; exact (HK'.out k hlt).1
            have r1 : Hid (RepB wr true B n (U k) (f k)) := by rw [hwr.out]; exact rep_drewN _ (HK.out k hlt).2
            have r2 : Hid (RepB wr true B' n (U' k) (f k)) := by rw [hwr.out]; exact rep_drewN _ (HK'.out k hlt).2
            have k0 : (0 : Int) ≤ (k : Int) := by omega
            have k4 : (k : Int) < 4 := by omega
            have hw1 : IntKind.i64.wrap (l - 1) = l - 1 := IntWalk.i64_in _ ⟨by omega, by omega⟩
            go_wp2_with fail
            go_quiet ((go_at_call 16; refine Calls.quiet_of (ih'.out (U k) (U' k) (f k) (l - 1) _ B B' y _ ?_ ?_ (by omega) (by omega) (by omega)); (exact rep_drewN _ r1.out); (exact rep_drewN _ r2.out)))
            go_wp2_with fail
            go_roundw
            case rel => exact ⟨k + 1, m + _, by omega, by go_num, (by show _ = _; rw [hwr.out, World.drewN_drewN])⟩
            case measure => simp [intOf]; omega
          · go_wp2_with fail
            go_ret
            exact ⟨rfl, m, hwr.out⟩
end Go.Proofs.Qxb6603532aDoor.Later
