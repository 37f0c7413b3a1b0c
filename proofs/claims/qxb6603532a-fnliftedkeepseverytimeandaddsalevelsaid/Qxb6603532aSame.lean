import Derived.Test.Qxb6603532aTrie
import Derived.Test.Qxb6603532aRows
import Derived.WalkLawsBesides
import Derived.Deep.QuietTactic
import Derived.BigQuiet
import Derived.Laws.StructEq
import Derived.ChangeKeysEq
namespace Go.Proofs.Qxb6603532a.Same
open Go.RowKit Go.Proofs.Qxb6603532a.Trie
set_option linter.unusedVariables false

theorem info38s : (Try.prog.info? 38).isSome = true := by kernel_rfl
theorem cells38 : Try.prog.cellsOf 38 = 1 := by kernel_rfl
theorem part38 (xs : Array Value) (i : Nat) (x : Value) (h : xs[i]? = some x) (w : World) : (part 38 xs i).run Try.prog w = .ok x w := by
  simp [part, h]
theorem step38 (d : Nat) (xs : Array Value) (i : Nat) (is : List Nat) (n : Int) (h : xs[i]? = some (.int .u64 n)) (w : World) :
    (Op.eqItems (d + 1) 38 1 xs xs (i :: is)).run Try.prog w = (Op.eqItems (d + 1) 38 1 xs xs is).run Try.prog w := by
  simp only [Op.eqItems, Sem.run_bind, Nat.mul_one]
  rw [part38 _ _ _ h]
  simp only [Result.andThen_ok]
  rw [part38 _ _ _ h]
  simp only [Result.andThen_ok]
  rw [run_equalIn_int w d 38 .u64 .u64 n n Try.underlying38]
  simp
theorem eq39 (a b c d : Int) (w : World) : (binOp .eql 39 (.agg #[.int .u64 a, .int .u64 b, .int .u64 c, .int .u64 d]) (.agg #[.int .u64 a, .int .u64 b, .int .u64 c, .int .u64 d])).run Try.prog w = .ok (.bool true) w := by
  obtain ⟨i, hi⟩ := Option.isSome_iff_exists.1 info38s
  rw [run_eql_struct, run_equalIn_array (P := Try.prog) w 9999 (t := 39) (e := 38) (n := 4) _ _ Try.underlying39 hi, cells38]
  have e : List.range 4 = [0, 1, 2, 3] := by decide
  rw [e, step38 9998 _ 0 _ a rfl, step38 9998 _ 1 _ b rfl, step38 9998 _ 2 _ c rfl, step38 9998 _ 3 _ d rfl]
  simp [Op.eqItems]

theorem guard39 : Try.prog.eqGuardType Try.prog.depth 39 = false := by kernel_rfl

set_option maxHeartbeats 400000 in
theorem same_nil (l : Int) (w : World) :
    Calls Try.prog 16 #[.pointer none, .pointer none, .int .i64 l] w fun e w' => e = .returned (.bool true) ∧ ∃ m, w' = w.drewN m := by
  go_enter Try.func16, Try.ntmps16
  go_wp2_with fail
  go_ret
  exact ⟨rfl, 0, rfl⟩

set_option maxHeartbeats 400000 in
theorem same_leaf (b o b' o' : Nat) (f : Nat → Int) (w : World) (h : Leaf w b o f) (h' : Leaf w b' o' f) :
    Calls Try.prog 16 #[.pointer (some ⟨b, o, none⟩), .pointer (some ⟨b', o', none⟩), .int .i64 0] w fun e w' => e = .returned (.bool true) ∧ ∃ m, w' = w.drewN m := by
  have h0 : w.cell? ⟨b, o + 4, none⟩ = some (.int .u64 (f 0)) := (h 0 (by omega)).1
  have h1 := (h 1 (by omega)).1
  have h2 := (h 2 (by omega)).1
  have h3 := (h 3 (by omega)).1
  have h0' : w.cell? ⟨b', o' + 4, none⟩ = some (.int .u64 (f 0)) := (h' 0 (by omega)).1
  have h1' := (h' 1 (by omega)).1
  have h2' := (h' 2 (by omega)).1
  have h3' := (h' 3 (by omega)).1
  clear h h'
  have he := eq39 (f 0) (f 1) (f 2) (f 3)
  have hg := guard39
  go_enter Try.func16, Try.ntmps16
  go_wp2_with fail
  go_quiet (fail)
  go_wp2_with fail
  go_ret
  exact ⟨rfl, _, rfl⟩

theorem rep_drewN {w : World} {lo n : Nat} {u : Option Addr} {t : T n} (m : Nat) (h : Rep w lo n u t) : Rep (w.drewN m) lo n u t :=
  Rep.carry (w := w) (w' := w.drewN m) (fun a v _ hc => hc) n u t h

set_option maxHeartbeats 1000000 in
theorem same_any (n : Nat) : ∀ (u u' : Option Addr) (t : T n) (l : Int) (lo lo' : Nat) (w : World), Rep w lo n u t → Rep w lo' n u' t → l ≤ n → n ≤ l → n ≤ 65540 →
    Calls Try.prog 16 #[.pointer u, .pointer u', .int .i64 l] w fun e w' => e = .returned (.bool true) ∧ ∃ m, w' = w.drewN m := by
  induction n with
  | zero =>
    intro u u' t l lo lo' w hr hr' hl1 hl2 hn
    rcases hr with ⟨rfl, rfl⟩ | ⟨bl, o, f, rfl, rfl, _, hl⟩
    · obtain rfl := Rep.none_of hr'
      exact same_nil _ w
    · rcases hr' with ⟨h1, _⟩ | ⟨bl', o', f', h1, rfl, _, hl'⟩
      · cases h1
      · obtain rfl : f = f' := by injection h1
        obtain rfl : l = 0 := by omega
        exact same_leaf bl o bl' o' f w hl hl'
  | succ n ih =>
    intro u u' t l lo lo' w hr hr' hl1 hl2 hn
    rcases hr with ⟨rfl, rfl⟩ | ⟨bl, o, f, U, rfl, rfl, _, hk⟩
    · obtain rfl := Rep.none_of hr'
      exact same_nil _ w
    · rcases hr' with ⟨h1, _⟩ | ⟨bl', o', f', U', h1, rfl, _, hk'⟩
      · cases h1
      · obtain rfl : f = f' := by injection h1
        have ih' : Hid _ := ih
        clear ih
        have HK : Hid _ := hk
        have HK' : Hid _ := hk'
        clear hk hk' h1
        have hle : decide (l ≤ 0) = false := by simp; omega
        go_enter Try.func16, Try.ntmps16
        go_wp2_with fail
        go_loopw [7] (fun i wr => ∃ (k m : Nat), k ≤ 4 ∧ i = .int .i64 k ∧ Hid (wr = w.drewN m)) (fun i _ => 4 - (intOf i).toNat)
        case atStart => exact ⟨0, 0, by omega, rfl, rfl⟩
        case round =>
          obtain ⟨k, m, hk4, rfl, hwr⟩ := hrel
          by_cases hlt : k < 4
          · have c1 : wr.cell? ⟨bl, o + k, none⟩ = some (.pointer (U k)) := by rw [hwr.out]; exact (HK.out k hlt).1
            have c2 : wr.cell? ⟨bl', o' + k, none⟩ = some (.pointer (U' k)) := by rw [hwr.out]; exact (HK'.out k hlt).1
            have r1 : Hid (Rep wr lo n (U k) (f k)) := by rw [hwr.out]; exact rep_drewN _ (HK.out k hlt).2
            have r2 : Hid (Rep wr lo' n (U' k) (f k)) := by rw [hwr.out]; exact rep_drewN _ (HK'.out k hlt).2
            have k0 : (0 : Int) ≤ (k : Int) := by omega
            have k4 : (k : Int) < 4 := by omega
            have hw1 : IntKind.i64.wrap (l - 1) = l - 1 := IntWalk.i64_in _ ⟨by omega, by omega⟩
            go_wp2_with fail
            go_quiet ((go_at_call 16; refine Calls.quiet_of (ih'.out (U k) (U' k) (f k) (l - 1) lo lo' _ ?_ ?_ (by omega) (by omega) (by omega)); (exact rep_drewN _ r1.out); (exact rep_drewN _ r2.out)))
            go_wp2_with fail
            go_roundw
            case rel => exact ⟨k + 1, m + _, by omega, by go_num, (by show _ = _; rw [hwr.out, World.drewN_drewN])⟩
            case measure => simp [intOf]; omega
          · go_wp2_with fail
            go_ret
            exact ⟨rfl, m, hwr.out⟩
end Go.Proofs.Qxb6603532a.Same
