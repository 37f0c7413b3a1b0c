import Derived.Test.Qxb6603532aCount
import Derived.Test.Qxb6603532aClone
import Derived.Test.Qxb6603532aToV
import Derived.Test.Qxb6603532aClock
import Derived.Test.Qxb6603532aSame
import Derived.Test.Qxb6603532aTimes
namespace Go.Proofs.Qxb6603532a.LiftedWalk
open Go.RowKit Go.Proofs.Qxb6603532a.Trie Go.Proofs.Qxb6603532a.TimesLaw
set_option linter.unusedVariables false

theorem below_step {w a b : World} (h : Below w.heap.size w a) (hb : Below a.heap.size a b) : Below w.heap.size w b := h.trans (hb.mono h.size)

theorem below_drewN {B : Nat} {a w : World} (h : Below B a w) (m : Nat) : Below B a (w.drewN m) := ⟨h.os, h.tape, h.output, h.size, h.block⟩

theorem own_below {w w' : World} {base : Nat} {e : TypeId} {size : Nat} {v : Value} {n : Nat} {xs : List Value} (h : w.ownsRow base e size v n xs) (hb : Below w.heap.size w w') : w'.ownsRow base e size v n xs := by
  obtain ⟨h1, h2⟩ := h
  refine ⟨h1, ?_⟩
  rcases h2 with h2 | ⟨g, cap, cur, hv, hg, hh, r⟩
  · exact Or.inl h2
  · refine Or.inr ⟨g, cap, cur, hv, hg, ?_, r⟩
    rw [hb.block g (Array.getElem?_eq_some_iff.1 hh).1]; exact hh

/-- What a value looks like that owns n elements; and its cells. -/
theorem own_form {w : World} {base : Nat} {e : TypeId} {v : Value} {n : Nat} {xs : List Value} (h : w.ownsRow base e 1 v n xs) :
    ∃ ao cap, v = .slice ao n cap ∧ (0 < n → ∃ g, ao = some ⟨g, 0, none⟩ ∧ ∀ j, j < n → w.cell? ⟨g, j, none⟩ = xs[j]?) := by
  rcases h.2 with ⟨hv, hn⟩ | ⟨g, cap, cur, hv, hg, hh, r⟩
  · exact ⟨none, 0, by rw [hv, hn], fun h0 => by omega⟩
  · subst hv
    exact ⟨_, cap, rfl, fun _ => ⟨g, rfl, fun j hj => h.cellAt j (by omega)⟩⟩

theorem size_up {n : Nat} (t : T n) : T.size (n + 1) (up t) = 1 + T.size n t := by
  unfold up
  rw [T.size_node]
  simp [T.size_nil]

theorem room_up {n : Nat} (t : T n) (h : T.size n t ≤ 16384) : ([] : List Int).length + 4 * T.size (n + 1) (up t) ≤ 1000000 := by
  rw [size_up, List.length_nil]; omega

theorem room_same {n : Nat} (t : T n) (h : T.size n t ≤ 16384) : ([] : List Int).length + 4 * T.size n t ≤ 1000000 := by
  rw [List.length_nil]; omega

theorem len_small {n : Nat} (t : T n) (h : T.size n t ≤ 16384) : (ids n t 0).length ≤ 65536 := by
  have := len_le n t
  rw [len_eq]; omega

theorem two_up {w0 w : World} {vi vt : Value} {n : Nat} {t : T n} (h : Two w0 w vi vt ([] ++ ids (n + 1) (up t) 0) ([] ++ ts (n + 1) (up t))) : Two w0 w vi vt (ids n t 0) (ts n t) := by
  rw [List.nil_append, List.nil_append, ids_up, ts_up] at h
  exact h

set_option maxHeartbeats 1000000 in
theorem walk_some (n : Nat) (u : Option Addr) (t : T n) (ht : t ≠ T.nil n) (l : Int) (lo : Nat) (w : World) (hr : Rep w lo n u t) (hl1 : l ≤ n) (hl2 : n ≤ l) (hn : n ≤ 65536) :
    Calls Try.prog 5 #[.pointer u, .int .i64 l] w fun e w' => e = .returned (.bool true) ∧ Below w.heap.size w w' := by
  go_enter Try.func5, Try.ntmps5
  go_wp2_with fail
  refine (Count.count_any n u t l 16384 lo _ hr hl1 hl2 hn (by omega) (by omega)).mono ?_
  rintro e w' ⟨⟨c, rfl, hc⟩, rfl⟩
  by_cases hbig : 16384 < c
  · go_wp2_with fail
    go_ret
    exact ⟨rfl, Below.refl _ _⟩
  have hsz : Hid (T.size n t ≤ 16384) := by have := hc.2.2 (by omega); show _ ≤ _; omega
  clear hc
  go_wp2_with fail
  refine (Clone.copy_any n u t l lo _ hr hl1 hl2 (by omega)).mono ?_
  rintro e w1 ⟨⟨u1, rfl, hr1⟩, hb1⟩
  have HB1 : Hid _ := hb1
  have HR1 : Hid _ := hr1
  clear hb1 hr1 hr
  go_wp2_with fail
  refine (ToV.copy_any n u1 t l _ _ HR1.out hl1 hl2 (by omega)).mono ?_
  rintro e w2 ⟨⟨u2, rfl, hr2⟩, hb2⟩
  have HB2 : Hid _ := below_step HB1.out hb2
  have HR2 : Hid _ := hr2
  clear hb2 hr2 HB1 HR1
  go_wp2_with fail
  refine (Clock.clock_any n u2 t l _ _ HR2.out hl1 hl2 (by omega)).mono ?_
  rintro e w3 ⟨⟨u3, rfl, hr3⟩, hb3⟩
  have HB3 : Hid _ := below_step HB2.out hb3
  have HR3 : Hid _ := hr3
  have HR23 : Hid _ := Rep.below hb3 HR2.out
  have s23 := hb3.size
  clear hb3 hr3 HR2 HB2
  go_wp2_with fail
  -- the clock's variable is laid; lifted
  have HA : Hid (Below w3.heap.size w3 (w3.alloc (.cells #[.pointer u3, .int .i64 l] 32))) := (Below.refl _ _).alloc (Nat.le_refl _) _
  refine (Clock.zzLifted_any u3 l _ (by omega) (by omega)).mono ?_
  rintro e w5 ⟨⟨u5, rfl, hL⟩, hb5⟩
  have HB5 : Hid _ := below_step (below_step HB3.out HA.out) hb5
  have hup := Lift.rep hL hb5 (Rep.below HA.out HR3.out) (by simp; omega)
  have HR25 : Hid _ := Rep.below hb5 (Rep.below HA.out HR23.out)
  obtain ⟨b3, o3, hu3, _⟩ := Rep.some_of HR3.out ht
  have hup5 : Rep w5 w2.heap.size (n + 1) u5 (up t) := by
    rcases hup with h | h
    · rw [hu3] at h; cases h.1
    · exact h.2.2
  have HR5 : Hid (Rep w5 w2.heap.size (n + 1) u5 (up t)) := hup5
  clear hup hup5 hL hb5 HB3 HR3 HR23 HA hu3
  go_wp2_with fail
  refine (Clock.zzHeight_any u5 (l + 1) _).mono ?_
  rintro e w7 ⟨rfl, hb7⟩
  obtain ⟨q0, q1, q2, q3⟩ := new_two hb7
  have HB7 : Hid _ := below_step HB5.out (below_new hb7)
  have HR27 : Hid _ := Rep.below (below_new hb7) HR25.out
  have HR7 : Hid (Rep w7 w2.heap.size (n + 1) u5 (up t)) := Rep.below (n := n + 1) (below_new hb7) HR5.out
  clear hb7 HB5 HR25 HR5
  go_wp2_with fail
  refine (Clock.zzRoot_any (n + 1) u5 (up t) (l + 1) _ _ HR7.out (by omega) (by omega) (by omega)).mono ?_
  rintro e w8 ⟨⟨u8, rfl, hr8⟩, hb8⟩
  have HB8 : Hid _ := below_step HB7.out hb8
  have HR28 : Hid _ := Rep.below hb8 HR27.out
  have HR8 : Hid (Rep w8 w7.heap.size (n + 1) u8 (up t)) := hr8
  obtain ⟨b2, o2, hu2, _⟩ := Rep.some_of HR28.out ht
  subst hu2
  obtain ⟨b8, o8, U0, hu8, c0, c1, c2, c3, hk8⟩ := up_open HR8.out
  subst hu8
  have HK8 : Hid _ := hk8
  clear hr8 hb8 hk8 HB7 HR27 HR7 q0 q1 q2 q3
  go_wp2_with fail
  refine (Same.same_any n U0 (some ⟨b2, o2, none⟩) t l _ _ _ HK8.out HR28.out hl1 hl2 (by omega)).mono ?_
  rintro e w9 ⟨rfl, m9, hw9⟩
  have HB9 : Hid (Below w'.heap.size w' w9) := by show Below _ _ _; rw [hw9]; exact below_drewN HB8.out m9
  have HR29 : Hid (Rep w9 w1.heap.size n (some ⟨b2, o2, none⟩) t) := by show Rep _ _ _ _ _; rw [hw9]; exact Same.rep_drewN m9 HR28.out
  have HR9 : Hid (Rep w9 w7.heap.size (n + 1) (some ⟨b8, o8, none⟩) (up t)) := by show Rep _ _ _ _ _; rw [hw9]; exact Same.rep_drewN (n := n + 1) m9 HR8.out
  clear hw9 HB8 HR28 HR8 HK8 c0 c1 c2 c3
  go_wp2_with fail
  refine (Times.times_any n _ t l 0 _ _ _ [] [] w9 w9 HR29.out (Two.start w9) hl1 hl2 (by omega) (room_same t hsz.out) (room_same t hsz.out)).mono ?_
  rintro e w10 ⟨vi, vt, rfl, h10⟩
  simp only [List.nil_append] at h10
  have HB10 : Hid (Below w'.heap.size w' w10) := below_step (w := w') (a := w9) (b := w10) HB9.out h10.below
  have HR10 : Hid (Rep w10 w7.heap.size (n + 1) (some ⟨b8, o8, none⟩) (up t)) := Rep.below (n := n + 1) h10.below HR9.out
  have H10 : Hid _ := h10
  clear h10 HB9 HR29 HR9
  go_wp2_with fail
  refine (Times.times_any (n + 1) _ (up t) (l + 1) 0 _ _ _ [] [] w10 w10 HR10.out (Two.start w10) (by omega) (by omega) (by omega) (room_up t hsz.out) (room_up t hsz.out)).mono ?_
  rintro e w11 ⟨vi', vt', rfl, h11⟩
  have hb11 : Below w10.heap.size w10 w11 := h11.below
  have h11 : Two w10 w11 vi' vt' (ids n t 0) (ts n t) := two_up h11
  have HB11 : Hid (Below w'.heap.size w' w11) := below_step (w := w') (a := w10) (b := w11) HB10.out hb11
  have hlen := len_eq n t 0
  have hN := len_small t hsz.out
  have o1 := own_below H10.out.oi hb11
  have o2' := own_below H10.out.ot hb11
  have o3 := h11.oi
  have o4 := h11.ot
  rw [← hlen] at o2' o4
  clear h11 hb11 HB10 HR10 H10
  generalize ids n t 0 = I at *
  generalize ts n t = S at *
  obtain ⟨a1, p1, hv1, f1⟩ := own_form o1
  obtain ⟨a2, p2, hv2, f2⟩ := own_form o2'
  obtain ⟨a3, p3, hv3, f3⟩ := own_form o3
  obtain ⟨a4, p4, hv4, f4⟩ := own_form o4
  clear o1 o2' o3 o4
  subst hv1 hv2 hv3 hv4
  have HL : Hid _ := hlen
  clear hlen
  by_cases h0 : 0 < I.length
  · obtain ⟨g1, he1, d1⟩ := f1 h0
    obtain ⟨g2, he2, d2⟩ := f2 h0
    obtain ⟨g3, he3, d3⟩ := f3 h0
    obtain ⟨g4, he4, d4⟩ := f4 h0
    subst he1 he2 he3 he4
    have F1 : Hid _ := d1
    have F2 : Hid _ := d2
    have F3 : Hid _ := d3
    have F4 : Hid _ := d4
    clear f1 f2 f3 f4 d1 d2 d3 d4
    generalize hNN : I.length = N at *
    have HNN : Hid _ := hNN
    clear hNN
    go_wp2_with fail
    go_loopw [13] (fun i wr => ∃ (k m : Nat), k ≤ N ∧ i = .int .i64 k ∧ Hid (wr = w11.drewN m)) (fun i _ => N - (intOf i).toNat)
    case atStart => exact ⟨0, 0, by omega, rfl, rfl⟩
    case round =>
      obtain ⟨k, m, hk, rfl, hwr⟩ := hrel
      by_cases hlt : k < N
      · obtain ⟨x, hx⟩ : ∃ x, I[k]? = some x := ⟨I[k]'(by have := HNN.out; omega), List.getElem?_eq_getElem _⟩
        obtain ⟨y, hy⟩ : ∃ y, S[k]? = some y := ⟨S[k]'(by have := HL.out; have := HNN.out; omega), List.getElem?_eq_getElem _⟩
        have c1 : wr.cell? ⟨g1, k, none⟩ = some (.int .i64 x) := by rw [hwr.out]; exact (F1.out k hlt).trans (by simp [hx])
        have c2 : wr.cell? ⟨g2, k, none⟩ = some (.int .u64 y) := by rw [hwr.out]; exact (F2.out k hlt).trans (by simp [hy])
        have c3 : wr.cell? ⟨g3, k, none⟩ = some (.int .i64 x) := by rw [hwr.out]; exact (F3.out k hlt).trans (by simp [hx])
        have c4 : wr.cell? ⟨g4, k, none⟩ = some (.int .u64 y) := by rw [hwr.out]; exact (F4.out k hlt).trans (by simp [hy])
        have k0 : (0 : Int) ≤ (k : Int) := by omega
        have kN : (k : Int) < (N : Int) := by omega
        clear hx hy
        go_wp2_with fail
        go_quiet (fail)
        go_wp2_with fail
        go_roundw
        case rel => exact ⟨k + 1, m + _, by omega, by go_num, (by show _ = _; rw [hwr.out, World.drewN_drewN])⟩
        case measure => simp [intOf]; omega
      · go_wp2_with fail
        go_ret
        exact ⟨rfl, by rw [hwr.out]; exact below_drewN HB11.out m⟩
  · have hz : I.length = 0 := by omega
    go_wp2_with fail
    go_loopw [13] (fun i wr => i = .int .i64 0 ∧ Hid (wr = w11)) (fun i _ => 0)
    case atStart => exact ⟨rfl, rfl⟩
    case round =>
      obtain ⟨rfl, hwr⟩ := hrel
      go_wp2_with fail
      go_ret
      exact ⟨rfl, by rw [hwr.out]; exact HB11.out⟩

theorem two_nil {w0 w : World} {vi vt : Value} {n : Nat} {b : Int} (h : Two w0 w vi vt ([] ++ ids n (T.nil n) b) ([] ++ ts n (T.nil n))) : Two w0 w vi vt [] [] := by
  rw [ids_nil, ts_nil] at h
  exact h

set_option maxHeartbeats 1000000 in
theorem walk_nil (n : Nat) (l : Int) (w : World) (hl1 : l ≤ n) (hl2 : n ≤ l) (hn : n ≤ 65536) :
    Calls Try.prog 5 #[.pointer none, .int .i64 l] w fun e w' => e = .returned (.bool true) ∧ Below w.heap.size w w' := by
  go_enter Try.func5, Try.ntmps5
  go_wp2_with fail
  refine (Count.count_nil l 16384 _).mono ?_
  rintro e w' ⟨rfl, rfl⟩
  go_wp2_with fail
  refine (Clone.copy_nil l _).mono ?_
  rintro e w' ⟨rfl, rfl⟩
  go_wp2_with fail
  refine (ToV.copy_nil l _).mono ?_
  rintro e w' ⟨rfl, rfl⟩
  go_wp2_with fail
  refine (Clock.clock_any n none (T.nil n) l 0 _ (Rep.mk_nil _ _ _) hl1 hl2 (by omega)).mono ?_
  rintro e w3 ⟨⟨u3, rfl, hr3⟩, hb3⟩
  obtain rfl := Rep.none_of hr3
  have HB3 : Hid (Below w'.heap.size w' w3) := hb3
  clear hb3 hr3
  go_wp2_with fail
  refine (Clock.zzLifted_any none l _ (by omega) (by omega)).mono ?_
  rintro e w5 ⟨⟨u5, rfl, hL⟩, hb5⟩
  obtain rfl : u5 = none := by
    rcases hL with h | ⟨a, b, h, _⟩
    · exact h.2
    · cases h
  have HB5 : Hid (Below w'.heap.size w' w5) := below_step HB3.out (below_new hb5)
  clear hb5 hL HB3
  go_wp2_with fail
  refine (Clock.zzHeight_any none (l + 1) _).mono ?_
  rintro e w7 ⟨rfl, hb7⟩
  obtain ⟨q0, q1, q2, q3⟩ := new_two hb7
  have HB7 : Hid (Below w'.heap.size w' w7) := below_step HB5.out (below_new hb7)
  clear hb7 HB5
  go_wp2_with fail
  refine (Clock.zzRoot_any (n + 1) none (T.nil (n + 1)) (l + 1) 0 _ (Rep.mk_nil _ _ _) (by omega) (by omega) (by omega)).mono ?_
  rintro e w8 ⟨⟨u8, rfl, hr8⟩, hb8⟩
  obtain rfl := Rep.none_of (n := n + 1) hr8
  have HB8 : Hid (Below w'.heap.size w' w8) := below_step HB7.out hb8
  clear hr8 hb8 HB7 q0 q1 q2 q3
  go_wp2_with fail
  refine (Times.times_nil l 0 _ _ _).mono ?_
  rintro e w9 ⟨rfl, hw9⟩
  subst hw9
  go_wp2_with fail
  refine (Times.times_nil (l + 1) 0 _ _ _).mono ?_
  rintro e w10 ⟨rfl, hw10⟩
  subst hw10
  go_wp2_with fail
  go_loopw [13] (fun i wr => i = .int .i64 0 ∧ Hid (wr = w10)) (fun i _ => 0)
  case atStart => exact ⟨rfl, rfl⟩
  case round =>
    obtain ⟨rfl, hwr⟩ := hrel
    go_wp2_with fail
    go_ret
    exact ⟨rfl, by rw [hwr.out]; exact HB8.out⟩

set_option maxHeartbeats 400000 in
theorem walk_out (u : Option Addr) (l : Int) (w : World) (h : l < 0 ∨ 65536 < l) (h1 : -9223372036854775808 ≤ l) (h2 : l ≤ 9223372036854775807) :
    Calls Try.prog 5 #[.pointer u, .int .i64 l] w fun e w' => e = .returned (.bool true) ∧ Below w.heap.size w w' := by
  rcases h with h | h
  · go_enter Try.func5, Try.ntmps5
    go_wp2_with fail
    go_ret
    exact ⟨rfl, Below.refl _ _⟩
  · have hn : ¬ l < 0 := by omega
    go_enter Try.func5, Try.ntmps5
    go_wp2_with fail
    go_ret
    exact ⟨rfl, Below.refl _ _⟩
end Go.Proofs.Qxb6603532a.LiftedWalk
