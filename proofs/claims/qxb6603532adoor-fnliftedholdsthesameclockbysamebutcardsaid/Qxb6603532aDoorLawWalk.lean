import Derived.Test.Qxb6603532aDoorCount
import Derived.Test.Qxb6603532aDoorClone
import Derived.Test.Qxb6603532aDoorToV
import Derived.Test.Qxb6603532aDoorSameClock
namespace Go.Proofs.Qxb6603532aDoor.LawWalk
open Go.RowKit Go.Proofs.Qxb6603532aDoor.Trie
set_option linter.unusedVariables false

theorem below_step {w a b : World} (h : Below w.heap.size w a) (hb : Below a.heap.size a b) : Below w.heap.size w b := h.trans (hb.mono h.size)

/-- A clock's variable that is only read. -/
def Var (w : World) (b : Nat) (u : Option Addr) (h : Int) : Prop := w.cell? ⟨b, 0, none⟩ = some (.pointer u) ∧ w.cell? ⟨b, 1, none⟩ = some (.int .i64 h)

theorem Var.below {w w' : World} {b : Nat} {u : Option Addr} {h : Int} (hb : Below w.heap.size w w') (x : Var w b u h) : Var w' b u h := ⟨below_cell hb x.1, below_cell hb x.2⟩
theorem Var.new (w : World) (u : Option Addr) (h : Int) (ty : TypeId) : Var (w.alloc (.cells #[.pointer u, .int .i64 h] ty)) w.heap.size u h :=
  ⟨cell_new_at rfl, cell_new_at rfl⟩

/-- The law's five clocks. -/
def Five (w : World) (b1 b2 b3 b4 b5 : Nat) (c l1 l2 m1 m2 : Option Addr) (l : Int) : Prop :=
  Var w b1 c l ∧ Var w b2 l1 (l + 1) ∧ Var w b3 l2 (l + 2) ∧ Var w b4 m1 (l + 1) ∧ Var w b5 m2 (l + 2)

theorem Five.below {w w' : World} {b1 b2 b3 b4 b5 : Nat} {c l1 l2 m1 m2 : Option Addr} {l : Int} (hb : Below w.heap.size w w') (h : Five w b1 b2 b3 b4 b5 c l1 l2 m1 m2 l) : Five w' b1 b2 b3 b4 b5 c l1 l2 m1 m2 l :=
  ⟨Var.below hb h.1, Var.below hb h.2.1, Var.below hb h.2.2.1, Var.below hb h.2.2.2.1, Var.below hb h.2.2.2.2⟩

/-- The two nodes that the law hangs over the old trie by hand. -/
theorem hung {A X : World} {n lo : Nat} {a : Addr} {t : T n} {c4 c5 c6 c7 : Value} {ty : TypeId} {b : Nat} (hr : Rep A true lo n (some a) t) (hlo : lo ≤ A.heap.size) (hb : A.heap.size = b)
    (hX : (A.alloc (.cells #[.pointer (some a), .pointer none, .pointer none, .pointer none, c4, c5, c6, c7] ty)).alloc (.cells #[.pointer (some ⟨b, 0, none⟩), .pointer none, .pointer none, .pointer none, c4, c5, c6, c7] ty) = X) :
    Below A.heap.size A X ∧ Rep X true lo (n + 1) (some ⟨b, 0, none⟩) (upz t) ∧ Rep X true lo (n + 2) (some ⟨b + 1, 0, none⟩) (upz (upz t)) := by
  subst hX
  have b1 : Below A.heap.size A (A.alloc (.cells #[.pointer (some a), .pointer none, .pointer none, .pointer none, c4, c5, c6, c7] ty)) := (Below.refl _ _).alloc (Nat.le_refl _) _
  have r1 : Rep (A.alloc (.cells #[.pointer (some a), .pointer none, .pointer none, .pointer none, c4, c5, c6, c7] ty)) true lo (n + 1) (some ⟨b, 0, none⟩) (upz t) := by
    rw [upz_some hr]
    exact up_new hr b1 (by omega) (Trie.Clean.new _ _ _ hb) (cell_new_at hb) (cell_new_at hb) (cell_new_at hb) (cell_new_at hb)
  have hb' : (A.alloc (.cells #[.pointer (some a), .pointer none, .pointer none, .pointer none, c4, c5, c6, c7] ty)).heap.size = b + 1 := by simp [hb]
  have b2 := (Below.refl (A.alloc (.cells #[.pointer (some a), .pointer none, .pointer none, .pointer none, c4, c5, c6, c7] ty)).heap.size (A.alloc (.cells #[.pointer (some a), .pointer none, .pointer none, .pointer none, c4, c5, c6, c7] ty))).alloc (Nat.le_refl _) (.cells #[.pointer (some ⟨b, 0, none⟩), .pointer none, .pointer none, .pointer none, c4, c5, c6, c7] ty)
  refine ⟨below_step b1 b2, Rep.below (n := n + 1) b2 r1, ?_⟩
  rw [upz_some (n := n + 1) r1]
  exact up_new (n := n + 1) r1 b2 (by omega) (Trie.Clean.new _ _ _ hb') (cell_new_at hb') (cell_new_at hb') (cell_new_at hb') (cell_new_at hb')

set_option maxHeartbeats 1000000 in
theorem walk_some (n : Nat) (u : Option Addr) (t : T n) (ht : t ≠ T.nil n) (l : Int) (lo : Nat) (w : World) (hr : Rep w false lo n u t) (hl1 : l ≤ n) (hl2 : n ≤ l) (hn : n ≤ 65536) :
    Calls Tryd.prog 3 #[.pointer u, .int .i64 l] w fun e w' => e = .returned (.bool true) ∧ Below w.heap.size w w' := by
  go_enter Tryd.func3, Tryd.ntmps3
  go_wp2_with fail
  refine (Count.count_any n u t l 16384 _ lo _ hr hl1 hl2 hn (by omega) (by omega)).mono ?_
  rintro e w' ⟨⟨c, rfl, hc⟩, rfl⟩
  by_cases hbig : 16384 < c
  · go_wp2_with fail
    go_ret
    exact ⟨rfl, Below.refl _ _⟩
  clear hc
  go_wp2_with fail
  refine (Clone.copy_any n u t l _ lo _ hr hl1 hl2 (by omega)).mono ?_
  rintro e w1 ⟨⟨u1, rfl, hr1⟩, hb1⟩
  have HB1 : Hid (Below w'.heap.size w' w1) := hb1
  have HR1 : Hid (Rep w1 true w'.heap.size n u1 t) := hr1
  clear hb1 hr1 hr
  go_wp2_with fail
  refine (ToV.copy_any n u1 t l _ _ _ HR1.out hl1 hl2 (by omega)).mono ?_
  rintro e w2 ⟨⟨u2, rfl, hr2⟩, hb2⟩
  have HB2 : Hid (Below w'.heap.size w' w2) := below_step HB1.out hb2
  have HR2 : Hid (Rep w2 true w1.heap.size n u2 t) := hr2
  clear hb2 hr2 HB1 HR1
  go_wp2_with fail
  refine (Clock.clock_any n u2 t l _ _ _ HR2.out hl1 hl2 (by omega)).mono ?_
  rintro e w3 ⟨⟨u3, rfl, hr3⟩, hb3⟩
  obtain ⟨A3, hA3⟩ : ∃ A3, w3.alloc (.cells #[.pointer u3, .int .i64 l] 29) = A3 := ⟨_, rfl⟩
  have bA3 : Below w3.heap.size w3 A3 := by rw [← hA3]; exact (Below.refl _ _).alloc (Nat.le_refl _) _
  have HB3 : Hid (Below w'.heap.size w' A3) := below_step (below_step HB2.out hb3) bA3
  have HR3 : Hid (Rep A3 true w2.heap.size n u3 t) := Rep.below bA3 hr3
  have HR23 : Hid (Rep A3 true w1.heap.size n u2 t) := Rep.below bA3 (Rep.below hb3 HR2.out)
  have HV6 : Hid (Var A3 w3.heap.size u3 l) := by show Var _ _ _ _; rw [← hA3]; exact Var.new _ _ _ _
  have s3 : w2.heap.size ≤ A3.heap.size := by have := hb3.size; have := bA3.size; omega
  have s3' : w1.heap.size ≤ A3.heap.size := by
    obtain ⟨_, _, _, h1, h2⟩ := Rep.some_of HR2.out ht
    omega
  have HA3 : Hid _ := hA3
  clear hb3 hr3 HR2 HB2 bA3 hA3
  go_wp2_with fail
  rw [HA3.out]
  refine (Clock.zzLifted_any u3 l A3 (by omega) (by omega)).mono ?_
  rintro e w5 ⟨⟨u5, rfl, hL⟩, hb5⟩
  obtain ⟨A5, hA5⟩ : ∃ A5, w5.alloc (.cells #[.pointer u5, .int .i64 (l + 1)] 29) = A5 := ⟨_, rfl⟩
  have bA5 : Below w5.heap.size w5 A5 := by rw [← hA5]; exact (Below.refl _ _).alloc (Nat.le_refl _) _
  have b35 : Below A3.heap.size A3 A5 := below_step hb5 bA5
  have HB5 : Hid (Below w'.heap.size w' A5) := below_step HB3.out b35
  have HR5 : Hid (Rep A5 true w2.heap.size (n + 1) u5 (upz t)) := Rep.below (n := n + 1) bA5 (Lift.rep hL hb5 HR3.out s3)
  have HR35 : Hid (Rep A5 true w2.heap.size n u3 t) := Rep.below b35 HR3.out
  have HR25 : Hid (Rep A5 true w1.heap.size n u2 t) := Rep.below b35 HR23.out
  have HV6' : Hid (Var A5 w3.heap.size u3 l) := Var.below b35 HV6.out
  have HV7 : Hid (Var A5 w5.heap.size u5 (l + 1)) := by show Var _ _ _ _; rw [← hA5]; exact Var.new _ _ _ _
  have s5 : w2.heap.size ≤ A5.heap.size := by have := b35.size; omega
  have s5' : w1.heap.size ≤ A5.heap.size := by have := b35.size; omega
  have HA5 : Hid _ := hA5
  clear hL hb5 bA5 b35 hA5 HB3 HR3 HR23 HV6 HA3
  go_wp2_with fail
  rw [HA5.out]
  refine (Clock.zzLifted_any u5 (l + 1) A5 (by omega) (by omega)).mono ?_
  rintro e w7 ⟨⟨u7, rfl, hL⟩, hb7⟩
  obtain ⟨A7, hA7⟩ : ∃ A7, w7.alloc (.cells #[.pointer u7, .int .i64 (l + 1 + 1)] 29) = A7 := ⟨_, rfl⟩
  have bA7 : Below w7.heap.size w7 A7 := by rw [← hA7]; exact (Below.refl _ _).alloc (Nat.le_refl _) _
  have b57 : Below A5.heap.size A5 A7 := below_step hb7 bA7
  have HB7 : Hid (Below w'.heap.size w' A7) := below_step HB5.out b57
  have HR7 : Hid (Rep A7 true w2.heap.size (n + 2) u7 (upz (upz t))) := Rep.below (n := n + 2) bA7 (Lift.rep (n := n + 1) hL hb7 HR5.out s5)
  have HR57 : Hid (Rep A7 true w2.heap.size (n + 1) u5 (upz t)) := Rep.below (n := n + 1) b57 HR5.out
  have HR37 : Hid (Rep A7 true w2.heap.size n u3 t) := Rep.below b57 HR35.out
  have HR27 : Hid (Rep A7 true w1.heap.size n u2 t) := Rep.below b57 HR25.out
  have HV67 : Hid (Var A7 w3.heap.size u3 l) := Var.below b57 HV6'.out
  have HV77 : Hid (Var A7 w5.heap.size u5 (l + 1)) := Var.below b57 HV7.out
  have HV8 : Hid (Var A7 w7.heap.size u7 (l + 1 + 1)) := by show Var _ _ _ _; rw [← hA7]; exact Var.new _ _ _ _
  have s7 : w1.heap.size ≤ A7.heap.size := by have := b57.size; omega
  have HA7 : Hid _ := hA7
  clear hL hb7 bA7 b57 hA7 HB5 HR5 HR35 HR25 HV6' HV7 HA5
  obtain ⟨b2, o2, hu2, _⟩ := Rep.some_of HR27.out ht
  subst hu2
  have hA7s : A7.heap.size = w7.heap.size + 1 := by rw [← HA7.out]; simp
  have HA7s : Hid _ := hA7s
  clear hA7s
  go_wp2_with fail
  rw [HA7.out]
  obtain ⟨X, hX⟩ : ∃ X, (A7.alloc (.cells #[.pointer (some ⟨b2, o2, none⟩), .pointer none, .pointer none, .pointer none, .int .u64 0, .int .u64 0, .int .u64 0, .int .u64 0] 36)).alloc (.cells #[.pointer (some ⟨w7.heap.size + 1, 0, none⟩), .pointer none, .pointer none, .pointer none, .int .u64 0, .int .u64 0, .int .u64 0, .int .u64 0] 36) = X := ⟨_, rfl⟩
  rw [hX]
  obtain ⟨bX, r1, r2⟩ := hung HR27.out s7 HA7s.out hX
  have HBX : Hid (Below w'.heap.size w' X) := below_step HB7.out bX
  have HM1 : Hid (Rep X true w1.heap.size (n + 1) (some ⟨w7.heap.size + 1, 0, none⟩) (upz t)) := r1
  have HM2 : Hid (Rep X true w1.heap.size (n + 2) (some ⟨w7.heap.size + 1 + 1, 0, none⟩) (upz (upz t))) := r2
  have HR7X : Hid (Rep X true w2.heap.size (n + 2) u7 (upz (upz t))) := Rep.below (n := n + 2) bX HR7.out
  have HR5X : Hid (Rep X true w2.heap.size (n + 1) u5 (upz t)) := Rep.below (n := n + 1) bX HR57.out
  have HR3X : Hid (Rep X true w2.heap.size n u3 t) := Rep.below bX HR37.out
  have HV6X : Hid (Var X w3.heap.size u3 l) := Var.below bX HV67.out
  have HV7X : Hid (Var X w5.heap.size u5 (l + 1)) := Var.below bX HV77.out
  have HV8X : Hid (Var X w7.heap.size u7 (l + 1 + 1)) := Var.below bX HV8.out
  clear hX bX r1 r2 HB7 HR7 HR57 HR37 HR27 HV67 HV77 HV8 HA7 HA7s
  refine (Clock.clock_any (n + 1) _ (upz t) (l + 1) _ _ X HM1.out (by omega) (by omega) (by omega)).mono ?_
  rintro e w9 ⟨⟨v1, rfl, hr9⟩, hb9⟩
  obtain ⟨A9, hA9⟩ : ∃ A9, w9.alloc (.cells #[.pointer v1, .int .i64 (l + 1)] 29) = A9 := ⟨_, rfl⟩
  have bA9 : Below w9.heap.size w9 A9 := by rw [← hA9]; exact (Below.refl _ _).alloc (Nat.le_refl _) _
  have bX9 : Below X.heap.size X A9 := below_step hb9 bA9
  have HB9 : Hid (Below w'.heap.size w' A9) := below_step HBX.out bX9
  have HN1 : Hid (Rep A9 true X.heap.size (n + 1) v1 (upz t)) := Rep.below (n := n + 1) bA9 hr9
  have HM29 : Hid (Rep A9 true w1.heap.size (n + 2) (some ⟨w7.heap.size + 1 + 1, 0, none⟩) (upz (upz t))) := Rep.below (n := n + 2) bX9 HM2.out
  have HR79 : Hid (Rep A9 true w2.heap.size (n + 2) u7 (upz (upz t))) := Rep.below (n := n + 2) bX9 HR7X.out
  have HR59 : Hid (Rep A9 true w2.heap.size (n + 1) u5 (upz t)) := Rep.below (n := n + 1) bX9 HR5X.out
  have HR39 : Hid (Rep A9 true w2.heap.size n u3 t) := Rep.below bX9 HR3X.out
  have HV69 : Hid (Var A9 w3.heap.size u3 l) := Var.below bX9 HV6X.out
  have HV79 : Hid (Var A9 w5.heap.size u5 (l + 1)) := Var.below bX9 HV7X.out
  have HV89 : Hid (Var A9 w7.heap.size u7 (l + 1 + 1)) := Var.below bX9 HV8X.out
  have HV11 : Hid (Var A9 w9.heap.size v1 (l + 1)) := by show Var _ _ _ _; rw [← hA9]; exact Var.new _ _ _ _
  have HA9 : Hid _ := hA9
  clear hr9 hb9 bA9 bX9 hA9 HBX HM1 HM2 HR7X HR5X HR3X HV6X HV7X HV8X
  go_wp2_with fail
  rw [HA9.out]
  refine (Clock.clock_any (n + 2) _ (upz (upz t)) (l + 2) _ _ A9 HM29.out (by omega) (by omega) (by omega)).mono ?_
  rintro e w11 ⟨⟨v2, rfl, hr11⟩, hb11⟩
  obtain ⟨Y, hY⟩ : ∃ Y, w11.alloc (.cells #[.pointer v2, .int .i64 (l + 2)] 29) = Y := ⟨_, rfl⟩
  have bY : Below w11.heap.size w11 Y := by rw [← hY]; exact (Below.refl _ _).alloc (Nat.le_refl _) _
  have b9Y : Below A9.heap.size A9 Y := below_step hb11 bY
  have HBY : Hid (Below w'.heap.size w' Y) := below_step HB9.out b9Y
  have HN2Y : Hid (Rep Y true A9.heap.size (n + 2) v2 (upz (upz t))) := Rep.below (n := n + 2) bY hr11
  have HN1Y : Hid (Rep Y true X.heap.size (n + 1) v1 (upz t)) := Rep.below (n := n + 1) b9Y HN1.out
  have HR7Y : Hid (Rep Y true w2.heap.size (n + 2) u7 (upz (upz t))) := Rep.below (n := n + 2) b9Y HR79.out
  have HR5Y : Hid (Rep Y true w2.heap.size (n + 1) u5 (upz t)) := Rep.below (n := n + 1) b9Y HR59.out
  have HR3Y : Hid (Rep Y true w2.heap.size n u3 t) := Rep.below b9Y HR39.out
  have HV : Hid (Five Y w3.heap.size w5.heap.size w7.heap.size w9.heap.size w11.heap.size u3 u5 u7 v1 v2 l) :=
    ⟨Var.below b9Y HV69.out, Var.below b9Y HV79.out, (by have := Var.below b9Y HV89.out; rw [show l + 1 + 1 = l + 2 from by omega] at this; exact this), Var.below b9Y HV11.out, by rw [← hY]; exact Var.new _ _ _ _⟩
  obtain ⟨d2, d3⟩ := Var.below hb11 HV79.out
  have hd : w5.heap.size < w11.heap.size := cell_lt d2
  have HY : Hid _ := hY
  clear hr11 hb11 bY b9Y hY HB9 HN1 HM29 HR79 HR59 HR39 HV69 HV79 HV89 HV11 HA9
  go_wp2_with fail
  rw [HY.out]
  clear d2 d3 hd HY
  refine (Clock.zzHeight_any u5 (l + 1) Y).mono ?_
  rintro e y1 ⟨rfl, hb1⟩
  have C1 : Hid (Below Y.heap.size Y y1) := hb1
  obtain ⟨⟨d0, d1⟩, ⟨d2, d3⟩, ⟨d4, d5⟩, ⟨d6, d7⟩, ⟨d8, d9⟩⟩ := Five.below hb1 HV.out
  clear hb1
  go_wp2_with fail
  refine (Clock.zzHeight_any u7 (l + 2) y1).mono ?_
  rintro e y2 ⟨rfl, hb1⟩
  have C2 : Hid (Below Y.heap.size Y y2) := below_step C1.out hb1
  clear d0 d1 d2 d3 d4 d5 d6 d7 d8 d9 hb1 C1
  obtain ⟨⟨d0, d1⟩, ⟨d2, d3⟩, ⟨d4, d5⟩, ⟨d6, d7⟩, ⟨d8, d9⟩⟩ := Five.below C2.out HV.out
  go_wp2_with fail
  refine (SameClock.sameClock_any n 1 1 t u5 v1 _ _ y2 (Rep.below (n := n + 1) C2.out HR5Y.out) (Rep.below (n := n + 1) C2.out HN1Y.out) hn (by omega) (by omega) (l + 1) (l + 1) (by omega) (by omega)).mono ?_
  rintro e y3 ⟨rfl, hb1⟩
  have C3 : Hid (Below Y.heap.size Y y3) := below_step C2.out hb1
  clear d0 d1 d2 d3 d4 d5 d6 d7 d8 d9 hb1 C2
  obtain ⟨⟨d0, d1⟩, ⟨d2, d3⟩, ⟨d4, d5⟩, ⟨d6, d7⟩, ⟨d8, d9⟩⟩ := Five.below C3.out HV.out
  go_wp2_with fail
  refine (SameClock.sameClock_any n 2 2 t u7 v2 _ _ y3 (Rep.below (n := n + 2) C3.out HR7Y.out) (Rep.below (n := n + 2) C3.out HN2Y.out) hn (by omega) (by omega) (l + 2) (l + 2) (by omega) (by omega)).mono ?_
  rintro e y4 ⟨rfl, hb1⟩
  have C4 : Hid (Below Y.heap.size Y y4) := below_step C3.out hb1
  clear d0 d1 d2 d3 d4 d5 d6 d7 d8 d9 hb1 C3
  obtain ⟨⟨d0, d1⟩, ⟨d2, d3⟩, ⟨d4, d5⟩, ⟨d6, d7⟩, ⟨d8, d9⟩⟩ := Five.below C4.out HV.out
  go_wp2_with fail
  refine (SameClock.sameClock_any n 1 0 t u5 u3 _ _ y4 (Rep.below (n := n + 1) C4.out HR5Y.out) (Rep.below C4.out HR3Y.out) hn (by omega) (by omega) (l + 1) l (by omega) (by omega)).mono ?_
  rintro e y5 ⟨rfl, hb1⟩
  have C5 : Hid (Below Y.heap.size Y y5) := below_step C4.out hb1
  clear d0 d1 d2 d3 d4 d5 d6 d7 d8 d9 hb1 C4
  obtain ⟨⟨d0, d1⟩, ⟨d2, d3⟩, ⟨d4, d5⟩, ⟨d6, d7⟩, ⟨d8, d9⟩⟩ := Five.below C5.out HV.out
  go_wp2_with fail
  refine (SameClock.sameClock_any n 2 0 t u7 u3 _ _ y5 (Rep.below (n := n + 2) C5.out HR7Y.out) (Rep.below C5.out HR3Y.out) hn (by omega) (by omega) (l + 2) l (by omega) (by omega)).mono ?_
  rintro e y6 ⟨rfl, hb1⟩
  have C6 : Hid (Below Y.heap.size Y y6) := below_step C5.out hb1
  clear d0 d1 d2 d3 d4 d5 d6 d7 d8 d9 hb1 C5
  obtain ⟨⟨d0, d1⟩, ⟨d2, d3⟩, ⟨d4, d5⟩, ⟨d6, d7⟩, ⟨d8, d9⟩⟩ := Five.below C6.out HV.out
  go_wp2_with fail
  refine (SameClock.sameClock_any n 2 1 t u7 u5 _ _ y6 (Rep.below (n := n + 2) C6.out HR7Y.out) (Rep.below (n := n + 1) C6.out HR5Y.out) hn (by omega) (by omega) (l + 2) (l + 1) (by omega) (by omega)).mono ?_
  rintro e y7 ⟨rfl, hb1⟩
  have C7 : Hid (Below Y.heap.size Y y7) := below_step C6.out hb1
  clear d0 d1 d2 d3 d4 d5 d6 d7 d8 d9 hb1 C6
  go_wp2_with fail
  go_ret
  exact ⟨rfl, below_step HBY.out C7.out⟩

theorem upn_nil (n i : Nat) : upn i n (T.nil n) = T.nil (n + i) := by
  induction i with
  | zero => rfl
  | succ i ih => show upz (upn i n (T.nil n)) = _; rw [ih, upz_nil]; rfl

theorem rep_nil (w : World) (n i : Nat) : Rep w true 0 (n + i) none (upn i n (T.nil n)) := by rw [upn_nil]; exact Rep.mk_nil _ _ _ _

set_option maxHeartbeats 1000000 in
theorem walk_nil (n : Nat) (l : Int) (w : World) (hl1 : l ≤ n) (hl2 : n ≤ l) (hn : n ≤ 65536) :
    Calls Tryd.prog 3 #[.pointer none, .int .i64 l] w fun e w' => e = .returned (.bool true) ∧ Below w.heap.size w w' := by
  go_enter Tryd.func3, Tryd.ntmps3
  go_wp2_with fail
  refine (Count.count_nil l 16384 _).mono ?_
  rintro e w' ⟨rfl, rfl⟩
  go_wp2_with fail
  refine (Clone.copy_nil l _).mono ?_
  rintro e w' ⟨rfl, rfl⟩
  go_wp2_with fail
  refine (ToV.copy_nil l _).mono ?_
  rintro e w' ⟨rfl, rfl⟩
  go_wp2_with fail
  refine (Clock.clock_any n none (T.nil n) l true 0 _ (Rep.mk_nil _ _ _ _) hl1 hl2 (by omega)).mono ?_
  rintro e w3 ⟨⟨u3, rfl, hr3⟩, hb3⟩
  obtain rfl := Rep.none_of hr3
  have HB3 : Hid (Below w'.heap.size w' w3) := hb3
  clear hb3 hr3
  go_wp2_with fail
  refine (Clock.zzLifted_any none l _ (by omega) (by omega)).mono ?_
  rintro e w5 ⟨⟨u5, rfl, hL⟩, hb5⟩
  obtain rfl : u5 = none := by
    rcases hL with h | ⟨a, b, h, _⟩
    · exact h.2
    · cases h
  have HB5 : Hid (Below w'.heap.size w' w5) := below_step HB3.out (below_new hb5)
  have HV6 : Hid (Var w5 w3.heap.size none l) := Var.below hb5 (Var.new _ _ _ _)
  clear hb5 hL HB3
  go_wp2_with fail
  refine (Clock.zzLifted_any none (l + 1) _ (by omega) (by omega)).mono ?_
  rintro e w7 ⟨⟨u7, rfl, hL⟩, hb7⟩
  obtain rfl : u7 = none := by
    rcases hL with h | ⟨a, b, h, _⟩
    · exact h.2
    · cases h
  have HB7 : Hid (Below w'.heap.size w' w7) := below_step HB5.out (below_new hb7)
  have HV67 : Hid (Var w7 w3.heap.size none l) := Var.below (below_new hb7) HV6.out
  have HV7 : Hid (Var w7 w5.heap.size none (l + 1)) := Var.below hb7 (Var.new _ _ _ _)
  clear hb7 hL HB5 HV6
  go_wp2_with fail
  refine (Clock.clock_any (n + 1) none (T.nil (n + 1)) (l + 1) true 0 _ (Rep.mk_nil _ _ _ _) (by omega) (by omega) (by omega)).mono ?_
  rintro e w9 ⟨⟨v1, rfl, hr9⟩, hb9⟩
  obtain rfl := Rep.none_of (n := n + 1) hr9
  have HB9 : Hid (Below w'.heap.size w' w9) := below_step HB7.out (below_new hb9)
  have HV69 : Hid (Var w9 w3.heap.size none l) := Var.below (below_new hb9) HV67.out
  have HV79 : Hid (Var w9 w5.heap.size none (l + 1)) := Var.below (below_new hb9) HV7.out
  have HV8 : Hid (Var w9 w7.heap.size none (l + 1 + 1)) := Var.below hb9 (Var.new _ _ _ _)
  clear hb9 hr9 HB7 HV67 HV7
  go_wp2_with fail
  refine (Clock.clock_any (n + 2) none (T.nil (n + 2)) (l + 2) true 0 _ (Rep.mk_nil _ _ _ _) (by omega) (by omega) (by omega)).mono ?_
  rintro e w11 ⟨⟨v2, rfl, hr11⟩, hb11⟩
  obtain rfl := Rep.none_of (n := n + 2) hr11
  obtain ⟨Y, hY⟩ : ∃ Y, w11.alloc (.cells #[.pointer none, .int .i64 (l + 2)] 29) = Y := ⟨_, rfl⟩
  have bY : Below w11.heap.size w11 Y := by rw [← hY]; exact (Below.refl _ _).alloc (Nat.le_refl _) _
  have b9Y : Below w9.heap.size w9 Y := below_step (below_new hb11) bY
  have HBY : Hid (Below w'.heap.size w' Y) := below_step HB9.out b9Y
  have HV : Hid (Five Y w3.heap.size w5.heap.size w7.heap.size w9.heap.size w11.heap.size none none none none none l) :=
    ⟨Var.below b9Y HV69.out, Var.below b9Y HV79.out, (by have := Var.below b9Y HV8.out; rw [show l + 1 + 1 = l + 2 from by omega] at this; exact this), Var.below bY (Var.below hb11 (Var.new _ _ _ _)), by rw [← hY]; exact Var.new _ _ _ _⟩
  obtain ⟨d2, d3⟩ := Var.below (below_new hb11) HV79.out
  have hd : w5.heap.size < w11.heap.size := cell_lt d2
  have HY : Hid _ := hY
  clear hr11 hb11 bY b9Y hY HB9 HV69 HV79 HV8
  go_wp2_with fail
  rw [HY.out]
  clear d2 d3 hd HY
  refine (Clock.zzHeight_any none (l + 1) Y).mono ?_
  rintro e y1 ⟨rfl, hb1⟩
  have C1 : Hid (Below Y.heap.size Y y1) := hb1
  obtain ⟨⟨d0, d1⟩, ⟨d2, d3⟩, ⟨d4, d5⟩, ⟨d6, d7⟩, ⟨d8, d9⟩⟩ := Five.below hb1 HV.out
  clear hb1
  go_wp2_with fail
  refine (Clock.zzHeight_any none (l + 2) y1).mono ?_
  rintro e y2 ⟨rfl, hb1⟩
  have C2 : Hid (Below Y.heap.size Y y2) := below_step C1.out hb1
  clear d0 d1 d2 d3 d4 d5 d6 d7 d8 d9 hb1 C1
  obtain ⟨⟨d0, d1⟩, ⟨d2, d3⟩, ⟨d4, d5⟩, ⟨d6, d7⟩, ⟨d8, d9⟩⟩ := Five.below C2.out HV.out
  go_wp2_with fail
  refine (SameClock.sameClock_any n 1 1 (T.nil n) none none 0 0 y2 (rep_nil _ n 1) (rep_nil _ n 1) hn (by omega) (by omega) (l + 1) (l + 1) (by omega) (by omega)).mono ?_
  rintro e y3 ⟨rfl, hb1⟩
  have C3 : Hid (Below Y.heap.size Y y3) := below_step C2.out hb1
  clear d0 d1 d2 d3 d4 d5 d6 d7 d8 d9 hb1 C2
  obtain ⟨⟨d0, d1⟩, ⟨d2, d3⟩, ⟨d4, d5⟩, ⟨d6, d7⟩, ⟨d8, d9⟩⟩ := Five.below C3.out HV.out
  go_wp2_with fail
  refine (SameClock.sameClock_any n 2 2 (T.nil n) none none 0 0 y3 (rep_nil _ n 2) (rep_nil _ n 2) hn (by omega) (by omega) (l + 2) (l + 2) (by omega) (by omega)).mono ?_
  rintro e y4 ⟨rfl, hb1⟩
  have C4 : Hid (Below Y.heap.size Y y4) := below_step C3.out hb1
  clear d0 d1 d2 d3 d4 d5 d6 d7 d8 d9 hb1 C3
  obtain ⟨⟨d0, d1⟩, ⟨d2, d3⟩, ⟨d4, d5⟩, ⟨d6, d7⟩, ⟨d8, d9⟩⟩ := Five.below C4.out HV.out
  go_wp2_with fail
  refine (SameClock.sameClock_any n 1 0 (T.nil n) none none 0 0 y4 (rep_nil _ n 1) (rep_nil _ n 0) hn (by omega) (by omega) (l + 1) l (by omega) (by omega)).mono ?_
  rintro e y5 ⟨rfl, hb1⟩
  have C5 : Hid (Below Y.heap.size Y y5) := below_step C4.out hb1
  clear d0 d1 d2 d3 d4 d5 d6 d7 d8 d9 hb1 C4
  obtain ⟨⟨d0, d1⟩, ⟨d2, d3⟩, ⟨d4, d5⟩, ⟨d6, d7⟩, ⟨d8, d9⟩⟩ := Five.below C5.out HV.out
  go_wp2_with fail
  refine (SameClock.sameClock_any n 2 0 (T.nil n) none none 0 0 y5 (rep_nil _ n 2) (rep_nil _ n 0) hn (by omega) (by omega) (l + 2) l (by omega) (by omega)).mono ?_
  rintro e y6 ⟨rfl, hb1⟩
  have C6 : Hid (Below Y.heap.size Y y6) := below_step C5.out hb1
  clear d0 d1 d2 d3 d4 d5 d6 d7 d8 d9 hb1 C5
  obtain ⟨⟨d0, d1⟩, ⟨d2, d3⟩, ⟨d4, d5⟩, ⟨d6, d7⟩, ⟨d8, d9⟩⟩ := Five.below C6.out HV.out
  go_wp2_with fail
  refine (SameClock.sameClock_any n 2 1 (T.nil n) none none 0 0 y6 (rep_nil _ n 2) (rep_nil _ n 1) hn (by omega) (by omega) (l + 2) (l + 1) (by omega) (by omega)).mono ?_
  rintro e y7 ⟨rfl, hb1⟩
  have C7 : Hid (Below Y.heap.size Y y7) := below_step C6.out hb1
  clear d0 d1 d2 d3 d4 d5 d6 d7 d8 d9 hb1 C6
  go_wp2_with fail
  go_ret
  exact ⟨rfl, below_step HBY.out C7.out⟩

set_option maxHeartbeats 400000 in
theorem walk_out (u : Option Addr) (l : Int) (w : World) (h : l < 0 ∨ 65536 < l) (h1 : -9223372036854775808 ≤ l) (h2 : l ≤ 9223372036854775807) :
    Calls Tryd.prog 3 #[.pointer u, .int .i64 l] w fun e w' => e = .returned (.bool true) ∧ Below w.heap.size w w' := by
  rcases h with h | h
  · go_enter Tryd.func3, Tryd.ntmps3
    go_wp2_with fail
    go_ret
    exact ⟨rfl, Below.refl _ _⟩
  · have hn : ¬ l < 0 := by omega
    go_enter Tryd.func3, Tryd.ntmps3
    go_wp2_with fail
    go_ret
    exact ⟨rfl, Below.refl _ _⟩
end Go.Proofs.Qxb6603532aDoor.LawWalk
