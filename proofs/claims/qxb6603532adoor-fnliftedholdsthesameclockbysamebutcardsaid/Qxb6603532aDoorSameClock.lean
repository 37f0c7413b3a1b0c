import Derived.Test.Qxb6603532aDoorSameBut
namespace Go.Proofs.Qxb6603532aDoor.SameClock
open Go.RowKit Go.Proofs.Qxb6603532aDoor.Trie Go.Proofs.Qxb6603532aDoor.SameBut
set_option linter.unusedVariables false

theorem two_boxes {w A w1 : World} {a b c d : Value} (hA : (w.alloc (.cells #[a, b] 29)).alloc (.cells #[c, d] 29) = A) (hb : Below A.heap.size A w1) :
    w1.cell? ⟨w.heap.size, 0, none⟩ = some a ∧ w1.cell? ⟨w.heap.size, 1, none⟩ = some b ∧ w1.cell? ⟨w.heap.size + 1, 0, none⟩ = some c ∧ w1.cell? ⟨w.heap.size + 1, 1, none⟩ = some d := by
  subst hA
  obtain ⟨q0, q1, _, _⟩ := new_two hb
  obtain ⟨p0, p1, _, _⟩ := new_two (below_new hb)
  simp only [World.size_alloc] at q0 q1
  exact ⟨p0, p1, q0, q1⟩

set_option maxHeartbeats 1000000 in
/-- zzSameClock: both ways round, at two exempt ids. -/
theorem sameClock_any (n i j : Nat) (t : T n) (u v : Option Addr) (lo lo' : Nat) (w : World) (hu : Rep w true lo (n + i) u (upn i n t)) (hv : Rep w true lo' (n + j) v (upn j n t)) (hn : n ≤ 65536) (hi : i ≤ 2) (hj : j ≤ 2)
    (h h' : Int) (hh : h = (n : Int) + i) (hh' : h' = (n : Int) + j) :
    Calls Tryd.prog 10 #[.agg #[.pointer u, .int .i64 h], .agg #[.pointer v, .int .i64 h']] w fun e w' => e = .returned (.bool true) ∧ Below w.heap.size w w' := by
  have HU : Hid _ := hu
  have HV : Hid _ := hv
  have HH : Hid _ := hh
  have HH' : Hid _ := hh'
  clear hu hv hh hh'
  go_enter Tryd.func10, Tryd.ntmps10
  go_wp2_with fail
  obtain ⟨A, hA⟩ : ∃ A, (w.alloc (.cells #[.pointer u, .int .i64 h] 29)).alloc (.cells #[.pointer v, .int .i64 h'] 29) = A := ⟨_, rfl⟩
  rw [hA]
  have hwA : Hid (Below w.heap.size w A) := by show Below _ _ _; rw [← hA]; exact ((Below.refl _ _).alloc (Nat.le_refl _) _).alloc (by simp) _
  have HA : Hid _ := hA
  clear hA
  refine (sameBut_any n i j t u v lo lo' (-1) A (Rep.below hwA.out HU.out) (Rep.below hwA.out HV.out) hn hi hj h h' HH.out HH'.out).mono ?_
  rintro e w1 ⟨rfl, hb1⟩
  have B1 : Hid (Below A.heap.size A w1) := hb1
  obtain ⟨p0, p1, p2, p3⟩ := two_boxes HA.out hb1
  clear hb1
  go_wp2_with fail
  refine (sameBut_any n i j t u v lo lo' 0 w1 (Rep.below B1.out (Rep.below hwA.out HU.out)) (Rep.below B1.out (Rep.below hwA.out HV.out)) hn hi hj h h' HH.out HH'.out).mono ?_
  rintro e w2 ⟨rfl, hb2⟩
  have B2 : Hid (Below A.heap.size A w2) := B1.out.trans (hb2.mono B1.out.size)
  clear p0 p1 p2 p3 B1
  obtain ⟨p0, p1, p2, p3⟩ := two_boxes HA.out B2.out
  clear hb2
  go_wp2_with fail
  refine (sameBut_any n j i t v u lo' lo (-1) w2 (Rep.below B2.out (Rep.below hwA.out HV.out)) (Rep.below B2.out (Rep.below hwA.out HU.out)) hn hj hi h' h HH'.out HH.out).mono ?_
  rintro e w3 ⟨rfl, hb3⟩
  have B3 : Hid (Below A.heap.size A w3) := B2.out.trans (hb3.mono B2.out.size)
  clear p0 p1 p2 p3 B2
  obtain ⟨p0, p1, p2, p3⟩ := two_boxes HA.out B3.out
  clear hb3
  go_wp2_with fail
  refine (sameBut_any n j i t v u lo' lo 0 w3 (Rep.below B3.out (Rep.below hwA.out HV.out)) (Rep.below B3.out (Rep.below hwA.out HU.out)) hn hj hi h' h HH'.out HH.out).mono ?_
  rintro e w4 ⟨rfl, hb4⟩
  have B4 : Hid (Below A.heap.size A w4) := B3.out.trans (hb4.mono B3.out.size)
  clear p0 p1 p2 p3 B3 hb4
  go_wp2_with fail
  go_ret
  exact ⟨rfl, hwA.out.trans (B4.out.mono hwA.out.size)⟩
end Go.Proofs.Qxb6603532aDoor.SameClock
