import Derived.Test.Qxb6603535aBounds
namespace Go.Proofs.Qxb6603535a.Sizes
open Go.RowKit Go.Maps Go.Proofs.Qxb6603535a.Mem Go.Proofs.Qxb6603535a.Get Go.Proofs.Qxb6603535a.Bounds
set_option linter.unusedVariables false

/-- Some number of bytes comes back; nothing has turned. -/
def SomeSize (w : World) (e : Ending) (w' : World) : Prop := ∃ y : Int, 0 ≤ y ∧ y ≤ 4194304 ∧ e = .returned (.int .i64 y) ∧ w' = w
/-- Some answer comes back; nothing has turned. -/
def SomeBool (w : World) (e : Ending) (w' : World) : Prop := ∃ b, e = .returned (.bool b) ∧ w' = w

set_option maxHeartbeats 1000000 in
theorem strsSize (w : World) (x : Int) (h0 : 0 ≤ x) (h1 : x ≤ 4194304) (p : Option Addr) (n cap : Nat) (hn : n ≤ maxLen) (S : Nat → ByteArray) (HS : Hid (Strs w p n S)) :
    Calls Try.prog 25 #[.int .i64 x, .slice p n cap] w (SomeSize w) := by
  unfold maxLen at hn
  go_enter Try.func25, Try.ntmps25
  go_wp2_with fail
  all_goals first
    | (go_ret; exact ⟨1048577, by omega, by omega, rfl, rfl⟩)
    | skip
  go_loop [0, 5] (fun x i => ∃ (k : Nat) (s : Int), k ≤ n ∧ i = .int .i64 k ∧ x = .int .i64 s ∧ 0 ≤ s ∧ s ≤ 4194304) (fun _ i => n - (intOf i).toNat)
  case atStart => exact ⟨0, _, Nat.zero_le _, rfl, rfl, by omega, by omega⟩
  case round =>
    obtain ⟨k, s, hkn, rfl, rfl, g0, g1⟩ := hrel
    by_cases hlt : k < n
    · obtain ⟨b, off, hp, _, hcell, hsz⟩ := HS.out k hlt
      unfold maxLen at hsz
      have hix := fun w => ix26 (cap := cap) hp hlt w
      clear hp
      go_wp2_with fail
      all_goals first
        | (go_ret; exact ⟨1048577, by omega, by omega, rfl, rfl⟩)
        | skip
      go_round
      case rel => exact ⟨k + 1, _, by omega, by go_num, rfl, by omega, by omega⟩
      case measure => simp [intOf]; omega
    · go_wp2_with fail
      go_ret
      exact ⟨s, g0, g1, rfl, rfl⟩

set_option maxHeartbeats 1000000 in
theorem shownSize (w : World) (a a2 : ByteArray) (ha : a.size ≤ maxLen) (ha2 : a2.size ≤ maxLen) (ps pt ph pk pv : Option Addr) (ns nt nh nk nv cs ct ch ck cv : Nat) (hs : ns ≤ maxLen) (ht : nt ≤ maxLen) (hh : nh ≤ maxLen) (hk : nk ≤ maxLen) (hv : nv ≤ maxLen)
    (S T V : Nat → ByteArray) (HS : Hid (Strs w ps ns S)) (HT : Hid (Strs w pt nt T)) (HV : Hid (Strs w pv nv V)) :
    Calls Try.prog 14 #[.string a, .string a2, .slice ps ns cs, .slice pt nt ct, .slice ph nh ch, .slice pk nk ck, .slice pv nv cv] w (SomeSize w) := by
  have H1 : Hid (∀ x : Int, 0 ≤ x → x ≤ 4194304 → Calls Try.prog 25 #[.int .i64 x, .slice ps ns cs] w (SomeSize w)) := fun x a b => strsSize w x a b ps ns cs hs S HS
  have H2 : Hid (∀ x : Int, 0 ≤ x → x ≤ 4194304 → Calls Try.prog 25 #[.int .i64 x, .slice pt nt ct] w (SomeSize w)) := fun x a b => strsSize w x a b pt nt ct ht T HT
  have H3 : Hid (∀ x : Int, 0 ≤ x → x ≤ 4194304 → Calls Try.prog 25 #[.int .i64 x, .slice pv nv cv] w (SomeSize w)) := fun x a b => strsSize w x a b pv nv cv hv V HV
  unfold maxLen at ha ha2 hs ht hh hk hv
  go_enter Try.func14, Try.ntmps14
  go_wp2_with fail
  all_goals first
    | (go_ret; exact ⟨1048577, by omega, by omega, rfl, rfl⟩)
    | skip
  refine (H1.out _ (by omega) (by omega)).mono ?_
  rintro e w' ⟨y1, g0, g1, rfl, rfl⟩
  go_wp2_with fail
  refine (H2.out _ (by omega) (by omega)).mono ?_
  rintro e w' ⟨y2, g2, g3, rfl, rfl⟩
  go_wp2_with fail
  refine (H3.out _ (by omega) (by omega)).mono ?_
  rintro e w' ⟨y3, g4, g5, rfl, rfl⟩
  go_wp2_with fail
  go_ret
  exact ⟨y3, g4, g5, rfl, rfl⟩

/-- The bools of a slice, as a walk wants them. -/
def Bools (w : World) (p : Option Addr) (n : Nat) (f : Nat → Bool) : Prop := ∀ i, i < n → ∃ b off, p = some ⟨b, off, none⟩ ∧ b < w.heap.size ∧ w.cell? ⟨b, off + i, none⟩ = some (.bool (f i))

theorem Strs.rd {w : World} {p : Option Addr} {n : Nat} {f : Nat → ByteArray} (h : Strs w p n f) (hn : n ≤ maxLen) (cap : Nat) : Rd w (.slice p n cap) n (fun i => .string (f i)) :=
  ⟨p, cap, rfl, hn, fun i hi => by obtain ⟨b, off, h1, h2, h3, _⟩ := h i hi; exact ⟨b, off, h1, h2, h3⟩⟩

theorem strAt_le {n : Nat} {f : Nat → ByteArray} (h : ∀ i, i < n → (f i).size ≤ 1048576) (i : Nat) : (strAt n f i).size ≤ 1048576 := by
  unfold strAt
  split
  · exact h i (by assumption)
  · exact Nat.zero_le _

theorem mul_le (a b : Int) (h0 : 0 ≤ a) (h1 : a ≤ 4096) (h2 : 0 ≤ b) (h3 : b ≤ 1048576) : 0 ≤ a * b ∧ a * b ≤ 4294967296 :=
  ⟨Int.mul_nonneg h0 h2, Int.le_trans (Int.mul_le_mul h1 h3 h2 (by omega)) (by omega)⟩

set_option maxHeartbeats 4000000 in
theorem unfoldFits (w : World) (ps pt ph pk pv : Option Addr) (ns nt nh nk nv cs ct ch ck cv : Nat) (hs : ns ≤ 4096) (ht : nt ≤ 4096) (hh : nh ≤ 4096) (hk : nk ≤ 4096) (hv : nv ≤ 4096)
    (T V : Nat → ByteArray) (B : Nat → Bool) (HT : Hid (Strs w pt nt T)) (HV : Hid (Strs w pv nv V)) (HB : Hid (Bools w ph nh B)) (hT : Hid (∀ i, i < nt → (T i).size ≤ 1048576)) (hV : Hid (∀ i, i < nv → (V i).size ≤ 1048576)) :
    Calls Try.prog 15 #[.slice ps ns cs, .slice pt nt ct, .slice ph nh ch, .slice pk nk ck, .slice pv nv cv] w (SomeBool w) := by
  have H1 : Hid (∀ k : Nat, k ≤ 4096 → Calls Try.prog 26 #[.slice pt nt ct, .int .i64 k] w fun e w' => e = .returned (.string (strAt nt T k)) ∧ w' = w) :=
    fun k hk => zzAt w _ nt T (Strs.rd HT.out (by unfold maxLen; omega) ct) k (by unfold maxLen; omega)
  have H2 : Hid (∀ k : Nat, k ≤ 4096 → Calls Try.prog 26 #[.slice pv nv cv, .int .i64 k] w fun e w' => e = .returned (.string (strAt nv V k)) ∧ w' = w) :=
    fun k hk => zzAt w _ nv V (Strs.rd HV.out (by unfold maxLen; omega) cv) k (by unfold maxLen; omega)
  by_cases hk0 : nk = 0
  · subst hk0
    go_enter Try.func15, Try.ntmps15
    go_wp2_with fail
    go_ret
    exact ⟨true, rfl, rfl⟩
  have hk1 : ((nk : Int) == 0) = false := beq_eq_false_iff_ne.2 (by omega)
  go_enter Try.func15, Try.ntmps15
  go_wp2_with fail
  all_goals first
    | (go_ret; exact ⟨_, rfl, rfl⟩)
    | skip
  go_loop [12, 13, 14] (fun x y i => ∃ (k : Nat) (s t : Int), k ≤ ns ∧ i = .int .i64 k ∧ x = .int .i64 s ∧ y = .int .i64 t ∧ 0 ≤ s ∧ s ≤ k * 1048576 ∧ 0 ≤ t ∧ t ≤ k) (fun _ _ i => ns - (intOf i).toNat)
  case atStart => exact ⟨0, 0, 0, Nat.zero_le _, rfl, rfl, rfl, by omega, by omega, by omega, by omega⟩
  case round =>
    obtain ⟨k, s, t, hkn, rfl, rfl, rfl, g0, g1, g2, g3⟩ := hrel
    by_cases hlt : k < ns
    · have hsz : (strAt nt T k).size ≤ 1048576 := strAt_le hT.out k
      have hk4 : k ≤ 4096 := by omega
      by_cases hth : k < nh
      · obtain ⟨b, off, hp, _, hcell⟩ := HB.out k hth
        have hix := fun w => ix27 (cap := ch) hp hth w
        clear hp
        cases hBk : B k
        all_goals
          rw [hBk] at hcell
          go_wp2_with (go_at_call 26; refine (H1.out _ hk4).mono ?_; rintro e w' ⟨rfl, rfl⟩)
          go_round
          case rel => exact ⟨k + 1, _, _, by omega, by go_num, rfl, rfl, by omega, by omega, by omega, by omega⟩
          case measure => simp [intOf]; omega
      · go_wp2_with (go_at_call 26; refine (H1.out _ hk4).mono ?_; rintro e w' ⟨rfl, rfl⟩)
        go_round
        case rel => exact ⟨k + 1, _, _, by omega, by go_num, rfl, rfl, by omega, by omega, by omega, by omega⟩
        case measure => simp [intOf]; omega
    · have hs4 : s ≤ 4294967296 := by omega
      have ht4 : t ≤ 4096 := by omega
      clear g1 g3
      go_wp2_with fail
      go_loop [15, 16] (fun x i => ∃ (k : Nat) (l : Int), k ≤ nk ∧ i = .int .i64 k ∧ x = .int .i64 l ∧ 0 ≤ l ∧ l ≤ 1048576) (fun _ i => nk - (intOf i).toNat)
      case atStart => exact ⟨0, 0, Nat.zero_le _, rfl, rfl, by omega, by omega⟩
      case round =>
        obtain ⟨j, l, hjn, rfl, rfl, e0, e1⟩ := hrel
        by_cases hlt2 : j < nk
        · have hsz : (strAt nv V j).size ≤ 1048576 := strAt_le hV.out j
          have hj4 : j ≤ 4096 := by omega
          go_wp2_with (go_at_call 26; refine (H2.out _ hj4).mono ?_; rintro e w' ⟨rfl, rfl⟩)
          all_goals
            go_round
            case rel => exact ⟨j + 1, _, by omega, by go_num, rfl, by omega, by omega⟩
            case measure => simp [intOf]; omega
        · obtain ⟨m0, m1⟩ := mul_le t l g2 ht4 e0 e1
          go_wp2_with fail
          all_goals
            go_ret
            exact ⟨_, rfl, rfl⟩
end Go.Proofs.Qxb6603535a.Sizes
