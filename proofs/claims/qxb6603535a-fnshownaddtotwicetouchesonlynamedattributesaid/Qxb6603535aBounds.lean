import Derived.Test.Qxb6603535aGet
namespace Go.Proofs.Qxb6603535a.Bounds
open Go.RowKit Go.Maps Go.Proofs.Qxb6603535a.Mem Go.Proofs.Qxb6603535a.Get
set_option linter.unusedVariables false

theorem ix {t e : TypeId} (h : Try.prog.underlying t = some (.slice e)) (hel : Try.prog.elem t = e) (hz : ∀ w, (sizeOf e).run Try.prog w = .ok 1 w) {p : Option Addr} {n cap i b off : Nat} (hp : p = some ⟨b, off, none⟩) (hi : i < n) (w : World) :
    (Instr.indexAt t (.slice p n cap) (.int .i64 (i : Int))).run Try.prog w = .ok (.pointer (some ⟨b, off + i, none⟩)) w := by
  subst hp
  rw [run_indexAt_slice (h := by rw [hel]; exact h), if_pos (by omega), hel, hz]
  simp [Result.andThen, Addr.add]

theorem ix26 {p : Option Addr} {n cap i b off : Nat} (hp : p = some ⟨b, off, none⟩) (hi : i < n) (w : World) :
    (Instr.indexAt 26 (.slice p n cap) (.int .i64 (i : Int))).run Try.prog w = .ok (.pointer (some ⟨b, off + i, none⟩)) w := ix Try.underlying26 (by kernel_rfl) (fun w => by kernel_rfl) hp hi w
theorem ix27 {p : Option Addr} {n cap i b off : Nat} (hp : p = some ⟨b, off, none⟩) (hi : i < n) (w : World) :
    (Instr.indexAt 27 (.slice p n cap) (.int .i64 (i : Int))).run Try.prog w = .ok (.pointer (some ⟨b, off + i, none⟩)) w := ix Try.underlying27 (by kernel_rfl) (fun w => by kernel_rfl) hp hi w
theorem ix24 {p : Option Addr} {n cap i b off : Nat} (hp : p = some ⟨b, off, none⟩) (hi : i < n) (w : World) :
    (Instr.indexAt 24 (.slice p n cap) (.int .i64 (i : Int))).run Try.prog w = .ok (.pointer (some ⟨b, off + i, none⟩)) w := ix Try.underlying24 (by kernel_rfl) (fun w => by kernel_rfl) hp hi w

/-- The strings of a slice, as a walk wants them. -/
def Strs (w : World) (p : Option Addr) (n : Nat) (f : Nat → ByteArray) : Prop := ∀ i, i < n → ∃ b off, p = some ⟨b, off, none⟩ ∧ b < w.heap.size ∧ w.cell? ⟨b, off + i, none⟩ = some (.string (f i)) ∧ (f i).size ≤ maxLen

/-- What the bound on the bytes says. -/
def BP (w : World) (nt nv : Nat) (T V : Nat → ByteArray) (e : Ending) (w' : World) : Prop := ∃ b, e = .returned (.bool b) ∧ w' = w ∧ (b = true → (∀ i, i < nt → (T i).size ≤ 1048576) ∧ ∀ i, i < nv → (V i).size ≤ 1048576)

theorem BP.no (w : World) (nt nv : Nat) (T V : Nat → ByteArray) : BP w nt nv T V (.returned (.bool false)) w := ⟨false, rfl, rfl, fun h => by cases h⟩

theorem step_le {f : Nat → ByteArray} {k : Nat} (h : ∀ j, j < k → (f j).size ≤ 1048576) (hk : (f k).size ≤ 1048576) : ∀ j, j < k + 1 → (f j).size ≤ 1048576 := fun j hj => by
  rcases Nat.lt_or_ge j k with h' | h'
  · exact h j h'
  · have : j = k := by omega
    subst this; exact hk

set_option maxHeartbeats 4000000 in
theorem bytes5 (w : World) (a : ByteArray) (ha : a.size ≤ maxLen) (ps pt ph pk pv : Option Addr) (ns nt nh nk nv cs ct ch ck cv : Nat) (hs : ns ≤ maxLen) (ht : nt ≤ maxLen) (hh : nh ≤ maxLen) (hk : nk ≤ maxLen) (hv : nv ≤ maxLen)
    (S T V : Nat → ByteArray) (HS : Hid (Strs w ps ns S)) (HT : Hid (Strs w pt nt T)) (HV : Hid (Strs w pv nv V)) :
    Calls Try.prog 13 #[.string a, .slice ps ns cs, .slice pt nt ct, .slice ph nh ch, .slice pk nk ck, .slice pv nv cv] w (BP w nt nv T V) := by
  unfold maxLen at ha hs ht hh hk hv
  go_enter Try.func13, Try.ntmps13
  go_wp2_with fail
  all_goals first
    | (go_ret; exact BP.no _ _ _ _ _)
    | skip
  go_loop [13, 14] (fun x i => ∃ (k : Nat) (s : Int), k ≤ ns ∧ i = .int .i64 k ∧ x = .int .i64 s ∧ 0 ≤ s ∧ s ≤ 1048576) (fun _ i => ns - (intOf i).toNat)
  case atStart => exact ⟨0, _, Nat.zero_le _, rfl, rfl, by omega, by omega⟩
  case round =>
    obtain ⟨k, s, hkn, rfl, rfl, h0, h1⟩ := hrel
    by_cases hlt : k < ns
    · obtain ⟨b, off, hp, _, hcell, hsz⟩ := HS.out k hlt
      unfold maxLen at hsz
      have hix := fun w => ix26 (cap := cs) hp hlt w
      clear hp
      go_wp2_with fail
      all_goals first
        | (go_ret; exact BP.no _ _ _ _ _)
        | skip
      go_round
      case rel => exact ⟨k + 1, _, by omega, by go_num, rfl, by omega, by omega⟩
      case measure => simp [intOf]; omega
    · go_wp2_with fail
      all_goals first
        | (go_ret; exact BP.no _ _ _ _ _)
        | skip
      go_loop [13, 15] (fun x i => ∃ (k : Nat) (s : Int), k ≤ nt ∧ i = .int .i64 k ∧ x = .int .i64 s ∧ 0 ≤ s ∧ s ≤ 1048576 ∧ Hid (∀ j, j < k → (T j).size ≤ 1048576)) (fun _ i => nt - (intOf i).toNat)
      case atStart => exact ⟨0, _, Nat.zero_le _, rfl, rfl, by omega, by omega, fun j hj => absurd hj (Nat.not_lt_zero j)⟩
      case round =>
        obtain ⟨k, s, hkn, rfl, rfl, h0, h1, hbT⟩ := hrel
        by_cases hlt : k < nt
        · obtain ⟨b, off, hp, _, hcell, hsz⟩ := HT.out k hlt
          unfold maxLen at hsz
          have hix := fun w => ix26 (cap := ct) hp hlt w
          clear hp
          go_wp2_with fail
          all_goals first
            | (go_ret; exact BP.no _ _ _ _ _)
            | skip
          go_round
          case rel => exact ⟨k + 1, _, by omega, by go_num, rfl, by omega, by omega, step_le hbT.out (by omega)⟩
          case measure => simp [intOf]; omega
        · have hbT : Hid (∀ j, j < nt → (T j).size ≤ 1048576) := fun j hj => hbT.out j (by omega)
          go_wp2_with fail
          all_goals first
            | (go_ret; exact BP.no _ _ _ _ _)
            | skip
          go_loop [13, 16] (fun x i => ∃ (k : Nat) (s : Int), k ≤ nv ∧ i = .int .i64 k ∧ x = .int .i64 s ∧ 0 ≤ s ∧ s ≤ 1048576 ∧ Hid (∀ j, j < nt → (T j).size ≤ 1048576) ∧ Hid (∀ j, j < k → (V j).size ≤ 1048576)) (fun _ i => nv - (intOf i).toNat)
          case atStart => exact ⟨0, _, Nat.zero_le _, rfl, rfl, by omega, by omega, hbT, fun j hj => absurd hj (Nat.not_lt_zero j)⟩
          case round =>
            obtain ⟨k, s, hkn, rfl, rfl, h0, h1, hbT, hbV⟩ := hrel
            by_cases hlt : k < nv
            · obtain ⟨b, off, hp, _, hcell, hsz⟩ := HV.out k hlt
              unfold maxLen at hsz
              have hix := fun w => ix26 (cap := cv) hp hlt w
              clear hp
              go_wp2_with fail
              all_goals first
                | (go_ret; exact BP.no _ _ _ _ _)
                | skip
              go_round
              case rel => exact ⟨k + 1, _, by omega, by go_num, rfl, by omega, by omega, hbT, step_le hbV.out (by omega)⟩
              case measure => simp [intOf]; omega
            · have hbV : Hid (∀ j, j < nv → (V j).size ≤ 1048576) := fun j hj => hbV.out j (by omega)
              go_wp2_with fail
              all_goals first
                | (go_ret; exact BP.no _ _ _ _ _)
                | skip
              go_ret
              exact ⟨true, rfl, rfl, fun _ => ⟨hbT.out, hbV.out⟩⟩

set_option maxHeartbeats 4000000 in
theorem bytes6 (w : World) (a : ByteArray) (ha : a.size ≤ maxLen) (a2 : ByteArray) (ha2 : a2.size ≤ maxLen) (ps pt ph pk pv : Option Addr) (ns nt nh nk nv cs ct ch ck cv : Nat) (hs : ns ≤ maxLen) (ht : nt ≤ maxLen) (hh : nh ≤ maxLen) (hk : nk ≤ maxLen) (hv : nv ≤ maxLen)
    (S T V : Nat → ByteArray) (HS : Hid (Strs w ps ns S)) (HT : Hid (Strs w pt nt T)) (HV : Hid (Strs w pv nv V)) :
    Calls Try.prog 23 #[.string a, .string a2, .slice ps ns cs, .slice pt nt ct, .slice ph nh ch, .slice pk nk ck, .slice pv nv cv] w (BP w nt nv T V) := by
  unfold maxLen at ha hs ht hh hk hv ha2
  go_enter Try.func23, Try.ntmps23
  go_wp2_with fail
  all_goals first
    | (go_ret; exact BP.no _ _ _ _ _)
    | skip
  go_loop [15, 16] (fun x i => ∃ (k : Nat) (s : Int), k ≤ ns ∧ i = .int .i64 k ∧ x = .int .i64 s ∧ 0 ≤ s ∧ s ≤ 1048576) (fun _ i => ns - (intOf i).toNat)
  case atStart => exact ⟨0, _, Nat.zero_le _, rfl, rfl, by omega, by omega⟩
  case round =>
    obtain ⟨k, s, hkn, rfl, rfl, h0, h1⟩ := hrel
    by_cases hlt : k < ns
    · obtain ⟨b, off, hp, _, hcell, hsz⟩ := HS.out k hlt
      unfold maxLen at hsz
      have hix := fun w => ix26 (cap := cs) hp hlt w
      clear hp
      go_wp2_with fail
      all_goals first
        | (go_ret; exact BP.no _ _ _ _ _)
        | skip
      go_round
      case rel => exact ⟨k + 1, _, by omega, by go_num, rfl, by omega, by omega⟩
      case measure => simp [intOf]; omega
    · go_wp2_with fail
      all_goals first
        | (go_ret; exact BP.no _ _ _ _ _)
        | skip
      go_loop [15, 17] (fun x i => ∃ (k : Nat) (s : Int), k ≤ nt ∧ i = .int .i64 k ∧ x = .int .i64 s ∧ 0 ≤ s ∧ s ≤ 1048576 ∧ Hid (∀ j, j < k → (T j).size ≤ 1048576)) (fun _ i => nt - (intOf i).toNat)
      case atStart => exact ⟨0, _, Nat.zero_le _, rfl, rfl, by omega, by omega, fun j hj => absurd hj (Nat.not_lt_zero j)⟩
      case round =>
        obtain ⟨k, s, hkn, rfl, rfl, h0, h1, hbT⟩ := hrel
        by_cases hlt : k < nt
        · obtain ⟨b, off, hp, _, hcell, hsz⟩ := HT.out k hlt
          unfold maxLen at hsz
          have hix := fun w => ix26 (cap := ct) hp hlt w
          clear hp
          go_wp2_with fail
          all_goals first
            | (go_ret; exact BP.no _ _ _ _ _)
            | skip
          go_round
          case rel => exact ⟨k + 1, _, by omega, by go_num, rfl, by omega, by omega, step_le hbT.out (by omega)⟩
          case measure => simp [intOf]; omega
        · have hbT : Hid (∀ j, j < nt → (T j).size ≤ 1048576) := fun j hj => hbT.out j (by omega)
          go_wp2_with fail
          all_goals first
            | (go_ret; exact BP.no _ _ _ _ _)
            | skip
          go_loop [15, 18] (fun x i => ∃ (k : Nat) (s : Int), k ≤ nv ∧ i = .int .i64 k ∧ x = .int .i64 s ∧ 0 ≤ s ∧ s ≤ 1048576 ∧ Hid (∀ j, j < nt → (T j).size ≤ 1048576) ∧ Hid (∀ j, j < k → (V j).size ≤ 1048576)) (fun _ i => nv - (intOf i).toNat)
          case atStart => exact ⟨0, _, Nat.zero_le _, rfl, rfl, by omega, by omega, hbT, fun j hj => absurd hj (Nat.not_lt_zero j)⟩
          case round =>
            obtain ⟨k, s, hkn, rfl, rfl, h0, h1, hbT, hbV⟩ := hrel
            by_cases hlt : k < nv
            · obtain ⟨b, off, hp, _, hcell, hsz⟩ := HV.out k hlt
              unfold maxLen at hsz
              have hix := fun w => ix26 (cap := cv) hp hlt w
              clear hp
              go_wp2_with fail
              all_goals first
                | (go_ret; exact BP.no _ _ _ _ _)
                | skip
              go_round
              case rel => exact ⟨k + 1, _, by omega, by go_num, rfl, by omega, by omega, hbT, step_le hbV.out (by omega)⟩
              case measure => simp [intOf]; omega
            · have hbV : Hid (∀ j, j < nv → (V j).size ≤ 1048576) := fun j hj => hbV.out j (by omega)
              go_wp2_with fail
              all_goals first
                | (go_ret; exact BP.no _ _ _ _ _)
                | skip
              go_ret
              exact ⟨true, rfl, rfl, fun _ => ⟨hbT.out, hbV.out⟩⟩

end Go.Proofs.Qxb6603535a.Bounds
