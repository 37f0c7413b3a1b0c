import Derived.Test.Qxb6603532aTimesLaw
import Derived.Test.Qxb6603532aRows
import Derived.WalkLawsBesides
import Derived.Laws.Shifts
import Derived.OwnWalk
namespace Go.Proofs.Qxb6603532a.Times
open Go.RowKit Go.Proofs.Qxb6603532a.Trie Go.Proofs.Qxb6603532a.TimesLaw
set_option linter.unusedVariables false

theorem info3 : (Try.prog.info? 3).map (fun i => (i.zero, i.size, i.bytes)) = some (some (.int .i64 0), 1, 8) := by kernel_rfl
theorem info38 : (Try.prog.info? 38).map (fun i => (i.zero, i.size, i.bytes)) = some (some (.int .u64 0), 1, 8) := by kernel_rfl

set_option maxHeartbeats 400000 in
theorem times_nil (l base : Int) (vi vt : Value) (w : World) :
    Calls Try.prog 17 #[.pointer none, .int .i64 l, .int .i64 base, vi, vt] w fun e w' => e = .returned (.tuple #[vi, vt]) ∧ w' = w := by
  go_enter Try.func17, Try.ntmps17
  go_wp2_with fail
  go_ret2
  exact ⟨rfl, rfl⟩

set_option maxHeartbeats 1000000 in
theorem times_leaf (b o : Nat) (f : Nat → Int) (base : Int) (vi vt : Value) (Li Lt : List Int) (w0 w : World) (h : Leaf w0 b o f) (hT : Two w0 w vi vt Li Lt) (hi4 : Li.length ≤ 1000000) (ht4 : Lt.length ≤ 1000000) :
    Calls Try.prog 17 #[.pointer (some ⟨b, o, none⟩), .int .i64 0, .int .i64 base, vi, vt] w fun e w' => ∃ vi' vt', e = .returned (.tuple #[vi', vt']) ∧ Two w0 w' vi' vt' (Li ++ idsTo0 f base 4) (Lt ++ tsTo0 f 4) := by
  have H : Hid _ := h
  have HT : Hid _ := hT
  clear h hT
  obtain ⟨i3, hi30, hi31, hi32, hi33⟩ := info_parts info3
  obtain ⟨i8, hi80, hi81, hi82, hi83⟩ := info_parts info38
  go_enter Try.func17, Try.ntmps17
  go_wp2_with fail
  go_loopw [3, 4, 12] (fun x y i wr => ∃ k : Nat, k ≤ 4 ∧ i = .int .i64 k ∧ (Li ++ idsTo0 f base k).length ≤ 1000000 + k ∧ (Lt ++ tsTo0 f k).length ≤ 1000000 + k ∧ Hid (Two w0 wr x y (Li ++ idsTo0 f base k) (Lt ++ tsTo0 f k))) (fun _ _ i _ => 4 - (intOf i).toNat)
  case atStart => exact ⟨0, by omega, rfl, by simpa [idsTo0] using hi4, by simpa [tsTo0] using ht4, (by show Two _ _ _ _ _ _; simp only [idsTo0, tsTo0, List.append_nil]; exact HT.out)⟩
  case round =>
    obtain ⟨k, hk, rfl, hleni, hlent, hH⟩ := hrel
    by_cases hlt : k < 4
    · have hcell0 := (H.out k hlt).1
      have hbl : b < w0.heap.size := cell_lt hcell0
      have hcell : wr.cell? ⟨b, o + 4 + k, none⟩ = some (.int .u64 (f k)) := by rw [hH.out.below.cell (by exact hbl)]; exact hcell0
      have hwsz := hH.out.below.size
      clear hcell0
      by_cases hz : f k = 0
      · have hz' : (f k != 0) = false := by rw [hz]; rfl
        have HZ : Hid _ := hz
        clear hz
        go_wp2_with fail
        go_roundw
        case rel => exact ⟨k + 1, by omega, by go_num, (by simp only [idsTo0, pick, HZ.out, if_true, List.append_nil]; omega), (by simp only [tsTo0, pickT, HZ.out, if_true, List.append_nil]; omega), (by show Two _ _ _ _ _ _; simp only [idsTo0, tsTo0, pick, pickT, HZ.out, if_true, List.append_nil]; exact hH.out)⟩
        case measure => simp [intOf]; omega
      · have hz' : (f k != 0) = true := by rw [bne_iff_ne]; exact hz
        have HZ : Hid _ := hz
        clear hz
        generalize hLi : Li ++ idsTo0 f base k = Li' at *
        generalize hLt : Lt ++ tsTo0 f k = Lt' at *
        have HLi : Hid _ := hLi
        have HLt : Hid _ := hLt
        clear hLi hLt
        go_wp2_with (first
          | (at_builtin; refine wpList_append_lies _ rfl (.tmp 53) (.tmp 55) 43 rfl w0.heap.size 3 i3 (.int .i64 0) 1 8 Try.underlying43 hi30 hi31 hi32 hi33 rfl (by decide) _ _ _ rfl (hH.out.oi.alloc _) ⟨wr.heap.size, 0, none⟩ 1 1 [.int .i64 (wrap64 (base + k))] rfl rfl (cell_one_new _ _ _) (fun x hx => by simp at hx; subst hx; rfl) (by decide) (by unfold maxLen; omega) (by omega) (by simp; omega) _ rfl ?_; intro g cap w1 hown hgrow hat hglt; have T1 : Hid _ := Two.pushI hH.out (wrap64 (base + k)) _ hown hgrow hat; clear hown hgrow hat hglt; have hcell1 : w1.cell? ⟨b, o + 4 + k, none⟩ = some (.int .u64 (f k)) := (by rw [T1.out.below.cell (by exact hbl)]; exact (H.out k hlt).1); have hw1sz := T1.out.below.size)
          | (at_builtin; refine wpList_append_lies _ rfl (.tmp 57) (.tmp 64) 44 rfl w0.heap.size 38 i8 (.int .u64 0) 1 8 Try.underlying44 hi80 hi81 hi82 hi83 rfl (by decide) _ _ _ rfl (T1.out.ot.alloc _) ⟨w1.heap.size, 0, none⟩ 1 1 [.int .u64 (f k)] rfl rfl (cell_one_new _ _ _) (fun x hx => by simp at hx; subst hx; rfl) (by decide) (by unfold maxLen; omega) (by omega) (by simp; omega) _ rfl ?_; intro g2 cap2 w2 hown hgrow hat hglt; have T2 : Hid _ := Two.pushT T1.out (f k) _ hown hgrow hat; clear hown hgrow hat hglt))
        go_roundw
        case rel => exact ⟨k + 1, by omega, by go_num, (by simp only [idsTo0, pick, if_neg HZ.out, ← List.append_assoc, HLi.out]; simp; omega), (by simp only [tsTo0, pickT, if_neg HZ.out, ← List.append_assoc, HLt.out]; simp; omega), (by show Two _ _ _ _ _ _; simp only [idsTo0, tsTo0, pick, pickT, if_neg HZ.out, ← List.append_assoc, HLi.out, HLt.out]; exact T2.out)⟩
        case measure => simp [intOf]; omega
    · obtain rfl : k = 4 := by omega
      go_wp2_with fail
      go_ret2
      exact ⟨_, _, rfl, hH.out⟩

set_option maxHeartbeats 1000000 in
theorem times_any (n : Nat) : ∀ (u : Option Addr) (t : T n) (l base : Int) (lo : Nat) (vi vt : Value) (Li Lt : List Int) (w0 w : World), Rep w0 lo n u t → Two w0 w vi vt Li Lt → l ≤ n → n ≤ l → n ≤ 65541 →
    Li.length + 4 * T.size n t ≤ 1000000 → Lt.length + 4 * T.size n t ≤ 1000000 →
    Calls Try.prog 17 #[.pointer u, .int .i64 l, .int .i64 base, vi, vt] w fun e w' => ∃ vi' vt', e = .returned (.tuple #[vi', vt']) ∧ Two w0 w' vi' vt' (Li ++ ids n t base) (Lt ++ ts n t) := by
  induction n with
  | zero =>
    intro u t l base lo vi vt Li Lt w0 w hr hT hl1 hl2 hn hs1 hs2
    rcases hr with ⟨rfl, rfl⟩ | ⟨bl, o, f, rfl, rfl, _, hl⟩
    · refine (times_nil _ _ _ _ w).mono ?_
      rintro e w' ⟨rfl, rfl⟩
      exact ⟨_, _, rfl, by rw [ids_nil, ts_nil]; simpa using hT⟩
    · obtain rfl : l = 0 := by omega
      rw [ids_leaf, ts_leaf]
      exact times_leaf bl o f base vi vt Li Lt w0 w hl hT (by omega) (by omega)
  | succ n ih =>
    intro u t l base lo vi vt Li Lt w0 w hr hT hl1 hl2 hn hs1 hs2
    rcases hr with ⟨rfl, rfl⟩ | ⟨bl, o, f, U, rfl, rfl, _, hk⟩
    · refine (times_nil _ _ _ _ w).mono ?_
      rintro e w' ⟨rfl, rfl⟩
      exact ⟨_, _, rfl, by rw [ids_nil, ts_nil]; simpa using hT⟩
    · have ih' : Hid _ := ih
      have HK : Hid _ := hk
      have HT : Hid _ := hT
      have HS1 : Hid _ := hs1
      have HS2 : Hid _ := hs2
      clear ih hk hT hs1 hs2
      have hle : decide (0 < l) = true := by simp; omega
      have hsh : 0 ≤ 2 * l := by omega
      go_enter Try.func17, Try.ntmps17
      go_wp2_with fail
      go_loopw [3, 4, 12] (fun x y i wr => ∃ k : Nat, k ≤ 4 ∧ i = .int .i64 k ∧ Hid (Two w0 wr x y (Li ++ idsTo f base k) (Lt ++ tsTo f k))) (fun _ _ i _ => 4 - (intOf i).toNat)
      case atStart => exact ⟨0, by omega, rfl, (by show Two _ _ _ _ _ _; simp only [idsTo, tsTo, List.append_nil]; exact HT.out)⟩
      case round =>
        obtain ⟨k, hk, rfl, hH⟩ := hrel
        by_cases hlt : k < 4
        · have hcell0 := (HK.out k hlt).1
          have hbl : bl < w0.heap.size := cell_lt hcell0
          have hcell : wr.cell? ⟨bl, o + k, none⟩ = some (.pointer (U k)) := by rw [hH.out.below.cell (by exact hbl)]; exact hcell0
          have hroom := room f k hlt
          have hil := idsTo_len f base k
          have b1 : Hid ((Li ++ idsTo f base k).length + 4 * T.size n (f k) ≤ 1000000) := by
            have := HS1.out; show _ ≤ _; simp only [List.length_append]; omega
          have b2 : Hid ((Lt ++ tsTo f k).length + 4 * T.size n (f k) ≤ 1000000) := by
            have := HS2.out; show _ ≤ _; simp only [List.length_append]; omega
          have hid : Hid (idOf l base k = idOf (n + 1) base k) := by
            have e : l = n + 1 := by omega
            show _ = _; rw [e]
          clear hcell0 hroom hil
          go_wp2_with (go_at_call 17; refine (ih'.out (U k) (f k) (l - 1) (idOf l base k) lo _ _ _ _ w0 _ (HK.out k hlt).2 hH.out (by omega) (by omega) (by omega) b1.out b2.out).mono ?_; rintro e w' ⟨vi', vt', rfl, hT1⟩; have T1 : Hid _ := hT1; clear hT1)
          go_roundw
          case rel => exact ⟨k + 1, by omega, by go_num, (by show Two _ _ _ _ _ _; simp only [idsTo, tsTo, ← List.append_assoc]; rw [← hid.out]; exact T1.out)⟩
          case measure => simp [intOf]; omega
        · obtain rfl : k = 4 := by omega
          go_wp2_with fail
          go_ret2
          exact ⟨_, _, rfl, by rw [ids_node, ts_node]; exact hH.out⟩
end Go.Proofs.Qxb6603532a.Times
