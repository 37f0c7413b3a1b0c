import Derived.Test.Qxb6603535aPut
import Derived.Deep.RegionHeld3
import Derived.Deep.RegionWith
import Derived.BigQuiet
import Derived.Deep.QuietTactic
namespace Go.Proofs.Qxb6603535a.Build
open Go.RowKit Go.Maps Go.Proofs.Qxb6603535a.Mem Go.Proofs.Qxb6603535a.Get Go.Proofs.Qxb6603535a.Bounds Go.Proofs.Qxb6603535a.Sizes Go.Proofs.Qxb6603535a.Row Go.Proofs.Qxb6603535a.Shown Go.Proofs.Qxb6603535a.AddCx Go.Proofs.Qxb6603535a.Put
set_option linter.unusedVariables false

theorem bools_kept {w w' : World} {p : Option Addr} {n : Nat} {f : Nat → Bool} (h : Bools w p n f) (k : Kept w w') : Bools w' p n f := fun i hi => by
  obtain ⟨b, off, h1, h2, h3⟩ := h i hi
  exact ⟨b, off, h1, Nat.lt_of_lt_of_le h2 k.size, by rw [← h3]; exact k.cell (p := ⟨b, off + i, none⟩) h2 id⟩

/-- Is the value asked for behind text j? -/
def thenAt (n : Nat) (B : Nat → Bool) (j : Nat) : Bool := decide (j < n) && B j

set_option maxHeartbeats 4000000 in
theorem buildShown (w : World) (attr : ByteArray) (ha : attr.size ≤ maxLen) (ps pt ph : Option Addr) (m nt nh cs ct ch : Nat) (hm : m ≤ 4096) (ht : nt ≤ 4096) (hh : nh ≤ 4096) (S T : Nat → ByteArray) (B : Nat → Bool)
    (HS : Hid (Strs w ps m S)) (HT : Hid (Strs w pt nt T)) (HB : Hid (Bools w ph nh B)) :
    Calls Try.prog 17 #[.string attr, .slice ps m cs, .slice pt nt ct, .slice ph nh ch] w fun e w' => ∃ sb ib, e = .returned (.map (some sb)) ∧ Mp w' sb ((DataW.map []).put (ks attr) (.held (.map (some ib)))) ∧ Mp w' ib (inner S (strAt nt T) (thenAt nh B) m) ∧ w.heap.size ≤ sb ∧ w.heap.size ≤ ib ∧ Kept w w' := by
  have hmm := @run_makeMap Try.prog
  have HZ : Hid (∀ (w' : World) (k : Nat), Kept w w' → k ≤ 4096 → Calls Try.prog 26 #[.slice pt nt ct, .int .i64 k] w' fun e w1 => e = .returned (.string (strAt nt T k)) ∧ w1 = w') :=
    fun w' k hk' hk4 => zzAt w' _ nt T ((Strs.rd HT.out (by unfold maxLen; omega) ct).kept hk') k (by unfold maxLen; omega)
  have hSz : Hid (∀ j, j < m → (S j).size ≤ maxLen) := fun j hj => (by obtain ⟨_, _, _, _, _, h⟩ := HS.out j hj; exact h)
  go_enter Try.func17, Try.ntmps17
  go_wp2_with fail
  go_loopw [10] (fun i wr => ∃ k : Nat, k ≤ m ∧ i = .int .i64 k ∧ Hid (Mp wr w.heap.size (inner S (strAt nt T) (thenAt nh B) k)) ∧ Hid (Kept w wr)) (fun i _ => m - (intOf i).toNat)
  case atStart => exact ⟨0, Nat.zero_le _, rfl, Mp.made w, (Turned.refl _ _).alloc _⟩
  case round =>
    obtain ⟨k, hkn, rfl, hmp, hkept⟩ := hrel
    by_cases hlt : k < m
    · obtain ⟨b1, off1, hp, hb1, hcell0, hsz⟩ := HS.out k hlt
      have hsw : w.heap.size ≤ wr.heap.size := hkept.out.size
      have hcell : wr.cell? ⟨b1, off1 + k, none⟩ = some (.string (S k)) := by rw [← hcell0]; exact hkept.out.cell (p := ⟨b1, off1 + k, none⟩) hb1 id
      have hix := fun w => ix26 (cap := cs) hp hlt w
      have hk4 : k ≤ 4096 := by omega
      clear hp hcell0
      by_cases hth : k < nh
      · obtain ⟨b2, off2, hp2, hb2, hcell20⟩ := HB.out k hth
        have hcell2 : wr.cell? ⟨b2, off2 + k, none⟩ = some (.bool (B k)) := by rw [← hcell20]; exact hkept.out.cell (p := ⟨b2, off2 + k, none⟩) hb2 id
        have hix2 := fun w => ix27 (cap := ch) hp2 hth w
        clear hp2 hcell20
        obtain ⟨w2, hst, hmp2, hg2, _⟩ := (hmp.out.block (w' := wr.drew) rfl).store Try.underlying44 (by have := inner_size (S := S) (T := strAt nt T) (Th := thenAt nh B) (m := k) (fun j hj => hSz.out j (by omega)); unfold maxLen; omega) hsz (txt (strAt nt T k) (B k))
        have hst' : (Instr.mapUpdate 44 (.map (some w.heap.size)) (.string (S k)) (.agg #[.string (strAt nt T k), .bool (B k)])).run Try.prog wr.drew = .ok () w2 := hst
        have hT2 : Hid (Turned (fun j => some w.heap.size = some j) wr.drew w2) := Turned.of_grown hg2
        have hq1 : w2.cell? ⟨b1, off1 + k, none⟩ = some (.string (S k)) := by
          rw [← hcell]; exact hT2.out.cell (p := ⟨b1, off1 + k, none⟩) (by show b1 < wr.heap.size; omega) (fun e => by have : w.heap.size = b1 := Option.some.inj e; omega)
        have hq2 : w2.cell? ⟨b2, off2 + k, none⟩ = some (.bool (B k)) := by
          rw [← hcell2]; exact hT2.out.cell (p := ⟨b2, off2 + k, none⟩) (by show b2 < wr.heap.size; omega) (fun e => by have : w.heap.size = b2 := Option.some.inj e; omega)
        have hfin : Hid (Mp w2 w.heap.size (inner S (strAt nt T) (thenAt nh B) (k + 1)) ∧ Kept w w2) := by
          refine ⟨?_, hkept.out.drew.trans hT2.out (fun j hj e => by cases e; omega)⟩
          have e : thenAt nh B k = B k := by unfold thenAt; simp [hth]
          show Mp w2 w.heap.size ((inner S (strAt nt T) (thenAt nh B) k).put (ks (S k)) (.held (txt (strAt nt T k) (thenAt nh B k))))
          rw [e]
          exact hmp2
        clear hst hmp2 hg2
        go_wp2_with fail
        go_region_held3 (fun w' => w'.cell? ⟨b1, off1 + k, none⟩ = some (.string (S k)) ∧ w'.cell? ⟨b2, off2 + k, none⟩ = some (.bool (B k))) (first | go_keep | skip)
          (first | (go_at_call 26; refine (HZ.out _ _ ?_ hk4).mono ?_; (exact hkept.out.drew); rintro e w' ⟨rfl, rfl⟩))
        go_wp2_with fail
        go_roundw
        case rel => exact ⟨k + 1, by omega, by go_num, hfin.out.1, hfin.out.2⟩
        case measure => simp [intOf]; omega
      · have hth' : decide ((k : Int) < (nh : Int)) = false := decide_eq_false (by omega)
        obtain ⟨w2, hst, hmp2, hg2, _⟩ := (hmp.out.block (w' := wr.drew) rfl).store Try.underlying44 (by have := inner_size (S := S) (T := strAt nt T) (Th := thenAt nh B) (m := k) (fun j hj => hSz.out j (by omega)); unfold maxLen; omega) hsz (txt (strAt nt T k) (false))
        have hst' : (Instr.mapUpdate 44 (.map (some w.heap.size)) (.string (S k)) (.agg #[.string (strAt nt T k), .bool (false)])).run Try.prog wr.drew = .ok () w2 := hst
        have hT2 : Hid (Turned (fun j => some w.heap.size = some j) wr.drew w2) := Turned.of_grown hg2
        have hq1 : w2.cell? ⟨b1, off1 + k, none⟩ = some (.string (S k)) := by
          rw [← hcell]; exact hT2.out.cell (p := ⟨b1, off1 + k, none⟩) (by show b1 < wr.heap.size; omega) (fun e => by have : w.heap.size = b1 := Option.some.inj e; omega)
        have hfin : Hid (Mp w2 w.heap.size (inner S (strAt nt T) (thenAt nh B) (k + 1)) ∧ Kept w w2) := by
          refine ⟨?_, hkept.out.drew.trans hT2.out (fun j hj e => by cases e; omega)⟩
          have e : thenAt nh B k = false := by unfold thenAt; simp [hth]
          show Mp w2 w.heap.size ((inner S (strAt nt T) (thenAt nh B) k).put (ks (S k)) (.held (txt (strAt nt T k) (thenAt nh B k))))
          rw [e]
          exact hmp2
        clear hst hmp2 hg2
        go_wp2_with fail
        first
          | go_region_with (first | (go_at_call 26; refine (HZ.out _ _ ?_ hk4).mono ?_; (exact hkept.out.drew); rintro e w' ⟨rfl, rfl⟩))
          | fail
        all_goals
          go_wp2_with fail
          go_roundw
          case rel => exact ⟨k + 1, by omega, by go_num, hfin.out.1, hfin.out.2⟩
          case measure => simp [intOf]; omega
    · have ek : k = m := by omega
      obtain ⟨wf, hrf, hmf, hgf, _⟩ := (Mp.made wr).store Try.underlying33 (by decide) ha (.map (some w.heap.size))
      have hkf : Hid (Kept wr wf) := ((Turned.refl _ _).alloc _).trans (Turned.of_grown hgf) (fun j hj e => by cases e; omega)
      have hfin : Hid (Mp wf wr.heap.size ((DataW.map []).put (ks attr) (.held (.map (some w.heap.size)))) ∧ Mp wf w.heap.size (inner S (strAt nt T) (thenAt nh B) m) ∧ w.heap.size ≤ wr.heap.size ∧ Kept w wf) :=
        ⟨hmf, ek ▸ hkf.out.mp hmp.out id, hkept.out.size, hkept.out.trans hkf.out (fun _ _ e => e)⟩
      clear hmf hgf ek
      go_wp2_with fail
      go_ret
      exact ⟨wr.heap.size, w.heap.size, rfl, hfin.out.1, hfin.out.2.1, hfin.out.2.2.1, Nat.le_refl _, hfin.out.2.2.2⟩
end Go.Proofs.Qxb6603535a.Build
