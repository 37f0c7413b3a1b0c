import Derived.Test.Qxb6603535aSizes
namespace Go.Proofs.Qxb6603535a.Row
open Go.RowKit Go.Maps Go.Proofs.Qxb6603535a.Mem Go.Proofs.Qxb6603535a.Get Go.Proofs.Qxb6603535a.Bounds Go.Proofs.Qxb6603535a.Sizes
set_option linter.unusedVariables false

/-- A row of the call's own: its first n cells hold what f names. -/
def Rowed (w : World) (r n : Nat) (f : Nat → Value) : Prop := ∃ cur e, w.heap[r]? = some (.cells cur e (0, 0)) ∧ ∀ i, i < n → cur[i]? = some (f i)

theorem Rowed.lt {w : World} {r n : Nat} {f : Nat → Value} (h : Rowed w r n f) : r < w.heap.size := by
  obtain ⟨cur, e, h1, _⟩ := h
  exact (Array.getElem?_eq_some_iff.1 h1).1

theorem Rowed.cell {w : World} {r n : Nat} {f : Nat → Value} (h : Rowed w r n f) {i : Nat} (hi : i < n) : w.cell? ⟨r, i, none⟩ = some (f i) := by
  obtain ⟨cur, e, h1, h2⟩ := h
  simp [World.cell?, h1, h2 i hi]

theorem Rowed.frozen {w : World} {r n : Nat} {f : Nat → Value} (h : Rowed w r n f) (i : Nat) : w.frozen? ⟨r, i, none⟩ = false := by
  obtain ⟨cur, e, h1, h2⟩ := h
  simp [World.frozen?, h1]

theorem Rowed.block {w w' : World} {r n : Nat} {f : Nat → Value} (h : Rowed w r n f) (hb : w'.heap[r]? = w.heap[r]?) : Rowed w' r n f := by
  obtain ⟨cur, e, h1, h2⟩ := h
  exact ⟨cur, e, hb.trans h1, h2⟩

theorem Rowed.kept {w w' : World} {r n : Nat} {f : Nat → Value} (h : Rowed w r n f) (k : Kept w w') : Rowed w' r n f := h.block (k.block r h.lt id)

theorem Rowed.congr {w : World} {r n : Nat} {f g : Nat → Value} (h : Rowed w r n f) (e : ∀ i, i < n → f i = g i) : Rowed w r n g := by
  obtain ⟨cur, t, h1, h2⟩ := h
  exact ⟨cur, t, h1, fun i hi => by rw [h2 i hi, e i hi]⟩

theorem Rowed.set {w : World} {r n : Nat} {f : Nat → Value} (h : Rowed w r n f) {i : Nat} (hi : i < n) (v : Value) : Rowed (w.setCell ⟨r, i, none⟩ v) r n (fun j => if j = i then v else f j) := by
  obtain ⟨cur, e, h1, h2⟩ := h
  refine ⟨cur.setIfInBounds i v, e, ?_, fun j hj => ?_⟩
  · unfold World.setCell
    simp [Array.getElem?_modify, h1]
  · have hb : i < cur.size := (Array.getElem?_eq_some_iff.1 (h2 i hi)).1
    rw [Array.getElem?_setIfInBounds]
    by_cases e : j = i
    · subst e
      simp [hb]
    · rw [if_neg (fun x => e x.symm)]
      show cur[j]? = some (if j = i then v else f j)
      rw [if_neg e]
      exact h2 j hj

theorem Rowed.rd {w : World} {r n : Nat} {f : Nat → Value} (h : Rowed w r n f) (hn : n ≤ maxLen) (cap : Nat) : Rd w (.slice (some ⟨r, 0, none⟩) n cap) n f :=
  ⟨_, cap, rfl, hn, fun i hi => ⟨r, 0, rfl, h.lt, by rw [Nat.zero_add]; exact h.cell hi⟩⟩

theorem Rowed.of_owns {w : World} {e : TypeId} {r n : Nat} {z : Value} (hz : z.cells = #[z]) (h : w.ownsRow 0 e 1 (.slice (some ⟨r, 0, none⟩) n n) n (madeCells z.cells (n * 1)).toList) : Rowed w r n (fun _ => z) := by
  obtain ⟨_, ⟨h1, _⟩ | ⟨g, cap, cur, h1, _, h2, _, _, h3, h4⟩⟩ := h
  · cases h1
  · cases h1
    refine ⟨cur, e, h2, fun i hi => ?_⟩
    rw [hz, toList_madeCells_one, Nat.mul_one] at h4
    have h5 := congrArg (fun l => l[i]?) h4
    simp only [List.getElem?_take, hi, if_true, List.getElem?_replicate] at h5
    simpa using h5

theorem info9 : (Try.prog.info? 9).map (fun i => (i.zero, i.size, i.bytes)) = some (some (.string ⟨#[]⟩), 1, 16) := by kernel_rfl
theorem info20 : (Try.prog.info? 20).map (fun i => (i.zero, i.size, i.bytes)) = some (some .nilIface, 1, 16) := by kernel_rfl
theorem info4 : (Try.prog.info? 4).map (fun i => (i.zero, i.size, i.bytes)) = some (some (.bool false), 1, 1) := by kernel_rfl
theorem info5 : (Try.prog.info? 5).map (fun i => (i.zero, i.size, i.bytes)) = some (some (.int .u8 0), 1, 1) := by kernel_rfl

set_option maxHeartbeats 1000000 in
/-- zzValueTexts_b1. -/
theorem valueTexts (w : World) (pk : Option Addr) (nk ck : Nat) (hk : nk ≤ 4096) (pv : Option Addr) (nv cv : Nat) (hv : nv ≤ 4096) (V : Nat → ByteArray) (HV : Hid (Strs w pv nv V)) :
    Calls Try.prog 16 #[.slice pk nk ck, .slice pv nv cv] w fun e w' => e = .returned (.slice (some ⟨w.heap.size, 0, none⟩) nk nk) ∧ Rowed w' w.heap.size nk (fun i => .string (strAt nv V i)) ∧ Kept w w' := by
  obtain ⟨i9, hi, hz0, hz1, hz2⟩ := info_parts info9
  have HZ : Hid (∀ (w' : World) (k : Nat), Kept w w' → k ≤ 4096 → Calls Try.prog 26 #[.slice pv nv cv, .int .i64 k] w' fun e w1 => e = .returned (.string (strAt nv V k)) ∧ w1 = w') :=
    fun w' k hk' hk4 => zzAt w' _ nv V ((Strs.rd HV.out (by unfold maxLen; omega) cv).kept hk') k (by unfold maxLen; omega)
  go_enter Try.func16, Try.ntmps16
  go_wp2_with (first | (at_make; refine wpList_make_full _ rfl _ _ 26 rfl 0 9 i9 (.string ⟨#[]⟩) 1 Try.underlying26 hi hz0 hz1 _ _ _ _ nk rfl rfl (by omega) (by omega) (by rw [hz2]; omega) (by unfold maxLen; omega) (Nat.zero_le _) ?_; intro w1 hown hg) | go_in)
  have hrow0 : Hid (Rowed w1 w.heap.size nk (fun _ => .string ⟨#[]⟩)) := Rowed.of_owns rfl hown
  have hk0 : Hid (Kept w w1) := (Turned.of_grown hg).mono (fun _ _ e => by cases e)
  clear hown hg
  go_wp2_with fail
  go_loopw [6] (fun i wr => ∃ k : Nat, k ≤ nk ∧ i = .int .i64 k ∧ Hid (Rowed wr w.heap.size nk (fun j => if j < k then .string (strAt nv V j) else .string ⟨#[]⟩)) ∧ Hid (Kept w wr)) (fun i _ => nk - (intOf i).toNat)
  case atStart => exact ⟨0, Nat.zero_le _, rfl, hrow0.out.congr (fun i hi => by simp), hk0⟩
  case round =>
    obtain ⟨k, hkn, rfl, hrow, hkept⟩ := hrel
    by_cases hlt : k < nk
    · have hcell := hrow.out.cell hlt
      have hfr := hrow.out.frozen k
      have hk4 : k ≤ 4096 := by omega
      rw [if_neg (Nat.lt_irrefl k)] at hcell
      go_wp2_with (go_at_call 26; refine (HZ.out _ _ hkept.out hk4).mono ?_; rintro e w' ⟨rfl, rfl⟩)
      go_roundw
      case rel => exact ⟨k + 1, by omega, by go_num, (hrow.out.set hlt _).congr (fun j hj => by
        by_cases e1 : j = k
        · subst e1; simp
        · by_cases e2 : j < k
          · simp [e1, e2, show j < k + 1 by omega]
          · simp [e1, e2, show ¬ j < k + 1 by omega]), hkept.out.setCell (Or.inl (Nat.le_refl _)) _⟩
      case measure => simp [intOf]; omega
    · go_wp2_with fail
      go_ret
      exact ⟨rfl, hrow.out.congr (fun j hj => by simp [show j < k by omega]), hkept.out⟩
end Go.Proofs.Qxb6603535a.Row
