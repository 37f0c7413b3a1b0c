import Derived.Test.Qxb6603535aRow
import Derived.Test.Qxb6603535aAddTo
namespace Go.Proofs.Qxb6603535a.Put
open Go.RowKit Go.Maps Go.Proofs.Qxb6603535a.Mem Go.Proofs.Qxb6603535a.Get Go.Proofs.Qxb6603535a.Bounds Go.Proofs.Qxb6603535a.Sizes Go.Proofs.Qxb6603535a.Row Go.Proofs.Qxb6603535a.Shown Go.Proofs.Qxb6603535a.AddCx
set_option linter.unusedVariables false

def type_ : ByteArray := ⟨#[116, 121, 112, 101]⟩
def display : ByteArray := ⟨#[100, 105, 115, 112, 108, 97, 121]⟩
def old : ByteArray := ⟨#[111, 108, 100]⟩
def num : Value := .iface 51 (.string ⟨#[49]⟩)

/-- What a value of kind k is built with. -/
def base (k : Nat) (t : ByteArray) : Dm :=
  if k = 1 then ((DataW.map []).put (ks value) (.held (str t))).put (ks type_) (.held (str old))
  else if k = 2 then (DataW.map []).put (ks display) (.held (str t))
  else (DataW.map []).put (ks value) (.held num)

/-- The kinds of a slice, as a walk wants them. -/
def Nats (w : World) (p : Option Addr) (n : Nat) (K : Nat → Nat) : Prop := ∀ i, i < n → ∃ b off, p = some ⟨b, off, none⟩ ∧ b < w.heap.size ∧ w.cell? ⟨b, off + i, none⟩ = some (.int .u8 (K i)) ∧ K i ≤ 255

theorem Nats.kept {w w' : World} {p : Option Addr} {n : Nat} {K : Nat → Nat} (h : Nats w p n K) (k : Kept w w') : Nats w' p n K := fun i hi => by
  obtain ⟨b, off, h1, h2, h3, h4⟩ := h i hi
  exact ⟨b, off, h1, Nat.lt_of_lt_of_le h2 k.size, by rw [← h3]; exact k.cell (p := ⟨b, off + i, none⟩) h2 id, h4⟩

theorem strs_kept {w w' : World} {p : Option Addr} {n : Nat} {f : Nat → ByteArray} (h : Strs w p n f) (k : Kept w w') : Strs w' p n f := fun i hi => by
  obtain ⟨b, off, h1, h2, h3, h4⟩ := h i hi
  exact ⟨b, off, h1, Nat.lt_of_lt_of_le h2 k.size, by rw [← h3]; exact k.cell (p := ⟨b, off + i, none⟩) h2 id, h4⟩

/-- The list when k elements have been laid in. -/
structure Half (w : World) (r n : Nat) (K : Nat → Nat) (V : Nat → ByteArray) (k : Nat) (M : Nat → Nat) (wr : World) : Prop where
  row : Rowed wr r n (fun j => if j < k then elv (K j) (V j) (M j) else .nilIface)
  mp : ∀ j, j < k → K j ≠ 0 → Mp wr (M j) (base (K j) (V j))
  new : ∀ j, j < k → K j ≠ 0 → r < M j
  inj : ∀ i j, i < k → j < k → K i ≠ 0 → K j ≠ 0 → M i = M j → i = j
  kept : Kept w wr
  rw_ : w.heap.size ≤ r

section
variable {w wr : World} {r n : Nat} {K : Nat → Nat} {V : Nat → ByteArray} {k : Nat} {M : Nat → Nat}

theorem Half.str (h : Half w r n K V k M wr) (hk : k < n) (h0 : K k = 0) : Half w r n K V (k + 1) M (wr.setCell ⟨r, k, none⟩ (.iface 9 (.string (V k)))) := by
  refine ⟨(h.row.set hk _).congr (fun j hj => ?_), fun j hj hK => ?_, fun j hj hK => ?_, fun i j hi hj a b e => ?_, h.kept.setCell (Or.inl h.rw_) _, h.rw_⟩
  · by_cases e1 : j = k
    · subst e1; simp [elv, h0]
    · by_cases e2 : j < k
      · simp [e1, e2, show j < k + 1 by omega]
      · simp [e1, e2, show ¬ j < k + 1 by omega]
  · have hj' : j < k := by
      rcases Nat.lt_or_ge j k with h' | h'
      · exact h'
      · exact absurd h0 (by rw [show k = j by omega]; exact hK)
    have := h.new j hj' hK
    exact (h.mp j hj' hK).block (Below.heap_setCell _ _ _ _ (by show M j ≠ r; omega))
  · have hj' : j < k := by
      rcases Nat.lt_or_ge j k with h' | h'
      · exact h'
      · exact absurd h0 (by rw [show k = j by omega]; exact hK)
    exact h.new j hj' hK
  · have hi' : i < k := by
      rcases Nat.lt_or_ge i k with h' | h'
      · exact h'
      · exact absurd h0 (by rw [show k = i by omega]; exact a)
    have hj' : j < k := by
      rcases Nat.lt_or_ge j k with h' | h'
      · exact h'
      · exact absurd h0 (by rw [show k = j by omega]; exact b)
    exact h.inj i j hi' hj' a b e

theorem Half.map (h : Half w r n K V k M wr) (hk : k < n) (h0 : K k ≠ 0) {w2 : World} (hw : Kept wr w2) (hm : Mp w2 wr.heap.size (base (K k) (V k))) :
    Half w r n K V (k + 1) (fun j => if j = k then wr.heap.size else M j) (w2.setCell ⟨r, k, none⟩ (.iface 47 (.map (some wr.heap.size)))) := by
  have hr := h.row.lt
  have hlt : ∀ j, j < k → K j ≠ 0 → M j < wr.heap.size := fun j a b => (h.mp j a b).lt
  refine ⟨((h.row.kept hw).set hk _).congr (fun j hj => ?_), fun j hj hK => ?_, fun j hj hK => ?_, fun i j hi hj a b e => ?_, (h.kept.trans hw (fun _ _ e => e)).setCell (Or.inl h.rw_) _, h.rw_⟩
  · by_cases e1 : j = k
    · subst e1; simp [elv, h0]
    · by_cases e2 : j < k
      · simp [e1, e2, show j < k + 1 by omega]
      · simp [e1, e2, show ¬ j < k + 1 by omega]
  · by_cases e1 : j = k
    · subst e1
      simp only [if_true]
      exact hm.block (Below.heap_setCell _ _ _ _ (by show wr.heap.size ≠ r; omega))
    · simp only [e1, if_false]
      have := h.new j (by omega) hK
      exact (hw.mp (h.mp j (by omega) hK) id).block (Below.heap_setCell _ _ _ _ (by show M j ≠ r; omega))
  · by_cases e1 : j = k
    · simp only [e1, if_true]; exact hr
    · simp only [e1, if_false]; exact h.new j (by omega) hK
  · by_cases e1 : i = k
    · by_cases e2 : j = k
      · omega
      · simp only [e1, e2, if_true, if_false] at e
        have := hlt j (by omega) b
        omega
    · by_cases e2 : j = k
      · simp only [e1, e2, if_true, if_false] at e
        have := hlt i (by omega) a
        omega
      · simp only [e1, e2, if_false] at e
        exact h.inj i j (by omega) (by omega) a b e
end

/-- What ZZPutList leaves. -/
structure Laid (w : World) (om : Nat) (D : Dm) (s : ByteArray) (n : Nat) (K : Nat → Nat) (V : Nat → ByteArray) (r : Nat) (M : Nat → Nat) (w' : World) : Prop where
  row : Rowed w' r n (fun j => elv (K j) (V j) (M j))
  mp : ∀ j, j < n → K j ≠ 0 → Mp w' (M j) (base (K j) (V j))
  new : ∀ j, j < n → K j ≠ 0 → r < M j
  inj : ∀ i j, i < n → j < n → K i ≠ 0 → K j ≠ 0 → M i = M j → i = j
  rw_ : w.heap.size ≤ r
  turned : Turned (fun k => k = om) w w'
  ob : Mp w' om (D.put (ks s) (.held (.iface 50 (.slice (some ⟨r, 0, none⟩) n n))))

set_option maxHeartbeats 4000000 in
theorem putList (w : World) (ob om : Nat) (D : Dm) (h : Hid (Ob w ob om D)) (hD : size D < 1000) (s : ByteArray) (hs : s.size ≤ maxLen) (pk : Option Addr) (nk ck : Nat) (hk : nk ≤ 4096) (pv : Option Addr) (cv : Nat) (K : Nat → Nat) (V : Nat → ByteArray)
    (HK : Hid (Nats w pk nk K)) (HV : Hid (Strs w pv nk V)) :
    Calls Try.prog 19 #[.pointer (some ⟨ob, 0, none⟩), .string s, .slice pk nk ck, .slice pv nk cv] w fun e w' => e = .returned (.tuple #[]) ∧ ∃ r M, Laid w om D s nk K V r M w' := by
  obtain ⟨i20, hi, hz0, hz1, hz2⟩ := info_parts info20
  have hmm := @run_makeMap Try.prog
  go_enter Try.func19, Try.ntmps19
  go_wp2_with (first | (at_make; refine wpList_make_full _ rfl _ _ 50 rfl 0 20 i20 .nilIface 1 Try.underlying50 hi hz0 hz1 _ _ _ _ nk rfl rfl (by omega) (by omega) (by rw [hz2]; omega) (by unfold maxLen; omega) (Nat.zero_le _) ?_; intro w1 hown hg) | go_in)
  have hhalf0 : Hid (Half w w.heap.size nk K V 0 (fun _ => 0) w1) :=
    ⟨(Rowed.of_owns rfl hown).congr (fun i hi => by simp), fun j hj => by omega, fun j hj => by omega, fun i j hi => by omega, (Turned.of_grown hg).mono (fun _ _ e => by cases e), Nat.le_refl _⟩
  clear hown hg
  go_wp2_with fail
  generalize w.heap.size = r at hhalf0 ⊢
  go_loopw [15] (fun i wr => ∃ (k : Nat) (M : Nat → Nat), k ≤ nk ∧ i = .int .i64 k ∧ Hid (Half w r nk K V k M wr)) (fun i _ => nk - (intOf i).toNat)
  case atStart => exact ⟨0, _, Nat.zero_le _, rfl, hhalf0⟩
  case round =>
    obtain ⟨k, M, hkn, rfl, hhalf⟩ := hrel
    by_cases hlt : k < nk
    · obtain ⟨b, off, hp, hb, hcell, hK255⟩ := HK.out.kept hhalf.out.kept k hlt
      have hix := fun w => ix24 (cap := ck) hp hlt w
      obtain ⟨b2, off2, hp2, hb2, hcell2, hsz2⟩ := strs_kept HV.out hhalf.out.kept k hlt
      have hix2 := fun w => ix26 (cap := cv) hp2 hlt w
      have hcell3 := hhalf.out.row.cell hlt
      have hfr := hhalf.out.row.frozen k
      rw [if_neg (Nat.lt_irrefl k)] at hcell3
      clear hp hp2
      by_cases h0 : K k = 0
      · have hstep : Hid _ := hhalf.out.str hlt h0
        rw [h0] at hcell
        go_wp2_with fail
        go_roundw
        case rel => exact ⟨k + 1, M, by omega, by go_num, hstep⟩
        case measure => simp [intOf]; omega
      · by_cases h1 : K k = 1
        · obtain ⟨wa, hra, hma, hga, _⟩ := (Mp.made wr).store Try.underlying47 (by decide) (s := value) (by decide) (str (V k))
          have hra' : (Instr.mapUpdate 47 (.map (some wr.heap.size)) (.string ⟨#[118, 97, 108, 117, 101]⟩) (.iface 9 (.string (V k)))).run Try.prog (wr.alloc (.map #[] 0)) = .ok () wa := hra
          obtain ⟨wb, hrb, hmb, hgb, _⟩ := hma.store Try.underlying47 (by rw [size_put tidy_empty]; decide) (s := type_) (by decide) (str old)
          have hrb' : (Instr.mapUpdate 47 (.map (some wr.heap.size)) (.string ⟨#[116, 121, 112, 101]⟩) (.iface 9 (.string ⟨#[111, 108, 100]⟩))).run Try.prog wa = .ok () wb := hrb
          have hkw : Hid (Kept wr wb) := ((((Turned.refl _ _).alloc _).trans (Turned.of_grown hga) (fun j hj e => by cases e; omega)).trans (Turned.of_grown hgb) (fun j hj e => by cases e; omega))
          have hcell4 := (hhalf.out.row.kept hkw.out).cell hlt
          have hfr4 := (hhalf.out.row.kept hkw.out).frozen k
          rw [if_neg (Nat.lt_irrefl k)] at hcell4
          have hbase : base (K k) (V k) = ((DataW.map []).put (ks value) (.held (str (V k)))).put (ks type_) (.held (str old)) := by unfold base; simp [h1]
          have hstep : Hid _ := hhalf.out.map hlt h0 hkw.out (hbase ▸ hmb)
          rw [h1] at hcell
          clear hra hrb hma hmb hga hgb hbase
          go_wp2_with fail
          go_roundw
          case rel => exact ⟨k + 1, _, by omega, by go_num, hstep⟩
          case measure => simp [intOf]; omega
        · by_cases h2 : K k = 2
          · obtain ⟨wa, hra, hma, hga, _⟩ := (Mp.made wr).store Try.underlying47 (by decide) (s := display) (by decide) (str (V k))
            have hra' : (Instr.mapUpdate 47 (.map (some wr.heap.size)) (.string ⟨#[100, 105, 115, 112, 108, 97, 121]⟩) (.iface 9 (.string (V k)))).run Try.prog (wr.alloc (.map #[] 0)) = .ok () wa := hra
            have hkw : Hid (Kept wr wa) := (((Turned.refl _ _).alloc _).trans (Turned.of_grown hga) (fun j hj e => by cases e; omega))
            have hcell4 := (hhalf.out.row.kept hkw.out).cell hlt
            have hfr4 := (hhalf.out.row.kept hkw.out).frozen k
            rw [if_neg (Nat.lt_irrefl k)] at hcell4
            have hbase : base (K k) (V k) = (DataW.map []).put (ks display) (.held (str (V k))) := by unfold base; simp [h2]
            have hstep : Hid _ := hhalf.out.map hlt h0 hkw.out (hbase ▸ hma)
            rw [h2] at hcell
            clear hra hma hga hbase
            go_wp2_with fail
            go_roundw
            case rel => exact ⟨k + 1, _, by omega, by go_num, hstep⟩
            case measure => simp [intOf]; omega
          · obtain ⟨wa, hra, hma, hga, _⟩ := (Mp.made wr).store Try.underlying47 (by decide) (s := value) (by decide) (num)
            have hra' : (Instr.mapUpdate 47 (.map (some wr.heap.size)) (.string ⟨#[118, 97, 108, 117, 101]⟩) (.iface 51 (.string ⟨#[49]⟩))).run Try.prog (wr.alloc (.map #[] 0)) = .ok () wa := hra
            have hkw : Hid (Kept wr wa) := (((Turned.refl _ _).alloc _).trans (Turned.of_grown hga) (fun j hj e => by cases e; omega))
            have hcell4 := (hhalf.out.row.kept hkw.out).cell hlt
            have hfr4 := (hhalf.out.row.kept hkw.out).frozen k
            rw [if_neg (Nat.lt_irrefl k)] at hcell4
            have hbase : base (K k) (V k) = (DataW.map []).put (ks value) (.held (num)) := by unfold base; simp [h1, h2]
            have hstep : Hid _ := hhalf.out.map hlt h0 hkw.out (hbase ▸ hma)
            have e0 : ((K k : Int) == 0) = false := beq_eq_false_iff_ne.2 (by omega)
            have e1 : ((K k : Int) == 1) = false := beq_eq_false_iff_ne.2 (by omega)
            have e2 : ((K k : Int) == 2) = false := beq_eq_false_iff_ne.2 (by omega)
            clear hra hma hga hbase
            go_wp2_with fail
            go_roundw
            case rel => exact ⟨k + 1, _, by omega, by go_num, hstep⟩
            case measure => simp [intOf]; omega
    · have hob := h.out.kept hhalf.out.kept
      have hc := hob.cell
      obtain ⟨wf, hrf, hmf, hgf, _⟩ := hob.mp.store Try.underlying47 (by unfold maxLen; omega) hs (.iface 50 (.slice (some ⟨r, 0, none⟩) nk nk))
      have hfin : Hid (Laid w om D s nk K V r M wf) := by
        have hT := Turned.of_grown hgf
        have hkn' : k = nk := by omega
        have hom : om < w.heap.size := h.out.mp.lt
        have hrw := hhalf.out.rw_
        refine ⟨(hhalf.out.row.congr (fun j hj => by rw [if_pos (by omega)])).block (hT.block r hhalf.out.row.lt (fun e => by cases e; omega)), fun j hj hK => ?_, fun j hj hK => hhalf.out.new j (by omega) hK, fun i j hi hj => hhalf.out.inj i j (by omega) (by omega), hrw, (hhalf.out.kept.mono (fun _ _ e => absurd e id)).trans hT (fun j hj e => by cases e; rfl), hmf⟩
        have := hhalf.out.new j (by omega) hK
        exact hT.mp (hhalf.out.mp j (by omega) hK) (fun e => by have e2 : om = M j := Option.some.inj e; omega)
      clear hmf hgf hob
      go_wp2_with fail
      go_end0
      exact ⟨rfl, r, M, hfin.out⟩
end Go.Proofs.Qxb6603535a.Put
