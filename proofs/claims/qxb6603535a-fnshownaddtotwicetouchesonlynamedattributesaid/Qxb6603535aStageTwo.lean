import Derived.Test.Qxb6603535aStage
namespace Go.Proofs.Qxb6603535a.StageTwo
open Go.RowKit Go.Maps Go.Proofs.Qxb6603535a.Mem Go.Proofs.Qxb6603535a.Get Go.Proofs.Qxb6603535a.Bounds Go.Proofs.Qxb6603535a.Sizes Go.Proofs.Qxb6603535a.Row Go.Proofs.Qxb6603535a.Shown Go.Proofs.Qxb6603535a.AddCx Go.Proofs.Qxb6603535a.AddTo Go.Proofs.Qxb6603535a.Put Go.Proofs.Qxb6603535a.Count Go.Proofs.Qxb6603535a.Rdy_ Go.Proofs.Qxb6603535a.Lay Go.Proofs.Qxb6603535a.Stage
set_option linter.unusedVariables false

/-- The object's map with the two lists. -/
def two (a a2 : ByteArray) (r r2 n : Nat) : Dm := ((DataW.map []).put (ks a) (listV r n)).put (ks a2) (listV r2 n)

theorem two_size {a a2 : ByteArray} (h : a2 ≠ a) (r r2 n : Nat) : size (two a a2 r r2 n) = 2 := by
  unfold two
  have hne : ks a2 ≠ ks a := fun e => h (ks_inj e)
  rw [size_put (tidy_empty.put (ks_key _) _), has_put_other hne, size_put tidy_empty]
  rfl

theorem two_fst {a a2 : ByteArray} (h : a2 ≠ a) (r r2 n : Nat) : Lst (two a a2 r r2 n) a r n := by
  have hne : ks a ≠ ks a2 := fun e => h (ks_inj e).symm
  show (two a a2 r r2 n).atKey (ks a) _ = _
  unfold two
  rw [atKey_put_other hne, atKey_put_same isMap_empty (ks_key _)]
  rfl

theorem two_snd (a a2 : ByteArray) (r r2 n : Nat) : Lst (two a a2 r r2 n) a2 r2 n := atKey_put_same (isMap_empty.put _ _) (ks_key _) _ _

/-- The context of the second AddTo. -/
def cx2 (a : ByteArray) (sb ib om r n m : Nat) (S T : Nat → ByteArray) (Th : Nat → Bool) (K : Nat → Nat) (V : Nat → ByteArray) (M : Nat → Nat) (D : Dm) : Cx :=
  { attr := a, sb := sb, ib := ib, om := om, r := r, n := n, m := m, S := S, T := T, Th := Th, K := K, V := V, M := M, C := fun j => shown S T Th (base (K j) (V j)) (ownT (K j) (V j)) m, o := fun j => ownT (K j) (V j), D := D }

section
variable {w4 w6 w6b w7 w8 : World} {a a2 : ByteArray} {sb ib ob om r r2 n m : Nat} {S T : Nat → ByteArray} {Th : Nat → Bool} {K : Nat → Nat} {V : Nat → ByteArray} {M M2 : Nat → Nat} {D1 : Dm}

/-- What stands ahead of the first AddTo, with the second list laid. -/
structure Before (w6b : World) (a a2 : ByteArray) (sb ib ob om r r2 n m : Nat) (S T : Nat → ByteArray) (Th : Nat → Bool) (K : Nat → Nat) (V : Nat → ByteArray) (M M2 : Nat → Nat) (C : Nat → Dm) : Prop where
  s : Mp w6b sb ((DataW.map []).put (ks a) (.held (.map (some ib))))
  i : Mp w6b ib (inner S T Th m)
  obj : Ob w6b ob om (two a a2 r r2 n)
  lay : Lay w6b r n K V M C
  lay2 : Lay w6b r2 n K V M2 (fun j => base (K j) (V j))
  sbr : sb < r
  ibr : ib < r
  obr : ob < r
  omr : om < r
  rr2 : r < r2
  Mr2 : ∀ j, j < n → K j ≠ 0 → M j < r2

theorem before (hok : Ok (cx a sb ib om r n m S T Th K V M ((DataW.map []).put (ks a) (listV r n))) w6) (hob : Ob w6 ob om ((DataW.map []).put (ks a) (listV r n))) (lay : Lay w6 r n K V M (fun j => base (K j) (V j))) (hsb : sb < r) (hib : ib < r) (hobr : ob < r) (homr : om < r)
    (hsbo : sb ≠ om) (hibo : ib ≠ om) (hobo : ob ≠ om) (laid2 : Laid w6 om ((DataW.map []).put (ks a) (listV r n)) a2 n K V r2 M2 w6b) :
    Before w6b a a2 sb ib ob om r r2 n m S T Th K V M M2 (fun j => base (K j) (V j)) := by
  have hr2 := laid2.rw_
  have hrl := lay.row.lt
  refine ⟨laid2.turned.mp hok.s hsbo, laid2.turned.mp hok.i hibo, ⟨?_, Nat.lt_of_lt_of_le hob.lt laid2.turned.size, laid2.ob⟩, lay.turned laid2.turned (fun j e => Or.inl (by have e2 : j = om := e; omega)), Lay.of laid2, hsb, hib, hobr, homr, by omega, fun j hj hK => ?_⟩
  · rw [← hob.cell]; exact laid2.turned.cell (p := ⟨ob, 0, none⟩) hob.lt hobo
  · have := (lay.mp j hj hK).lt
    omega

/-- One AddTo more: the first list's values hold C', the second list stays. -/
theorem after {c : Cx} {w w' : World} {C : Nat → Dm} (h : Before w a a2 sb ib ob om r r2 n m S T Th K V M M2 C) (hc : c.r = r ∧ c.n = n ∧ c.K = K ∧ c.V = V ∧ c.M = M ∧ c.C = C) (out : Out c w false w') :
    Before w' a a2 sb ib ob om r r2 n m S T Th K V M M2 c.C' ∧ Turned (fun k => r < k) w w' := by
  obtain ⟨rfl, rfl, rfl, rfl, rfl, rfl⟩ := hc
  have o2 : Turned (fun k => ∃ j, j < c.n ∧ c.K j ≠ 0 ∧ k = c.M j) w w' ∧ ∀ j, j < c.n → c.K j ≠ 0 → Mp w' (c.M j) (c.C' j) := out
  have ht : Turned (fun k => c.r < k ∧ k < r2) w w' := o2.1.mono (fun k _ ⟨j, hj, hK, e⟩ => by rw [e]; exact ⟨h.lay.new j hj hK, h.Mr2 j hj hK⟩)
  have h1 := h.sbr
  have h2 := h.ibr
  have h3 := h.obr
  have h4 := h.omr
  exact ⟨⟨ht.mp h.s (fun e => by omega), ht.mp h.i (fun e => by omega), ob_turned h.obj ht (fun e => by omega) (fun e => by omega), out_lay h.lay out, h.lay2.turned ht (fun j e => Or.inl e.2), h.sbr, h.ibr, h.obr, h.omr, h.rr2, h.Mr2⟩, ht.mono (fun k _ e => e.1)⟩

theorem ok1 {w : World} (h : Before w a a2 sb ib ob om r r2 n m S T Th K V M M2 (fun j => base (K j) (V j))) (hne : a2 ≠ a) (ha : a.size ≤ maxLen) (hn : n ≤ 4096) (hm : m ≤ 4096) (hsubs : ∀ j, j < m → (S j).size ≤ maxLen ∧ S j ≠ value ∧ (T j).size ≤ 1048576) (hV : ∀ i, i < n → (V i).size ≤ 1048576) :
    Ok (cx a sb ib om r n m S T Th K V M (two a a2 r r2 n)) w :=
  okOf _ w h.s h.i h.obj.mp (two_fst hne r r2 n) ha hn hm h.lay h.sbr h.ibr h.omr (fun i hi hK => Nat.le_trans (base_size _ _) (by omega)) (fun i hi hK => ⟨base_own _ _, own_size hV hi⟩) hsubs

theorem ok2 {w : World} (h : Before w a a2 sb ib ob om r r2 n m S T Th K V M M2 (fun j => shown S T Th (base (K j) (V j)) (ownT (K j) (V j)) m)) (hne : a2 ≠ a) (ha : a.size ≤ maxLen) (hn : n ≤ 4096) (hm : m ≤ 4096) (hsubs : ∀ j, j < m → (S j).size ≤ maxLen ∧ S j ≠ value ∧ (T j).size ≤ 1048576) (hV : ∀ i, i < n → (V i).size ≤ 1048576) :
    Ok (cx2 a sb ib om r n m S T Th K V M (two a a2 r r2 n)) w := by
  have hS : ∀ j, j < m → (S j).size ≤ maxLen := fun j hj => (hsubs j hj).1
  have hno : among S m value = false := by
    cases hh : among S m value
    · rfl
    · obtain ⟨j, hj, e⟩ := (among_iff _).1 hh
      exact absurd e (hsubs j hj).2.1
  refine okOf _ w h.s h.i h.obj.mp (two_fst hne r r2 n) ha hn hm h.lay h.sbr h.ibr h.omr (fun i hi hK => ?_) (fun i hi hK => ⟨?_, own_size hV hi⟩) hsubs
  · have h1 := shown_size (S := S) (T := T) (Th := Th) (o := ownT (K i) (V i)) (base_canon (K i) (V i)) m hS
    have h2 := base_size (K i) (V i)
    show size (shown S T Th (base (K i) (V i)) (ownT (K i) (V i)) m) ≤ 8192
    omega
  · obtain ⟨v, h1, h2⟩ := base_own (K i) (V i)
    exact ⟨v, by show (shown S T Th (base (K i) (V i)) (ownT (K i) (V i)) m).atKey _ _ = _; rw [at_else hS hno, h1], h2⟩

theorem rdy1 {w : World} (hS : ∀ j, j < m → (S j).size ≤ maxLen) (hne : a2 ≠ a) (h : Before w a a2 sb ib ob om r r2 n m S T Th K V M M2 (cx2 a sb ib om r n m S T Th K V M (two a a2 r r2 n)).C') : Rdy w ob om r n m a (two a a2 r r2 n) S T Th K V M := by
  refine ⟨h.obj, two_fst hne r r2 n, h.lay.row, fun i hi hK => ?_⟩
  have h1 := h.lay.mp i hi hK
  have e : (cx2 a sb ib om r n m S T Th K V M (two a a2 r r2 n)).C' i = shown S T Th (base (K i) (V i)) (ownT (K i) (V i)) m := shown_twice hS (base_canon _ _)
  rw [e] at h1
  exact h1

theorem rdy2 {w : World} {C : Nat → Dm} (h : Before w a a2 sb ib ob om r r2 n m S T Th K V M M2 C) (S' T' : Nat → ByteArray) (Th' : Nat → Bool) : Rdy w ob om r2 n 0 a2 (two a a2 r r2 n) S' T' Th' K V M2 :=
  ⟨h.obj, two_snd a a2 r r2 n, h.lay2.row, h.lay2.mp⟩
end
end Go.Proofs.Qxb6603535a.StageTwo
