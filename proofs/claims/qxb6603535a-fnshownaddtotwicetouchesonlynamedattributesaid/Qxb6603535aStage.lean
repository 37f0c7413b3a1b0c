import Derived.Test.Qxb6603535aLay
namespace Go.Proofs.Qxb6603535a.Stage
open Go.RowKit Go.Maps Go.Proofs.Qxb6603535a.Mem Go.Proofs.Qxb6603535a.Get Go.Proofs.Qxb6603535a.Bounds Go.Proofs.Qxb6603535a.Sizes Go.Proofs.Qxb6603535a.Row Go.Proofs.Qxb6603535a.Shown Go.Proofs.Qxb6603535a.AddCx Go.Proofs.Qxb6603535a.AddTo Go.Proofs.Qxb6603535a.Put Go.Proofs.Qxb6603535a.Count Go.Proofs.Qxb6603535a.Rdy_ Go.Proofs.Qxb6603535a.Lay
set_option linter.unusedVariables false

theorem rowed_strs {w : World} {r n : Nat} {f : Nat → ByteArray} (h : Rowed w r n (fun i => .string (f i))) (hf : ∀ i, i < n → (f i).size ≤ maxLen) : Strs w (some ⟨r, 0, none⟩) n f :=
  fun i hi => ⟨r, 0, rfl, h.lt, by rw [Nat.zero_add]; exact h.cell hi, hf i hi⟩

/-- The list under s, as the object's map holds it. -/
def listV (r n : Nat) : Dm := .held (.iface 50 (.slice (some ⟨r, 0, none⟩) n n))

/-- The context of an AddTo over a list as it was built. -/
def cx (a : ByteArray) (sb ib om r n m : Nat) (S T : Nat → ByteArray) (Th : Nat → Bool) (K : Nat → Nat) (V : Nat → ByteArray) (M : Nat → Nat) (D : Dm) : Cx :=
  { attr := a, sb := sb, ib := ib, om := om, r := r, n := n, m := m, S := S, T := T, Th := Th, K := K, V := V, M := M, C := fun j => base (K j) (V j), o := fun j => ownT (K j) (V j), D := D }

section
variable {w4 w5 w6 w7 : World} {a : ByteArray} {sb ib ob om r n m : Nat} {S T : Nat → ByteArray} {Th : Nat → Bool} {K : Nat → Nat} {V : Nat → ByteArray} {M : Nat → Nat}

theorem own_size (hV : ∀ i, i < n → (V i).size ≤ 1048576) {i : Nat} (hi : i < n) : (ownT (K i) (V i)).size ≤ 1048576 := by
  unfold ownT
  split
  · exact hV i hi
  · exact Nat.zero_le _

theorem stage (h4s : Mp w4 sb ((DataW.map []).put (ks a) (.held (.map (some ib))))) (h4i : Mp w4 ib (inner S T Th m)) (k45 : Kept w4 w5) (hob : Ob w5 ob om (.map [])) (hobw : w4.heap.size ≤ ob) (homw : w4.heap.size ≤ om) (hne : ob ≠ om)
    (laid : Laid w5 om (.map []) a n K V r M w6) (ha : a.size ≤ maxLen) (hn : n ≤ 4096) (hm : m ≤ 4096) (hsubs : ∀ j, j < m → (S j).size ≤ maxLen ∧ S j ≠ value ∧ (T j).size ≤ 1048576) (hV : ∀ i, i < n → (V i).size ≤ 1048576) :
    Ok (cx a sb ib om r n m S T Th K V M ((DataW.map []).put (ks a) (listV r n))) w6 ∧ w6.cell? ⟨ob, 0, none⟩ = some (.map (some om)) ∧ Kept w4 w6 ∧ Lay w6 r n K V M (fun j => base (K j) (V j)) ∧ Ob w6 ob om ((DataW.map []).put (ks a) (listV r n)) := by
  have hsb := h4s.lt
  have hib := h4i.lt
  have h45 := k45.size
  have hrw := laid.rw_
  have homl := hob.mp.lt
  have hobl := hob.lt
  have hs5 := k45.mp h4s id
  have hi5 := k45.mp h4i id
  have hcell : w6.cell? ⟨ob, 0, none⟩ = some (.map (some om)) := by
    rw [← hob.cell]; exact laid.turned.cell (p := ⟨ob, 0, none⟩) hobl (fun e => hne e)
  refine ⟨okOf _ w6 (laid.turned.mp hs5 (fun e => by have e2 : sb = om := e; omega)) (laid.turned.mp hi5 (fun e => by have e2 : ib = om := e; omega)) laid.ob (atKey_put_same isMap_empty (ks_key _) _ _) ha hn hm (Lay.of laid) (by show sb < r; omega) (by show ib < r; omega) (by show om < r; omega)
    (fun i hi hK => Nat.le_trans (base_size _ _) (by omega)) (fun i hi hK => ⟨base_own _ _, own_size hV hi⟩) hsubs, hcell, ?_, Lay.of laid, ⟨hcell, Nat.lt_of_lt_of_le hobl laid.turned.size, laid.ob⟩⟩
  exact k45.trans laid.turned (fun j hj e => by have e2 : j = om := e; omega)

theorem stage2 {D : Dm} (hok : Ok (cx a sb ib om r n m S T Th K V M D) w6) (hob : Ob w6 ob om D) (lay : Lay w6 r n K V M (fun j => base (K j) (V j))) (hobr : ob < r) (homr : om < r) (out : Out (cx a sb ib om r n m S T Th K V M D) w6 false w7) :
    Rdy w7 ob om r n m a D S T Th K V M ∧ Turned (fun k => r < k) w6 w7 := by
  have hl := out_lay (c := cx a sb ib om r n m S T Th K V M D) lay out
  have ht := out_turned (c := cx a sb ib om r n m S T Th K V M D) lay out
  refine ⟨⟨ob_turned hob ht (fun e => ?_) (fun e => ?_), hok.lst, hl.row, fun i hi hK => hl.mp i hi hK⟩, ht⟩
  · have e2 : r < ob := e
    omega
  · have e2 : r < om := e
    omega
end
end Go.Proofs.Qxb6603535a.Stage
