import Derived.Test.Qxb6603535aCount
import Derived.Test.Qxb6603535aBuild
namespace Go.Proofs.Qxb6603535a.Rdy_
open Go.RowKit Go.Maps Go.Proofs.Qxb6603535a.Mem Go.Proofs.Qxb6603535a.Get Go.Proofs.Qxb6603535a.Bounds Go.Proofs.Qxb6603535a.Sizes Go.Proofs.Qxb6603535a.Row Go.Proofs.Qxb6603535a.Shown Go.Proofs.Qxb6603535a.AddCx Go.Proofs.Qxb6603535a.Put Go.Proofs.Qxb6603535a.Build Go.Proofs.Qxb6603535a.Count
set_option linter.unusedVariables false

/-- A value's own text. -/
def ownT (k : Nat) (t : ByteArray) : ByteArray := if k = 1 then t else ⟨#[]⟩

/-- The object as zzShownHolds is handed it. -/
structure Rdy (w : World) (ob om r n m : Nat) (attr : ByteArray) (D : Dm) (S T : Nat → ByteArray) (Th : Nat → Bool) (K : Nat → Nat) (V : Nat → ByteArray) (M : Nat → Nat) : Prop where
  ob : Ob w ob om D
  lst : Lst D attr r n
  row : Rowed w r n (fun j => elv (K j) (V j) (M j))
  mp : ∀ i, i < n → K i ≠ 0 → Mp w (M i) (shown S T Th (base (K i) (V i)) (ownT (K i) (V i)) m)

theorem Rdy.kept {w w' : World} {ob om r n m : Nat} {attr : ByteArray} {D : Dm} {S T : Nat → ByteArray} {Th : Nat → Bool} {K : Nat → Nat} {V : Nat → ByteArray} {M : Nat → Nat} (h : Rdy w ob om r n m attr D S T Th K V M) (k : Kept w w') : Rdy w' ob om r n m attr D S T Th K V M :=
  ⟨h.ob.kept k, h.lst, h.row.kept k, fun i hi hK => k.mp (h.mp i hi hK) id⟩

theorem bytes_beq (a b : ByteArray) : (a.toList == b.toList) = decide (a = b) := by
  rw [Bool.eq_iff_iff, beq_iff_eq, decide_eq_true_eq, ByteArray.toList_eq, ByteArray.toList_eq]
  constructor
  · exact fun h => WideShapes.bytes_inj h
  · intro h; rw [h]

theorem last_step (S : Nat → ByteArray) (x k : Nat) (hk : k < x) : lastB S (x + 1) k = (lastB S x k && !decide (S x = S k)) := by
  rw [Bool.eq_iff_iff]
  unfold lastB
  simp only [Bool.and_eq_true, decide_eq_true_eq, Bool.not_eq_true', decide_eq_false_iff_not]
  constructor
  · intro h
    exact ⟨fun y hy => h y (by omega), h x (by omega) hk⟩
  · rintro ⟨h1, h2⟩ y hy hlt
    rcases Nat.lt_or_ge y x with h' | h'
    · exact h1 y h' hlt
    · rw [show y = x by omega]; exact h2

theorem last_start (S : Nat → ByteArray) (k : Nat) : lastB S (k + 1) k = true := by
  unfold lastB
  exact decide_eq_true (fun y hy hlt => by omega)

theorem tl_type : type_.toList = [116, 121, 112, 101] := (ByteArray.toList_eq _).trans rfl
theorem tl_display : display.toList = [100, 105, 115, 112, 108, 97, 121] := (ByteArray.toList_eq _).trans rfl

section
variable {w : World} {ob om r n m : Nat} {attr : ByteArray} {D : Dm} {S T : Nat → ByteArray} {Th : Nat → Bool} {K : Nat → Nat} {V : Nat → ByteArray} {M : Nat → Nat}

theorem Rdy.str (h : Rdy w ob om r n m attr D S T Th K V M) (ha : attr.size ≤ maxLen) {i : Nat} (hi : i < n) (hK : K i = 0) (w' : World) (k : Kept w w') :
    Calls Try.prog 29 #[.pointer (some ⟨ob, 0, none⟩), .string attr, .int .i64 i] w' fun e w2 => e = .returned (.tuple #[.string (V i), .bool true]) ∧ Kept w w2 := by
  have h' := h.kept k
  have hc := h'.row.cell hi
  unfold elv at hc
  rw [if_pos hK] at hc
  refine (elemString w' ob om D h'.ob attr ha r n i h'.lst hi (V i) hc).mono ?_
  rintro e w2 ⟨rfl, k2⟩
  exact ⟨rfl, k.trans k2 (fun _ _ e => e)⟩

theorem Rdy.len0 (h : Rdy w ob om r n m attr D S T Th K V M) (ha : attr.size ≤ maxLen) {i : Nat} (hi : i < n) (hK : K i = 0) (w' : World) (k : Kept w w') :
    Calls Try.prog 30 #[.pointer (some ⟨ob, 0, none⟩), .string attr, .int .i64 i] w' fun e w2 => e = .returned (.int .i64 (-1)) ∧ Kept w w2 := by
  have h' := h.kept k
  have hc := h'.row.cell hi
  unfold elv at hc
  rw [if_pos hK] at hc
  refine (elemLen_str w' ob om D h'.ob attr ha r n i h'.lst hi (V i) hc).mono ?_
  rintro e w2 ⟨rfl, k2⟩
  exact ⟨rfl, k.trans k2 (fun _ _ e => e)⟩

theorem Rdy.len (h : Rdy w ob om r n m attr D S T Th K V M) (ha : attr.size ≤ maxLen) {i : Nat} (hi : i < n) (hK : K i ≠ 0) {z : Nat} (hz : size (shown S T Th (base (K i) (V i)) (ownT (K i) (V i)) m) = z) (w' : World) (k : Kept w w') :
    Calls Try.prog 30 #[.pointer (some ⟨ob, 0, none⟩), .string attr, .int .i64 i] w' fun e w2 => e = .returned (.int .i64 z) ∧ Kept w w2 := by
  have h' := h.kept k
  have hc := h'.row.cell hi
  unfold elv at hc
  rw [if_neg hK] at hc
  refine (elemLen_map w' ob om D h'.ob attr ha r n i h'.lst hi (M i) _ hc (h'.mp i hi hK)).mono ?_
  rintro e w2 ⟨rfl, k2⟩
  exact ⟨by rw [hz], k.trans k2 (fun _ _ e => e)⟩

theorem Rdy.mem (h : Rdy w ob om r n m attr D S T Th K V M) (ha : attr.size ≤ maxLen) {i : Nat} (hi : i < n) (hK : K i ≠ 0) {s : ByteArray} (hs : s.size ≤ maxLen) {t : ByteArray}
    (hat : (shown S T Th (base (K i) (V i)) (ownT (K i) (V i)) m).atKey (ks s) (.held .nilIface) = .held (Shown.str t)) (hh : has (shown S T Th (base (K i) (V i)) (ownT (K i) (V i)) m) (ks s) = true) (w' : World) (k : Kept w w') :
    Calls Try.prog 31 #[.pointer (some ⟨ob, 0, none⟩), .string attr, .int .i64 i, .string s] w' fun e w2 => e = .returned (.tuple #[.string t, .bool true, .bool true]) ∧ Kept w w2 := by
  have h' := h.kept k
  have hc := h'.row.cell hi
  unfold elv at hc
  rw [if_neg hK] at hc
  refine (elemMember_str w' ob om D h'.ob attr ha r n i h'.lst hi (M i) _ hc (h'.mp i hi hK) s hs t hat).mono ?_
  rintro e w2 ⟨rfl, k2⟩
  exact ⟨by rw [hh], k.trans k2 (fun _ _ e => e)⟩

theorem Rdy.mem_no (h : Rdy w ob om r n m attr D S T Th K V M) (ha : attr.size ≤ maxLen) {i : Nat} (hi : i < n) (hK : K i ≠ 0) {s : ByteArray} (hs : s.size ≤ maxLen)
    (hat : (shown S T Th (base (K i) (V i)) (ownT (K i) (V i)) m).atKey (ks s) (.held .nilIface) = .held .nilIface) (hh : has (shown S T Th (base (K i) (V i)) (ownT (K i) (V i)) m) (ks s) = false) (w' : World) (k : Kept w w') :
    Calls Try.prog 31 #[.pointer (some ⟨ob, 0, none⟩), .string attr, .int .i64 i, .string s] w' fun e w2 => e = .returned (.tuple #[.string ⟨#[]⟩, .bool false, .bool false]) ∧ Kept w w2 := by
  have h' := h.kept k
  have hc := h'.row.cell hi
  unfold elv at hc
  rw [if_neg hK] at hc
  refine (elemMember_nil w' ob om D h'.ob attr ha r n i h'.lst hi (M i) _ hc (h'.mp i hi hK) s hs hat).mono ?_
  rintro e w2 ⟨rfl, k2⟩
  exact ⟨by rw [hh], k.trans k2 (fun _ _ e => e)⟩

theorem Rdy.mem_num (h : Rdy w ob om r n m attr D S T Th K V M) (ha : attr.size ≤ maxLen) {i : Nat} (hi : i < n) (hK : K i ≠ 0) {s : ByteArray} (hs : s.size ≤ maxLen)
    (hat : (shown S T Th (base (K i) (V i)) (ownT (K i) (V i)) m).atKey (ks s) (.held .nilIface) = .held num) (hh : has (shown S T Th (base (K i) (V i)) (ownT (K i) (V i)) m) (ks s) = true) (w' : World) (k : Kept w w') :
    Calls Try.prog 31 #[.pointer (some ⟨ob, 0, none⟩), .string attr, .int .i64 i, .string s] w' fun e w2 => e = .returned (.tuple #[.string ⟨#[]⟩, .bool false, .bool true]) ∧ Kept w w2 := by
  have h' := h.kept k
  have hc := h'.row.cell hi
  unfold elv at hc
  rw [if_neg hK] at hc
  refine (elemMember_num w' ob om D h'.ob attr ha r n i h'.lst hi (M i) _ hc (h'.mp i hi hK) s hs _ hat).mono ?_
  rintro e w2 ⟨rfl, k2⟩
  exact ⟨by rw [hh], k.trans k2 (fun _ _ e => e)⟩

theorem Rdy.num (h : Rdy w ob om r n m attr D S T Th K V M) (ha : attr.size ≤ maxLen) {i : Nat} (hi : i < n) (hK : K i ≠ 0) {s : ByteArray} (hs : s.size ≤ maxLen)
    (hat : (shown S T Th (base (K i) (V i)) (ownT (K i) (V i)) m).atKey (ks s) (.held .nilIface) = .held Put.num) (w' : World) (k : Kept w w') :
    Calls Try.prog 32 #[.pointer (some ⟨ob, 0, none⟩), .string attr, .int .i64 i, .string s] w' fun e w2 => e = .returned (.tuple #[.string ⟨#[49]⟩, .bool true]) ∧ Kept w w2 := by
  have h' := h.kept k
  have hc := h'.row.cell hi
  unfold elv at hc
  rw [if_neg hK] at hc
  refine (elemNumber w' ob om D h'.ob attr ha r n i h'.lst hi (M i) _ hc (h'.mp i hi hK) s hs _ hat).mono ?_
  rintro e w2 ⟨rfl, k2⟩
  exact ⟨rfl, k.trans k2 (fun _ _ e => e)⟩
end

theorem kept_drewN {w wr : World} (h : Kept w wr) : ∀ n, Kept w (wr.drewN n) := fun n => ⟨h.os, h.tape, h.output, h.size, h.block⟩
theorem rowed_drewN {wr : World} {r n : Nat} {f : Nat → Value} (h : Rowed wr r n f) : ∀ q, Rowed (wr.drewN q) r n f := fun q => h

end Go.Proofs.Qxb6603535a.Rdy_
