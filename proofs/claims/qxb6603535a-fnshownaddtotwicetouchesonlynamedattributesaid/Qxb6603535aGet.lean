import Derived.Test.Qxb6603535aMem
namespace Go.Proofs.Qxb6603535a.Get
open Go.RowKit Go.Maps Go.Proofs.Qxb6603535a.Mem
set_option linter.unusedVariables false

theorem zero20 (w : World) : (zeroValue 20).run Try.prog w = .ok .nilIface w := by kernel_rfl
theorem zero46 (w : World) : (zeroValue 46).run Try.prog w = .ok (.agg #[.string ⟨#[]⟩, .bool false]) w := by kernel_rfl
theorem zero44 (w : World) : (zeroValue 44).run Try.prog w = .ok (.map none) w := by kernel_rfl

theorem zero50 (w : World) : (zeroValue 50).run Try.prog w = .ok (.slice none 0 0) w := by kernel_rfl
theorem zero47 (w : World) : (zeroValue 47).run Try.prog w = .ok (.map none) w := by kernel_rfl
theorem zero9 (w : World) : (zeroValue 9).run Try.prog w = .ok (.string ⟨#[]⟩) w := by kernel_rfl
theorem zero51 (w : World) : (zeroValue 51).run Try.prog w = .ok (.string ⟨#[]⟩) w := by kernel_rfl

/-- 'x.(T)' where T is the value's own type. -/
theorem ta_yes {t : TypeId} {k : TypeDesc} (hk : Try.prog.underlying t = some k) (hi : ∀ m, k ≠ .interface m) (v : Value) (w : World) : (Instr.typeAssert (.iface t v) 20 t true).run Try.prog w = .ok (.tuple #[v, .bool true]) w := by
  unfold Instr.typeAssert
  simp only [Sem.run_bind, run_underlying hk, Result.andThen]
  cases k <;> first | (exact absurd rfl (hi _)) | simp

theorem ta_no {t u : TypeId} {k : TypeDesc} (hk : Try.prog.underlying u = some k) (hi : ∀ m, k ≠ .interface m) (hne : t ≠ u) {z : Value} (hz : ∀ w, (zeroValue u).run Try.prog w = .ok z w) (v : Value) (w : World) :
    (Instr.typeAssert (.iface t v) 20 u true).run Try.prog w = .ok (.tuple #[z, .bool false]) w := by
  unfold Instr.typeAssert
  simp only [Sem.run_bind, run_underlying hk, Result.andThen]
  cases k <;> first | (exact absurd rfl (hi _)) | simp [hne, hz, Result.andThen]

theorem ta_nil {u : TypeId} {k : TypeDesc} (hk : Try.prog.underlying u = some k) (hi : ∀ m, k ≠ .interface m) {z : Value} (hz : ∀ w, (zeroValue u).run Try.prog w = .ok z w) (w : World) :
    (Instr.typeAssert .nilIface 20 u true).run Try.prog w = .ok (.tuple #[z, .bool false]) w := by
  unfold Instr.typeAssert
  simp only [Sem.run_bind, run_underlying hk, Result.andThen]
  cases k <;> first | (exact absurd rfl (hi _)) | simp [hz, Result.andThen]

/-- The object that a pointer leads to: its one field is a map that reads as D. -/
structure Ob (w : World) (ob om : Nat) (D : Dm) : Prop where
  cell : w.cell? ⟨ob, 0, none⟩ = some (.map (some om))
  lt : ob < w.heap.size
  mp : Mp w om D

theorem Ob.kept {w w' : World} {ob om : Nat} {D : Dm} (h : Ob w ob om D) (k : Kept w w') : Ob w' ob om D :=
  ⟨by rw [← h.cell]; exact k.cell (p := ⟨ob, 0, none⟩) h.lt id, Nat.lt_of_lt_of_le h.lt k.size, k.mp h.mp id⟩

/-- The list that the object holds under the name s. -/
def Lst (D : Dm) (s : ByteArray) (r n : Nat) : Prop := D.atKey (ks s) (.held .nilIface) = .held (.iface 50 (.slice (some ⟨r, 0, none⟩) n n))

set_option maxHeartbeats 400000 in
theorem listLen (w : World) (ob om : Nat) (D : Dm) (h : Ob w ob om D) (s : ByteArray) (hs : s.size ≤ maxLen) (r n : Nat) (hv : Lst D s r n) :
    Calls Try.prog 28 #[.pointer (some ⟨ob, 0, none⟩), .string s] w fun e w' => e = .returned (.int .i64 n) ∧ Kept w w' := by
  have hc := h.cell
  have hl := h.mp.look Try.underlying47 zero20 hs hv
  have ta := ta_yes Try.underlying50 (by simp)
  go_enter Try.func28, Try.ntmps28
  go_wp2_with fail
  go_ret
  exact ⟨rfl, Turned.refl _ _⟩

set_option maxHeartbeats 400000 in
theorem objLen (w : World) (ob om : Nat) (D : Dm) (h : Ob w ob om D) :
    Calls Try.prog 21 #[.pointer (some ⟨ob, 0, none⟩)] w fun e w' => e = .returned (.int .i64 (size D)) ∧ Kept w w' := by
  have hc := h.cell
  have hl := h.mp.len Try.underlying47
  go_enter Try.func21, Try.ntmps21
  go_wp2_with fail
  go_ret
  exact ⟨rfl, Turned.refl _ _⟩

set_option maxHeartbeats 400000 in
theorem elemString (w : World) (ob om : Nat) (D : Dm) (h : Ob w ob om D) (s : ByteArray) (hs : s.size ≤ maxLen) (r n i : Nat) (hv : Lst D s r n) (hi : i < n) (t : ByteArray) (ht : w.cell? ⟨r, i, none⟩ = some (.iface 9 (.string t))) :
    Calls Try.prog 29 #[.pointer (some ⟨ob, 0, none⟩), .string s, .int .i64 i] w fun e w' => e = .returned (.tuple #[.string t, .bool true]) ∧ Kept w w' := by
  have hc := h.cell
  have hl := h.mp.look Try.underlying47 zero20 hs hv
  have ta := ta_yes Try.underlying50 (by simp)
  have tb := ta_yes Try.underlying9 (by simp)
  go_enter Try.func29, Try.ntmps29
  go_wp2_with fail
  go_ret2
  exact ⟨rfl, Turned.refl _ _⟩

set_option maxHeartbeats 400000 in
theorem elemLen_str (w : World) (ob om : Nat) (D : Dm) (h : Ob w ob om D) (s : ByteArray) (hs : s.size ≤ maxLen) (r n i : Nat) (hv : Lst D s r n) (hi : i < n) (t : ByteArray) (ht : w.cell? ⟨r, i, none⟩ = some (.iface 9 (.string t))) :
    Calls Try.prog 30 #[.pointer (some ⟨ob, 0, none⟩), .string s, .int .i64 i] w fun e w' => e = .returned (.int .i64 (-1)) ∧ Kept w w' := by
  have hc := h.cell
  have hl := h.mp.look Try.underlying47 zero20 hs hv
  have ta := ta_yes Try.underlying50 (by simp)
  have tb := ta_no (t := 9) Try.underlying47 (by simp) (by decide) zero47
  go_enter Try.func30, Try.ntmps30
  go_wp2_with fail
  go_ret
  exact ⟨rfl, Turned.refl _ _⟩

set_option maxHeartbeats 400000 in
theorem elemLen_map (w : World) (ob om : Nat) (D : Dm) (h : Ob w ob om D) (s : ByteArray) (hs : s.size ≤ maxLen) (r n i : Nat) (hv : Lst D s r n) (hi : i < n) (b : Nat) (E : Dm) (ht : w.cell? ⟨r, i, none⟩ = some (.iface 47 (.map (some b)))) (hE : Mp w b E) :
    Calls Try.prog 30 #[.pointer (some ⟨ob, 0, none⟩), .string s, .int .i64 i] w fun e w' => e = .returned (.int .i64 (size E)) ∧ Kept w w' := by
  have hc := h.cell
  have hl := h.mp.look Try.underlying47 zero20 hs hv
  have ta := ta_yes Try.underlying50 (by simp)
  have tb := ta_yes Try.underlying47 (by simp)
  have hl2 := hE.len Try.underlying47
  go_enter Try.func30, Try.ntmps30
  go_wp2_with fail
  go_ret
  exact ⟨rfl, Turned.refl _ _⟩

set_option maxHeartbeats 400000 in
theorem elemMember_str (w : World) (ob om : Nat) (D : Dm) (h : Ob w ob om D) (s : ByteArray) (hs : s.size ≤ maxLen) (r n i : Nat) (hv : Lst D s r n) (hi : i < n) (b : Nat) (E : Dm) (ht : w.cell? ⟨r, i, none⟩ = some (.iface 47 (.map (some b)))) (hE : Mp w b E) (k : ByteArray) (hk : k.size ≤ maxLen) (t : ByteArray) (hat : E.atKey (ks k) (.held .nilIface) = .held (.iface 9 (.string t))) :
    Calls Try.prog 31 #[.pointer (some ⟨ob, 0, none⟩), .string s, .int .i64 i, .string k] w fun e w' => e = .returned (.tuple #[.string t, .bool true, .bool (has E (ks k))]) ∧ Kept w w' := by
  have hc := h.cell
  have hl := h.mp.look Try.underlying47 zero20 hs hv
  have ta := ta_yes Try.underlying50 (by simp)
  have tb := ta_yes Try.underlying47 (by simp)
  have tc := ta_yes Try.underlying9 (by simp)
  have hl2 := hE.look_ok Try.underlying47 zero20 hk hat
  go_enter Try.func31, Try.ntmps31
  go_wp2_with fail
  go_ret3
  exact ⟨rfl, Turned.refl _ _⟩

set_option maxHeartbeats 400000 in
theorem elemMember_nil (w : World) (ob om : Nat) (D : Dm) (h : Ob w ob om D) (s : ByteArray) (hs : s.size ≤ maxLen) (r n i : Nat) (hv : Lst D s r n) (hi : i < n) (b : Nat) (E : Dm) (ht : w.cell? ⟨r, i, none⟩ = some (.iface 47 (.map (some b)))) (hE : Mp w b E) (k : ByteArray) (hk : k.size ≤ maxLen) (hat : E.atKey (ks k) (.held .nilIface) = .held .nilIface) :
    Calls Try.prog 31 #[.pointer (some ⟨ob, 0, none⟩), .string s, .int .i64 i, .string k] w fun e w' => e = .returned (.tuple #[.string ⟨#[]⟩, .bool false, .bool (has E (ks k))]) ∧ Kept w w' := by
  have hc := h.cell
  have hl := h.mp.look Try.underlying47 zero20 hs hv
  have ta := ta_yes Try.underlying50 (by simp)
  have tb := ta_yes Try.underlying47 (by simp)
  have tc := ta_nil Try.underlying9 (by simp) zero9
  have hl2 := hE.look_ok Try.underlying47 zero20 hk hat
  go_enter Try.func31, Try.ntmps31
  go_wp2_with fail
  go_ret3
  exact ⟨rfl, Turned.refl _ _⟩

set_option maxHeartbeats 400000 in
theorem elemMember_num (w : World) (ob om : Nat) (D : Dm) (h : Ob w ob om D) (s : ByteArray) (hs : s.size ≤ maxLen) (r n i : Nat) (hv : Lst D s r n) (hi : i < n) (b : Nat) (E : Dm) (ht : w.cell? ⟨r, i, none⟩ = some (.iface 47 (.map (some b)))) (hE : Mp w b E) (k : ByteArray) (hk : k.size ≤ maxLen) (t : ByteArray) (hat : E.atKey (ks k) (.held .nilIface) = .held (.iface 51 (.string t))) :
    Calls Try.prog 31 #[.pointer (some ⟨ob, 0, none⟩), .string s, .int .i64 i, .string k] w fun e w' => e = .returned (.tuple #[.string ⟨#[]⟩, .bool false, .bool (has E (ks k))]) ∧ Kept w w' := by
  have hc := h.cell
  have hl := h.mp.look Try.underlying47 zero20 hs hv
  have ta := ta_yes Try.underlying50 (by simp)
  have tb := ta_yes Try.underlying47 (by simp)
  have tc := ta_no (t := 51) Try.underlying9 (by simp) (by decide) zero9
  have hl2 := hE.look_ok Try.underlying47 zero20 hk hat
  go_enter Try.func31, Try.ntmps31
  go_wp2_with fail
  go_ret3
  exact ⟨rfl, Turned.refl _ _⟩

set_option maxHeartbeats 400000 in
theorem elemNumber (w : World) (ob om : Nat) (D : Dm) (h : Ob w ob om D) (s : ByteArray) (hs : s.size ≤ maxLen) (r n i : Nat) (hv : Lst D s r n) (hi : i < n) (b : Nat) (E : Dm) (ht : w.cell? ⟨r, i, none⟩ = some (.iface 47 (.map (some b)))) (hE : Mp w b E) (k : ByteArray) (hk : k.size ≤ maxLen) (t : ByteArray) (hat : E.atKey (ks k) (.held .nilIface) = .held (.iface 51 (.string t))) :
    Calls Try.prog 32 #[.pointer (some ⟨ob, 0, none⟩), .string s, .int .i64 i, .string k] w fun e w' => e = .returned (.tuple #[.string t, .bool true]) ∧ Kept w w' := by
  have hc := h.cell
  have hl := h.mp.look Try.underlying47 zero20 hs hv
  have ta := ta_yes Try.underlying50 (by simp)
  have tb := ta_yes Try.underlying47 (by simp)
  have tc := ta_yes Try.underlying51 (by simp)
  have hl2 := hE.look Try.underlying47 zero20 hk hat
  go_enter Try.func32, Try.ntmps32
  go_wp2_with fail
  go_ret2
  exact ⟨rfl, Turned.refl _ _⟩

/-- The string at place i, or the empty one. -/
def strAt (n : Nat) (f : Nat → ByteArray) (i : Nat) : ByteArray := if i < n then f i else ⟨#[]⟩

set_option maxHeartbeats 400000 in
theorem zzAt (w : World) (v : Value) (n : Nat) (f : Nat → ByteArray) (h : Rd w v n (fun i => .string (f i))) (i : Nat) (hi : i ≤ maxLen) :
    Calls Try.prog 26 #[v, .int .i64 i] w fun e w' => e = .returned (.string (strAt n f i)) ∧ w' = w := by
  obtain ⟨p, cap, rfl, hn, hc⟩ := h
  unfold maxLen at hi hn
  by_cases hlt : i < n
  · obtain ⟨b, off, rfl, hb, hcell⟩ := hc i hlt
    clear hc
    have e : strAt n f i = f i := if_pos hlt
    rw [e]
    go_enter Try.func26, Try.ntmps26
    go_wp2_with fail
    go_ret
    exact ⟨rfl, rfl⟩
  · clear hc
    have e : strAt n f i = ⟨#[]⟩ := if_neg hlt
    rw [e]
    go_enter Try.func26, Try.ntmps26
    go_wp2_with fail
    go_ret
    exact ⟨rfl, rfl⟩

set_option maxHeartbeats 400000 in
theorem newObj (w : World) :
    Calls Try.prog 18 #[] w fun e w' => ∃ ob om, e = .returned (.pointer (some ⟨ob, 0, none⟩)) ∧ Ob w' ob om (.map []) ∧ ob ≠ om ∧ w.heap.size ≤ ob ∧ w.heap.size ≤ om ∧ Kept w w' := by
  have hmm := @run_makeMap Try.prog
  go_enter Try.func18, Try.ntmps18
  go_wp2_with fail
  go_ret
  refine ⟨w.heap.size + 1, w.heap.size, rfl, ⟨?_, by simp, (Mp.made w).block (Below.heap_alloc _ _ _ (by simp))⟩, by omega, by omega, Nat.le_refl _, ((Turned.refl _ _).alloc _).alloc _⟩
  have e : (w.alloc (Obj.map #[] 0)).heap.size = w.heap.size + 1 := by simp
  rw [← e, World.cell?_alloc_new]; rfl

set_option maxHeartbeats 400000 in
theorem ofText (w : World) (t : ByteArray) (ht : t.size ≤ 1048576) (b : Nat) (E : Dm) (hE : Mp w b E) (o : ByteArray) (ho : o.size ≤ 1048576) (v : Value) (hat : E.atKey (ks ⟨#[118, 97, 108, 117, 101]⟩) (.held .nilIface) = .held v)
    (hv : v = .iface 9 (.string o) ∨ o = ⟨#[]⟩ ∧ (v = .nilIface ∨ ∃ u, v = .iface 51 u)) (th : Bool) :
    Calls Try.prog 33 #[.agg #[.string t, .bool th], .map (some b)] w fun e w' => e = .returned (.string (if th then t ++ o else t)) ∧ Kept w w' := by
  have hl2 := (hE.block (w' := w.alloc (.cells #[.string t, .bool th] 46)) (Below.heap_alloc _ _ _ hE.lt)).look Try.underlying47 zero20 (by decide) hat
  have tc := ta_yes Try.underlying9 (by simp)
  have td := ta_nil Try.underlying9 (by simp) zero9
  have te := ta_no (t := 51) Try.underlying9 (by simp) (by decide) zero9
  cases th
  · go_enter Try.func33, Try.ntmps33
    go_wp2_with fail
    go_ret
    exact ⟨rfl, (Turned.refl _ _).alloc _⟩
  · rcases hv with rfl | ⟨rfl, rfl | ⟨u, rfl⟩⟩
    all_goals
      go_enter Try.func33, Try.ntmps33
      go_wp2_with fail
      go_ret
      exact ⟨rfl, (Turned.refl _ _).alloc _⟩
end Go.Proofs.Qxb6603535a.Get
