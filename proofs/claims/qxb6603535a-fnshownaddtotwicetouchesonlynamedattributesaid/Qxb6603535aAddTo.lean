import Derived.Test.Qxb6603535aAddCx
namespace Go.Proofs.Qxb6603535a.AddTo
open Go.RowKit Go.Maps Go.Proofs.Qxb6603535a.Mem Go.Proofs.Qxb6603535a.Get Go.Proofs.Qxb6603535a.Shown Go.Proofs.Qxb6603535a.AddCx
set_option linter.unusedVariables false

theorem Ds_has (c : Cx) {k : Lit} (h : has c.Ds k = true) : k = ks c.attr := by
  by_cases e : k = ks c.attr
  · exact e
  · unfold Cx.Ds at h
    rw [has_put_other e] at h
    cases h

theorem Ds_at (c : Cx) (z : Dm) : c.Ds.atKey (ks c.attr) z = .held (.map (some c.ib)) := atKey_put_same isMap_empty (ks_key _) _ _

theorem left_has {w : World} {b r n : Nat} {D : Dm} {left : Lit → Bool} {cnt : Nat} (h : w.ranges Try.prog 9 raw b r n D left cnt) {k : Lit} (hl : left k = true) : has D k = true := by
  obtain ⟨es, clock, since, seen, c0, _, F, _, rfl, _, _, _, _, h2, _⟩ := h
  obtain ⟨x, hx, rfl⟩ := h2 k hl
  obtain ⟨y, hy⟩ := F.reads x hx
  exact List.any_eq_true.2 ⟨_, mem_sorted.2 (List.mem_map.2 ⟨x, hx, rfl⟩), WideAt.sameKey_self (by rw [WideElems.rg_of hy]; exact law.key (WideElems.rd_key hy))⟩

/-- What stands when AddTo is done, or not yet begun. -/
def Out (c : Cx) (w : World) (b : Bool) (wr : World) : Prop :=
  if b then Kept w wr else Turned (fun k => ∃ j, j < c.n ∧ c.K j ≠ 0 ∧ k = c.M j) w wr ∧ ∀ j, j < c.n → c.K j ≠ 0 → Mp wr (c.M j) (c.C' j)

theorem Out.of_mid {c : Cx} {w wr : World} {r1 N1 : Nat} {l1 : Lit → Bool} {c1 : Nat} (h : Mid c w r1 N1 l1 c1 c.n wr) : Out c w false wr :=
  ⟨h.turned.mono (fun k _ ⟨j, _, h2, h3, e⟩ => ⟨j, h2, h3, e⟩), fun j hj hk => h.before j hj hj hk⟩

set_option maxHeartbeats 4000000 in
theorem addTo (c : Cx) (w : World) (ok : Hid (Ok c w)) :
    Calls Try.prog 27 #[.map (some c.sb), .map (some c.om)] w fun e w' => e = .returned (.tuple #[]) ∧ Out c w false w' := by
  have hs : Hid (Mp w c.sb c.Ds) := ok.out.s
  have hn : c.n ≤ 4096 := ok.out.n
  have ta := ta_yes Try.underlying50 (by simp)
  have tb := ta_yes Try.underlying47 (by simp)
  have tc := ta_no (t := 9) Try.underlying47 (by simp) (by decide) zero47
  go_enter Try.func27, Try.ntmps27
  go_wp2_with (first | (at_range; refine wpList_range_own _ rfl _ 33 rfl 9 44 law Try.underlying33 raw c.sb (size c.Ds) c.Ds rfl hs.out ?_; intro w0 hrg0 hg0 hs0) | go_in)
  go_frame
  go_loopw [4] (fun _ wr => ∃ (left : Lit → Bool) (cnt : Nat), Hid (wr.ranges Try.prog 9 raw c.sb w.heap.size (size c.Ds) c.Ds left cnt) ∧ Hid (Out c w (left (ks c.attr)) wr))
    (fun _ wr => wr.rangeLeft c.sb w.heap.size)
  case atStart =>
    refine ⟨_, _, hrg0, ?_⟩
    have e : has c.Ds (ks c.attr) = true := has_put_same isMap_empty (ks_key _) _
    show Out c w (has c.Ds (ks c.attr)) w0
    rw [e]
    exact (Turned.of_grown hg0).mono (fun _ _ e => by cases e)
  case round =>
    obtain ⟨left, cnt, hrg, hst⟩ := hrel
    go_wp2_with (first
      | (at_next; refine next_law _ rfl _ rfl (fun (_ : Unit) => .map (some c.ib)) c.sb w.heap.size (size c.Ds) c.Ds left cnt (fun s v hl hat => ⟨(), by
          have e := Ds_has c (left_has hrg.out hl)
          have h2 := hat .nil
          rw [e, Ds_at] at h2
          exact (DataW.held.inj h2).symm⟩) rfl hrg.out ?_ ?_)
      | go_in)
    · intro hc0 hl0
      go_wp2
      go_end0
      refine ⟨rfl, ?_⟩
      have := hst.out
      rwa [hl0] at this
    · intro s w1 cnt1 hsz hls hat hrg1 hlt hg1 hs1 hen
      have hsA : Hid (s = c.attr) := ks_inj (Ds_has c (left_has hrg.out hls))
      have hK1 : Hid (Kept w w1) := by
        have h1 := hst.out
        rw [← hsA.out, hls] at h1
        exact Turned.trans (S := fun _ => False) h1 (Turned.of_grown hg1) (fun j hj e => by cases e; omega)
      have hmid0 : Hid (Mid c w w.heap.size (size c.Ds) (fun z => left z && !z.sameKey (ks s)) cnt1 0 w1) := Mid.start ok.out hrg1 hK1.out (Nat.le_refl _)
      have hlook : (Instr.lookup 47 (.map (some c.om)) (.string s) false).run Try.prog w1 = .ok (.iface 50 (.slice (some ⟨c.r, 0, none⟩) c.n c.n)) w1 :=
        (hK1.out.mp ok.out.ob id).look Try.underlying47 zero20 hsz (by rw [hsA.out]; exact ok.out.lst)
      have hrg1' : Hid _ := hrg1
      have hmeas : Hid (cnt1 < cnt) := hlt
      have hg1' : Hid _ := hg1
      clear hrg1 hlt hg1 hs1
      go_wp2_with fail
      clear hlook
      go_loopw [30] (fun i wr => ∃ k : Nat, k ≤ c.n ∧ i = .int .i64 k ∧ Hid (Mid c w w.heap.size (size c.Ds) (fun z => left z && !z.sameKey (ks s)) cnt1 k wr)) (fun i _ => c.n - (intOf i).toNat)
      case atStart => exact ⟨0, Nat.zero_le _, rfl, hmid0⟩
      case round =>
        obtain ⟨k, hk, rfl, hmid⟩ := hrel
        by_cases hkn : k < c.n
        · by_cases hK : c.K k = 0
          · have hcell : wr.cell? ⟨c.r, k, none⟩ = some (.iface 9 (.string (c.V k))) := by
              have := hmid.out.cell ok.out hkn
              unfold elv at this
              rwa [if_pos hK] at this
            go_wp2_with fail
            go_roundw
            case rel => exact ⟨k + 1, by omega, by go_num, hmid.out.skip hK⟩
            case measure => simp [intOf]; omega
          · have hcell : wr.cell? ⟨c.r, k, none⟩ = some (.iface 47 (.map (some (c.M k)))) := by
              have := hmid.out.cell ok.out hkn
              unfold elv at this
              rwa [if_neg hK] at this
            have hT : Hid (Mp wr c.ib c.DT) := hmid.out.texts ok.out
            go_wp2_with (first | (at_range; refine wpList_range_own _ rfl _ 44 rfl 9 46 law Try.underlying44 raw c.ib (size c.DT) c.DT rfl hT.out ?_; intro w3 hrg3 hg3 hs3) | go_in)
            go_frame
            have hst3 : Hid (St c w w.heap.size (size c.Ds) (fun z => left z && !z.sameKey (ks s)) cnt1 k wr.heap.size (size c.DT) (has c.DT) (size c.DT) (c.C k) w3) := hmid.out.range ok.out hkn hK hrg3 hg3
            clear hrg3 hg3 hs3 hcell
            generalize wr.heap.size = r3 at hst3 ⊢
            go_loopw [12] (fun _ wq => ∃ (l3 : Lit → Bool) (c3 : Nat) (E : Dm), Hid (St c w w.heap.size (size c.Ds) (fun z => left z && !z.sameKey (ks s)) cnt1 k r3 (size c.DT) l3 c3 E wq)) (fun _ wq => wq.rangeLeft c.ib r3)
            case atStart => exact ⟨_, _, _, hst3⟩
            case round =>
              obtain ⟨l3, c3, E, hst⟩ := hrel
              go_wp2_with (first
                | (at_next; refine next_law _ rfl _ rfl (fun (j : Nat) => .agg #[.string (c.T j), .bool (c.Th j)]) c.ib r3 (size c.DT) c.DT l3 c3 (fun s v hl hat => by
                    obtain ⟨j, hj, _, _, h2, _⟩ := shown_at (o := c.o k) (E := c.C k) (Shown.Mp.canonK (ok.out.mp k hkn hK)) ok.out.subsz _ (left_has hst.out.inner hl)
                    exact ⟨j, (DataW.held.inj ((hat .nil).symm.trans (h2 .nil)))⟩) rfl hst.out.inner ?_ ?_)
                | go_in)
              · intro hc0 hl0
                go_wp2_with fail
                go_roundw
                case rel => exact ⟨k + 1, by omega, by go_num, hst.out.fin ok.out hkn hK hl0⟩
                case measure => simp [intOf]; omega
              · intro s2 x w4 cnt4 hsz2 hls2 hat2 hrg4 hlt4 hg4 hs4 hen2
                have ht : (c.T x).size ≤ 1048576 := by
                  obtain ⟨j, hj, _, _, h2, _⟩ := shown_at (o := c.o k) (E := c.C k) (Shown.Mp.canonK (ok.out.mp k hkn hK)) ok.out.subsz _ (left_has hst.out.inner hls2)
                  have := DataW.held.inj ((hat2 .nil).symm.trans (h2 .nil))
                  unfold txt at this
                  simp at this
                  rw [this.1]
                  exact (ok.out.subs j hj).2.2
                have hrg4' : Hid _ := hrg4
                have hlt4' : Hid (cnt4 < c3) := hlt4
                have hg4' : Hid _ := hg4
                have hat2' : Hid _ := hat2
                clear hrg4 hlt4 hg4 hs4 hat2
                generalize hct : c.T x = t at *
                generalize hcb : c.Th x = b at *
                clear hct hcb
                obtain ⟨v, hatv, hv⟩ := hst.out.own ok.out hkn hK
                have HC : Hid (∀ w5, Mp w5 (c.M k) E → Calls Try.prog 33 #[.agg #[.string t, .bool b], .map (some (c.M k))] w5 fun e w' => e = .returned (.string (full (c.o k) t b)) ∧ Kept w5 w') :=
                  fun w5 h5 => ofText w5 t ht (c.M k) E h5 (c.o k) (ok.out.own k hkn hK).2 v hatv hv b
                have hMp4 : Hid (Mp w4 (c.M k) E) := (Turned.of_grown hg4'.out).mp hst.out.here (fun e => by
                  have e2 : r3 = c.M k := Option.some.inj e
                  have h1 := ok.out.Mlt hkn hK
                  have h2 := hst.out.r3w
                  omega)
                have hMp5 : Hid (Mp (w4.alloc (Obj.cells #[Value.string t, Value.bool b] 46)) (c.M k) E) := hMp4.out.block (Below.heap_alloc _ _ _ hMp4.out.lt)
                have hsE : Hid (size E < maxLen) := by
                  have := hst.out.sz
                  show size E < maxLen
                  unfold maxLen
                  omega
                clear hatv hv
                go_wp2_with fail
                refine (HC.out _ hMp5.out).mono ?_
                rintro e w6 ⟨rfl, hk6⟩
                obtain ⟨w7, hrun7, hmp7, hg7, hs7⟩ := (hk6.mp hMp5.out id).store Try.underlying47 hsE.out hsz2 (str (full (c.o k) t b))
                have hfin : Hid (St c w w.heap.size (size c.Ds) (fun z => left z && !z.sameKey (ks s)) cnt1 k r3 (size c.DT) (fun z => l3 z && !z.sameKey (ks s2)) cnt4 (E.put (ks s2) (.held (str (full (c.o k) t b)))) w7) :=
                  hst.out.step ok.out hkn hK hrg4'.out hlt4'.out hat2'.out hg4'.out (((Turned.refl _ _).alloc _).trans hk6 (fun _ _ e => e)) hmp7 hg7
                unfold str at hrun7
                clear hk6 hmp7 hg7 hs7
                go_wp2_with fail
                go_roundw
                case rel => exact ⟨_, _, _, hfin⟩
                case measure => rw [hfin.out.inner.left_eq, hst.out.inner.left_eq]; exact hlt4'.out
        · go_wp2_with fail
          have e : k = c.n := by omega
          subst e
          go_roundw
          case rel =>
            refine ⟨_, _, hmid.out.outer, ?_⟩
            have e2 : (left (ks c.attr) && !(ks c.attr).sameKey (ks s)) = false := by rw [hsA.out, WideAt.sameKey_self (ks_key _)]; simp
            show Out c w (left (ks c.attr) && !(ks c.attr).sameKey (ks s)) _
            rw [e2]
            exact Out.of_mid hmid.out
          case measure => rw [hmid.out.outer.left_eq, hrg.out.left_eq]; exact hmeas.out

set_option maxHeartbeats 400000 in
theorem zzAddTo (c : Cx) (w : World) (ok : Ok c w) (ob : Nat) (hob : w.cell? ⟨ob, 0, none⟩ = some (.map (some c.om))) :
    Calls Try.prog 20 #[.map (some c.sb), .pointer (some ⟨ob, 0, none⟩)] w fun e w' => e = .returned (.tuple #[]) ∧ Out c w false w' := by
  have hok : Hid (Ok c w) := ok
  go_enter Try.func20, Try.ntmps20
  go_wp2_with fail
  refine (addTo c w hok).mono ?_
  rintro e w' ⟨rfl, h⟩
  go_wp2_with fail
  go_end0
  exact ⟨rfl, h⟩
end Go.Proofs.Qxb6603535a.AddTo
