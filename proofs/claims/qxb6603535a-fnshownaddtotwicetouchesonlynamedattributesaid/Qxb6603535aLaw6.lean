import Derived.Test.Qxb6603535aHolds
import Derived.Test.Qxb6603535aStageTwo
import Derived.Test.Qxb6603535aLaw5
import Derived.Test.Qxb6603535aCopy
namespace Go.Proofs.Qxb6603535a.Law6
open Go.RowKit Go.Maps Go.Proofs.Qxb6603535a.Mem Go.Proofs.Qxb6603535a.Get Go.Proofs.Qxb6603535a.Bounds Go.Proofs.Qxb6603535a.Sizes Go.Proofs.Qxb6603535a.Row Go.Proofs.Qxb6603535a.Shown Go.Proofs.Qxb6603535a.AddCx Go.Proofs.Qxb6603535a.AddTo Go.Proofs.Qxb6603535a.Put Go.Proofs.Qxb6603535a.Build Go.Proofs.Qxb6603535a.Count Go.Proofs.Qxb6603535a.Rdy_ Go.Proofs.Qxb6603535a.Lay Go.Proofs.Qxb6603535a.Copy Go.Proofs.Qxb6603535a.Stage Go.Proofs.Qxb6603535a.StageTwo Go.Proofs.Qxb6603535a.Law5 Go.Proofs.Qxb6603535a.Holds
set_option linter.unusedVariables false

set_option maxRecDepth 20000 in
set_option maxHeartbeats 8000000 in
theorem law6 (w : World) (a a2 : ByteArray) (ha : a.size ≤ maxLen) (ha2 : a2.size ≤ maxLen) (ps pt ph pk pv : Option Addr) (ns nt nh nk nv cs ct ch ck cv : Nat) (hs : ns ≤ maxLen) (ht : nt ≤ maxLen) (hh : nh ≤ maxLen) (hk : nk ≤ maxLen) (hv : nv ≤ maxLen) (hpk : pk = none → nk = 0 ∧ ck = 0)
    (S T V : Nat → ByteArray) (B : Nat → Bool) (K : Nat → Nat) (HS : Hid (Strs w ps ns S)) (HT : Hid (Strs w pt nt T)) (HV : Hid (Strs w pv nv V)) (HB : Hid (Bools w ph nh B)) (HK : Hid (Nats w pk nk K)) :
    Calls Try.prog 6 #[.string a, .string a2, .slice ps ns cs, .slice pt nt ct, .slice ph nh ch, .slice pk nk ck, .slice pv nv cv] w fun e w' => e = .returned (.bool true) ∧ Below w.heap.size w w' := by
  have hpk' : Hid _ := hpk
  have ha' : Hid _ := ha
  have ha2' : Hid _ := ha2
  have H13 : Hid (∀ _ : Unit, Calls Try.prog 23 #[.string a, .string a2, .slice ps ns cs, .slice pt nt ct, .slice ph nh ch, .slice pk nk ck, .slice pv nv cv] w (BP w nt nv T V)) := fun _ => bytes6 w a ha a2 ha2 ps pt ph pk pv ns nt nh nk nv cs ct ch ck cv hs ht hh hk hv S T V HS HT HV
  have H14 : Hid (∀ _ : Unit, Calls Try.prog 14 #[.string a, .string a2, .slice ps ns cs, .slice pt nt ct, .slice ph nh ch, .slice pk nk ck, .slice pv nv cv] w (SomeSize w)) := fun _ => shownSize w a a2 ha ha2 ps pt ph pk pv ns nt nh nk nv cs ct ch ck cv hs ht hh hk hv S T V HS HT HV
  unfold maxLen at ha ha2 hs ht hh hk hv
  clear hpk
  go_enter Try.func6, Try.ntmps6
  go_wp2_with fail
  refine (H13.out ()).mono ?_
  rintro e w' ⟨b, rfl, rfl, hb⟩
  have hb' : Hid _ := hb
  clear hb
  cases b
  · go_wp2_with fail
    go_ret
    exact ⟨rfl, Below.refl _ _⟩
  have hTV : Hid ((∀ i, i < nt → (T i).size ≤ 1048576) ∧ ∀ i, i < nv → (V i).size ≤ 1048576) := hb'.out rfl
  clear hb'
  go_wp2_with fail
  all_goals first
    | (go_ret; exact ⟨rfl, Below.refl _ _⟩)
    | skip
  refine (H14.out ()).mono ?_
  rintro e w' ⟨y, y0, y1, rfl, rfl⟩
  go_wp2_with fail
  all_goals first
    | (go_ret; exact ⟨rfl, Below.refl _ _⟩)
    | skip
  have l1 : ns ≤ 4096 := by omega
  have l2 : nt ≤ 4096 := by omega
  have l3 : nh ≤ 4096 := by omega
  have l4 : nk ≤ 4096 := by omega
  have l5 : nv ≤ 4096 := by omega
  refine (unfoldFits w' ps pt ph pk pv ns nt nh nk nv cs ct ch ck cv l1 l2 l3 l4 l5 T V B HT HV HB hTV.out.1 hTV.out.2).mono ?_
  rintro e w' ⟨b2, rfl, rfl⟩
  cases b2
  · go_wp2_with fail
    go_ret
    exact ⟨rfl, Below.refl _ _⟩
  by_cases hother : a2 = a
  · have he : (a2.toList == a.toList) = true := by rw [bytes_beq]; exact decide_eq_true hother
    clear hother
    go_wp2_with fail
    go_ret
    exact ⟨rfl, Below.refl _ _⟩
  have he : (a2.toList == a.toList) = false := by rw [bytes_beq]; exact decide_eq_false hother
  have hother' : Hid (a2 ≠ a) := hother
  clear hother
  obtain ⟨i5, hi, hz0, hz1, hz2⟩ := info_parts info5
  cases hpc : pk with
  | none =>
    obtain ⟨e1, e2⟩ := hpk'.out hpc
    subst hpc
    subst e1
    subst e2
    have hk2 : Hid (Kept w' w') := Turned.refl _ _
    have HK2 : Hid (Nats w' none 0 K) := HK.out
    go_wp2_with fail
    go_loop [16] (fun i => ∃ k : Nat, k ≤ ns ∧ i = .int .i64 k ∧ Hid (∀ j, j < k → S j ≠ value)) (fun i => ns - (intOf i).toNat)
    case atStart => exact ⟨0, Nat.zero_le _, rfl, fun j hj => absurd hj (Nat.not_lt_zero j)⟩
    case round =>
      obtain ⟨k, hkn, rfl, hno⟩ := hrel
      by_cases hlt : k < ns
      · obtain ⟨b1, off1, hp, _, hcell, _⟩ := strs_kept HS.out hk2.out k hlt
        have hix := fun w => ix26 (cap := cs) hp hlt w
        clear hp
        by_cases hval : S k = value
        · have he : ((S k).toList == [118, 97, 108, 117, 101]) = true := by rw [← tl_value, bytes_beq]; exact decide_eq_true hval
          clear hval
          go_wp2_with fail
          go_ret
          exact ⟨rfl, hk2.out.below (Nat.le_refl _)⟩
        · have he : ((S k).toList == [118, 97, 108, 117, 101]) = false := by rw [← tl_value, bytes_beq]; exact decide_eq_false hval
          have hno2 : Hid (∀ j, j < k + 1 → S j ≠ value) := fun j hj => by
            rcases Nat.lt_or_ge j k with h' | h'
            · exact hno.out j h'
            · rw [show j = k by omega]; exact hval
          clear hval
          go_wp2_with fail
          go_round
          case rel => exact ⟨k + 1, by omega, by go_num, hno2⟩
          case measure => simp [intOf]; omega
      · have hno2 : Hid (∀ j, j < ns → S j ≠ value) := fun j hj => hno.out j (by omega)
        have hsubs : Hid (∀ j, j < ns → (S j).size ≤ maxLen ∧ S j ≠ value ∧ (strAt nt T j).size ≤ 1048576) := fun j hj => ⟨(by obtain ⟨_, _, _, _, _, h⟩ := HS.out j hj; exact h), hno2.out j hj, strAt_le hTV.out.1 j⟩
        have hVs : Hid (∀ i, i < 0 → (strAt nv V i).size ≤ 1048576) := fun i _ => strAt_le hTV.out.2 i
        have hval : Hid (among S ns value = false) := by
          show _ = false
          cases hh : among S ns value
          · rfl
          · obtain ⟨j, hj, e⟩ := (among_iff _).1 hh
            exact absurd e (hno2.out j hj)
        go_wp2_with fail
        refine (valueTexts w' none 0 0 l4 pv nv cv l5 V (strs_kept HV.out hk2.out)).mono ?_
        rintro e w3 ⟨rfl, hrow3, hk3⟩
        have hr3 : Hid (Strs w3 (some ⟨w'.heap.size, 0, none⟩) 0 (strAt nv V)) := rowed_strs hrow3 (fun i hi => by have := hVs.out i hi; unfold maxLen; omega)
        have hk3' : Hid (Kept w' w3) := hk3
        have hk03 : Hid (Kept w' w3) := hk2.out.trans hk3 (fun _ _ e => e)
        clear hrow3 hk3
        generalize w'.heap.size = vr at *
        go_wp2_with fail
        refine (buildShown w3 a ha'.out ps pt ph ns nt nh cs ct ch l1 l2 l3 S T B (strs_kept HS.out hk03.out) (strs_kept HT.out hk03.out) (bools_kept HB.out hk03.out)).mono ?_
        rintro e w4 ⟨sb, ib, rfl, h4s, h4i, hsb, hib, hk4⟩
        have h4s' : Hid _ := h4s
        have h4i' : Hid _ := h4i
        have hk4' : Hid (Kept w3 w4) := hk4
        clear h4s h4i hk4 hsb hib
        go_wp2_with fail
        refine (Get.newObj w4).mono ?_
        rintro e w5 ⟨ob, om, rfl, hob, hne, hobw, homw, hk5⟩
        have hob' : Hid (Ob w5 ob om (.map [])) := hob
        have hne' : Hid (ob ≠ om ∧ w4.heap.size ≤ ob ∧ w4.heap.size ≤ om) := ⟨hne, hobw, homw⟩
        have hk5' : Hid (Kept w4 w5) := hk5
        have hk25 : Hid (Kept w' w5) := (hk3'.out.trans hk4'.out (fun _ _ e => e)).trans hk5 (fun _ _ e => e)
        have hk35 : Hid (Kept w3 w5) := hk4'.out.trans hk5 (fun _ _ e => e)
        clear hob hne hobw homw hk5
        go_wp2_with fail
        refine (putList w5 ob om (.map []) hob' (by decide) a ha'.out none 0 0 l4 (some ⟨vr, 0, none⟩) 0 K (strAt nv V) (HK2.out.kept hk25.out) (strs_kept hr3.out hk35.out)).mono ?_
        rintro e w6 ⟨rfl, r, M, laid⟩
        have hst : Hid _ := stage h4s'.out h4i'.out hk5'.out hob'.out hne'.out.2.1 hne'.out.2.2 hne'.out.1 laid ha'.out l4 l1 hsubs.out hVs.out
        have hrr : Hid (sb < r ∧ ib < r ∧ ob < r ∧ om < r ∧ sb ≠ om ∧ ib ≠ om) := by
          have h1 := laid.rw_
          have h2 := hob'.out.lt
          have h3 := hob'.out.mp.lt
          have h4 := h4s'.out.lt
          have h5 := h4i'.out.lt
          have h6 := hne'.out.2.2
          have h7 := hk5'.out.size
          exact ⟨by omega, by omega, by omega, by omega, by omega, by omega⟩
        have hk46 : Hid (Kept w4 w6) := hst.out.2.2.1
        have hk36 : Hid (Kept w3 w6) := hk4'.out.trans hk46.out (fun _ _ e => e)
        have hk26 : Hid (Kept w' w6) := hk3'.out.trans hk36.out (fun _ _ e => e)
        have hD1 : size ((DataW.map []).put (ks a) (listV r 0)) < 1000 := by rw [size_put tidy_empty]; split <;> simp [size_eq]
        have hob6 : Hid (Ob w6 ob om ((DataW.map []).put (ks a) (listV r 0))) := hst.out.2.2.2.2
        clear laid
        go_wp2_with fail
        refine (putList w6 ob om _ hob6 hD1 a2 ha2'.out none 0 0 l4 (some ⟨vr, 0, none⟩) 0 K (strAt nv V) (HK2.out.kept hk26.out) (strs_kept hr3.out hk36.out)).mono ?_
        rintro e w6b ⟨rfl, r2, M2, laid2⟩
        have hbf : Hid _ := before hst.out.1 hob6.out hst.out.2.2.2.1 hrr.out.1 hrr.out.2.1 hrr.out.2.2.1 hrr.out.2.2.2.1 hrr.out.2.2.2.2.1 hrr.out.2.2.2.2.2 hne'.out.1 laid2
        have hk46b : Hid (Kept w4 w6b) := hk46.out.trans laid2.turned (fun j hj e => by
          have e2 : j = om := e
          have h6 := hne'.out.2.2
          omega)
        clear laid2 hD1
        have hok1 : Hid _ := ok1 hbf.out hother'.out ha'.out l4 l1 hsubs.out hVs.out
        go_wp2_with fail
        refine (zzAddTo _ w6b hok1.out ob hbf.out.obj.cell).mono ?_
        rintro e w7 ⟨rfl, out1⟩
        have haf1 : Hid _ := after hbf.out ⟨rfl, rfl, rfl, rfl, rfl, rfl⟩ out1
        clear out1
        have hok2 : Hid _ := ok2 haf1.out.1 hother'.out ha'.out l4 l1 hsubs.out hVs.out
        go_wp2_with fail
        refine (zzAddTo _ w7 hok2.out ob haf1.out.1.obj.cell).mono ?_
        rintro e w7b ⟨rfl, out2⟩
        have haf2 : Hid _ := after haf1.out.1 ⟨rfl, rfl, rfl, rfl, rfl, rfl⟩ out2
        clear out2
        have hk47 : Hid (Kept w4 w7b) := (hk46b.out.trans haf1.out.2 (fun j hj e => by
            have e2 : r < j := e
            have h1 := hrr.out.2.2.1
            have h2 := hne'.out.2.1
            omega)).trans haf2.out.2 (fun j hj e => by
            have e2 : r < j := e
            have h1 := hrr.out.2.2.1
            have h2 := hne'.out.2.1
            omega)
        have hk37 : Hid (Kept w3 w7b) := hk4'.out.trans hk47.out (fun _ _ e => e)
        have hk27 : Hid (Kept w' w7b) := hk3'.out.trans hk37.out (fun _ _ e => e)
        have hk07 : Hid (Kept w' w7b) := hk2.out.trans hk27.out (fun _ _ e => e)
        have hR1 : Hid _ := rdy1 (fun j hj => (hsubs.out j hj).1) hother'.out haf2.out.1
        have hR2 : Hid _ := rdy2 haf2.out.1 (fun _ => ⟨#[]⟩) (strAt 0 (fun _ => ⟨#[]⟩)) (thenAt 0 (fun _ => false))
        have H21 : Hid (∀ _ : Unit, Calls Try.prog 21 #[.pointer (some ⟨ob, 0, none⟩)] w7b fun e w2 => e = .returned (.int .i64 2) ∧ Kept w7b w2) := fun _ => by
          have := objLen w7b ob om _ hR1.out.ob
          rw [two_size hother'.out] at this
          exact this
        go_wp2_with fail
        refine (H21.out ()).mono ?_
        rintro e w8 ⟨rfl, hk8⟩
        have hk8' : Hid (Kept w7b w8) := hk8
        have hk08 : Hid (Kept w' w8) := hk07.out.trans hk8 (fun _ _ e => e)
        have hk28 : Hid (Kept w' w8) := hk27.out.trans hk8 (fun _ _ e => e)
        have hk38 : Hid (Kept w3 w8) := hk37.out.trans hk8 (fun _ _ e => e)
        clear hk8
        go_wp2_with fail
        refine (holds w8 ob om r 0 ns a ha'.out _ S T B K (strAt nv V) M ps pt ph none (some ⟨vr, 0, none⟩) nt nh cs ct ch 0 0 l1 l4 l2 l3 (hR1.out.kept hk8'.out) (strs_kept HS.out hk08.out) (strs_kept HT.out hk08.out) (bools_kept HB.out hk08.out) (HK2.out.kept hk28.out) (strs_kept hr3.out hk38.out) hTV.out.1 hVs hval).mono ?_
        rintro e w9 ⟨rfl, hk9⟩
        have hk09 : Hid (Kept w' w9) := hk08.out.trans hk9 (fun _ _ e => e)
        have hk29 : Hid (Kept w' w9) := hk28.out.trans hk9 (fun _ _ e => e)
        have hk39 : Hid (Kept w3 w9) := hk38.out.trans hk9 (fun _ _ e => e)
        have hk79 : Hid (Kept w7b w9) := hk8'.out.trans hk9 (fun _ _ e => e)
        clear hk9
        go_wp2_with fail
        refine (holds w9 ob om r2 0 0 a2 ha2'.out _ (fun _ => ⟨#[]⟩) (fun _ => ⟨#[]⟩) (fun _ => false) K (strAt nv V) M2 none none none none (some ⟨vr, 0, none⟩) 0 0 0 0 0 0 0 (by omega) l4 (by omega) (by omega) (hR2.out.kept hk79.out) (fun i hi => absurd hi (by omega)) (fun i hi => absurd hi (by omega)) (fun i hi => absurd hi (by omega)) (HK2.out.kept hk29.out) (strs_kept hr3.out hk39.out) (fun i hi => absurd hi (by omega)) hVs rfl).mono ?_
        rintro e w10 ⟨rfl, hk10⟩
        have hk010 : Hid (Kept w' w10) := hk09.out.trans hk10 (fun _ _ e => e)
        clear hk10
        go_wp2_with fail
        go_ret
        exact ⟨rfl, hk010.out.below (Nat.le_refl _)⟩
  | some ak =>
    subst hpc
    go_upto_region 13 with (first
      | (at_make; refine wpList_make_full _ rfl _ _ 24 rfl 0 5 i5 (.int .u8 0) 1 Try.underlying24 hi hz0 hz1 _ _ _ _ nk rfl rfl (by omega) (by omega) (by rw [hz2]; omega) (by unfold maxLen; omega) (Nat.zero_le _) ?_; intro w1 hown hg))
    have hrow0 : Hid (Rowed w1 w'.heap.size nk (fun _ => .int .u8 0)) := Rowed.of_owns rfl hown
    have hk1 : Hid (Kept w' w1) := (Turned.of_grown hg).mono (fun _ _ e => by cases e)
    have hN1 : Hid (Nats w1 (some ak) nk K) := HK.out.kept hk1.out
    clear hown hg
    go_upto_region 14 with (first
      | (refine copy_law _ rfl _ _ rfl w'.heap.size nk ck (some ak) rfl rfl _ K hrow0.out hN1.out ?_; intro w2 hN2 hT2))
    have hk2 : Hid (Kept w' w2) := hk1.out.trans hT2 (fun j hj e => by omega)
    have HK2 : Hid (Nats w2 (some ⟨w'.heap.size, 0, none⟩) nk K) := hN2
    clear hN2 hT2
    go_wp2_with fail
    go_loop [16] (fun i => ∃ k : Nat, k ≤ ns ∧ i = .int .i64 k ∧ Hid (∀ j, j < k → S j ≠ value)) (fun i => ns - (intOf i).toNat)
    case atStart => exact ⟨0, Nat.zero_le _, rfl, fun j hj => absurd hj (Nat.not_lt_zero j)⟩
    case round =>
      obtain ⟨k, hkn, rfl, hno⟩ := hrel
      by_cases hlt : k < ns
      · obtain ⟨b1, off1, hp, _, hcell, _⟩ := strs_kept HS.out hk2.out k hlt
        have hix := fun w => ix26 (cap := cs) hp hlt w
        clear hp
        by_cases hval : S k = value
        · have he : ((S k).toList == [118, 97, 108, 117, 101]) = true := by rw [← tl_value, bytes_beq]; exact decide_eq_true hval
          clear hval
          go_wp2_with fail
          go_ret
          exact ⟨rfl, hk2.out.below (Nat.le_refl _)⟩
        · have he : ((S k).toList == [118, 97, 108, 117, 101]) = false := by rw [← tl_value, bytes_beq]; exact decide_eq_false hval
          have hno2 : Hid (∀ j, j < k + 1 → S j ≠ value) := fun j hj => by
            rcases Nat.lt_or_ge j k with h' | h'
            · exact hno.out j h'
            · rw [show j = k by omega]; exact hval
          clear hval
          go_wp2_with fail
          go_round
          case rel => exact ⟨k + 1, by omega, by go_num, hno2⟩
          case measure => simp [intOf]; omega
      · have hno2 : Hid (∀ j, j < ns → S j ≠ value) := fun j hj => hno.out j (by omega)
        have hsubs : Hid (∀ j, j < ns → (S j).size ≤ maxLen ∧ S j ≠ value ∧ (strAt nt T j).size ≤ 1048576) := fun j hj => ⟨(by obtain ⟨_, _, _, _, _, h⟩ := HS.out j hj; exact h), hno2.out j hj, strAt_le hTV.out.1 j⟩
        have hVs : Hid (∀ i, i < nk → (strAt nv V i).size ≤ 1048576) := fun i _ => strAt_le hTV.out.2 i
        have hval : Hid (among S ns value = false) := by
          show _ = false
          cases hh : among S ns value
          · rfl
          · obtain ⟨j, hj, e⟩ := (among_iff _).1 hh
            exact absurd e (hno2.out j hj)
        go_wp2_with fail
        refine (valueTexts w2 (some ⟨w'.heap.size, 0, none⟩) nk nk l4 pv nv cv l5 V (strs_kept HV.out hk2.out)).mono ?_
        rintro e w3 ⟨rfl, hrow3, hk3⟩
        have hr3 : Hid (Strs w3 (some ⟨w2.heap.size, 0, none⟩) nk (strAt nv V)) := rowed_strs hrow3 (fun i hi => by have := hVs.out i hi; unfold maxLen; omega)
        have hk3' : Hid (Kept w2 w3) := hk3
        have hk03 : Hid (Kept w' w3) := hk2.out.trans hk3 (fun _ _ e => e)
        clear hrow3 hk3
        generalize w2.heap.size = vr at *
        go_wp2_with fail
        refine (buildShown w3 a ha'.out ps pt ph ns nt nh cs ct ch l1 l2 l3 S T B (strs_kept HS.out hk03.out) (strs_kept HT.out hk03.out) (bools_kept HB.out hk03.out)).mono ?_
        rintro e w4 ⟨sb, ib, rfl, h4s, h4i, hsb, hib, hk4⟩
        have h4s' : Hid _ := h4s
        have h4i' : Hid _ := h4i
        have hk4' : Hid (Kept w3 w4) := hk4
        clear h4s h4i hk4 hsb hib
        go_wp2_with fail
        refine (Get.newObj w4).mono ?_
        rintro e w5 ⟨ob, om, rfl, hob, hne, hobw, homw, hk5⟩
        have hob' : Hid (Ob w5 ob om (.map [])) := hob
        have hne' : Hid (ob ≠ om ∧ w4.heap.size ≤ ob ∧ w4.heap.size ≤ om) := ⟨hne, hobw, homw⟩
        have hk5' : Hid (Kept w4 w5) := hk5
        have hk25 : Hid (Kept w2 w5) := (hk3'.out.trans hk4'.out (fun _ _ e => e)).trans hk5 (fun _ _ e => e)
        have hk35 : Hid (Kept w3 w5) := hk4'.out.trans hk5 (fun _ _ e => e)
        clear hob hne hobw homw hk5
        go_wp2_with fail
        refine (putList w5 ob om (.map []) hob' (by decide) a ha'.out (some ⟨w'.heap.size, 0, none⟩) nk nk l4 (some ⟨vr, 0, none⟩) nk K (strAt nv V) (HK2.out.kept hk25.out) (strs_kept hr3.out hk35.out)).mono ?_
        rintro e w6 ⟨rfl, r, M, laid⟩
        have hst : Hid _ := stage h4s'.out h4i'.out hk5'.out hob'.out hne'.out.2.1 hne'.out.2.2 hne'.out.1 laid ha'.out l4 l1 hsubs.out hVs.out
        have hrr : Hid (sb < r ∧ ib < r ∧ ob < r ∧ om < r ∧ sb ≠ om ∧ ib ≠ om) := by
          have h1 := laid.rw_
          have h2 := hob'.out.lt
          have h3 := hob'.out.mp.lt
          have h4 := h4s'.out.lt
          have h5 := h4i'.out.lt
          have h6 := hne'.out.2.2
          have h7 := hk5'.out.size
          exact ⟨by omega, by omega, by omega, by omega, by omega, by omega⟩
        have hk46 : Hid (Kept w4 w6) := hst.out.2.2.1
        have hk36 : Hid (Kept w3 w6) := hk4'.out.trans hk46.out (fun _ _ e => e)
        have hk26 : Hid (Kept w2 w6) := hk3'.out.trans hk36.out (fun _ _ e => e)
        have hD1 : size ((DataW.map []).put (ks a) (listV r nk)) < 1000 := by rw [size_put tidy_empty]; split <;> simp [size_eq]
        have hob6 : Hid (Ob w6 ob om ((DataW.map []).put (ks a) (listV r nk))) := hst.out.2.2.2.2
        clear laid
        go_wp2_with fail
        refine (putList w6 ob om _ hob6 hD1 a2 ha2'.out (some ⟨w'.heap.size, 0, none⟩) nk nk l4 (some ⟨vr, 0, none⟩) nk K (strAt nv V) (HK2.out.kept hk26.out) (strs_kept hr3.out hk36.out)).mono ?_
        rintro e w6b ⟨rfl, r2, M2, laid2⟩
        have hbf : Hid _ := before hst.out.1 hob6.out hst.out.2.2.2.1 hrr.out.1 hrr.out.2.1 hrr.out.2.2.1 hrr.out.2.2.2.1 hrr.out.2.2.2.2.1 hrr.out.2.2.2.2.2 hne'.out.1 laid2
        have hk46b : Hid (Kept w4 w6b) := hk46.out.trans laid2.turned (fun j hj e => by
          have e2 : j = om := e
          have h6 := hne'.out.2.2
          omega)
        clear laid2 hD1
        have hok1 : Hid _ := ok1 hbf.out hother'.out ha'.out l4 l1 hsubs.out hVs.out
        go_wp2_with fail
        refine (zzAddTo _ w6b hok1.out ob hbf.out.obj.cell).mono ?_
        rintro e w7 ⟨rfl, out1⟩
        have haf1 : Hid _ := after hbf.out ⟨rfl, rfl, rfl, rfl, rfl, rfl⟩ out1
        clear out1
        have hok2 : Hid _ := ok2 haf1.out.1 hother'.out ha'.out l4 l1 hsubs.out hVs.out
        go_wp2_with fail
        refine (zzAddTo _ w7 hok2.out ob haf1.out.1.obj.cell).mono ?_
        rintro e w7b ⟨rfl, out2⟩
        have haf2 : Hid _ := after haf1.out.1 ⟨rfl, rfl, rfl, rfl, rfl, rfl⟩ out2
        clear out2
        have hk47 : Hid (Kept w4 w7b) := (hk46b.out.trans haf1.out.2 (fun j hj e => by
            have e2 : r < j := e
            have h1 := hrr.out.2.2.1
            have h2 := hne'.out.2.1
            omega)).trans haf2.out.2 (fun j hj e => by
            have e2 : r < j := e
            have h1 := hrr.out.2.2.1
            have h2 := hne'.out.2.1
            omega)
        have hk37 : Hid (Kept w3 w7b) := hk4'.out.trans hk47.out (fun _ _ e => e)
        have hk27 : Hid (Kept w2 w7b) := hk3'.out.trans hk37.out (fun _ _ e => e)
        have hk07 : Hid (Kept w' w7b) := hk2.out.trans hk27.out (fun _ _ e => e)
        have hR1 : Hid _ := rdy1 (fun j hj => (hsubs.out j hj).1) hother'.out haf2.out.1
        have hR2 : Hid _ := rdy2 haf2.out.1 (fun _ => ⟨#[]⟩) (strAt 0 (fun _ => ⟨#[]⟩)) (thenAt 0 (fun _ => false))
        have H21 : Hid (∀ _ : Unit, Calls Try.prog 21 #[.pointer (some ⟨ob, 0, none⟩)] w7b fun e w2 => e = .returned (.int .i64 2) ∧ Kept w7b w2) := fun _ => by
          have := objLen w7b ob om _ hR1.out.ob
          rw [two_size hother'.out] at this
          exact this
        go_wp2_with fail
        refine (H21.out ()).mono ?_
        rintro e w8 ⟨rfl, hk8⟩
        have hk8' : Hid (Kept w7b w8) := hk8
        have hk08 : Hid (Kept w' w8) := hk07.out.trans hk8 (fun _ _ e => e)
        have hk28 : Hid (Kept w2 w8) := hk27.out.trans hk8 (fun _ _ e => e)
        have hk38 : Hid (Kept w3 w8) := hk37.out.trans hk8 (fun _ _ e => e)
        clear hk8
        go_wp2_with fail
        refine (holds w8 ob om r nk ns a ha'.out _ S T B K (strAt nv V) M ps pt ph (some ⟨w'.heap.size, 0, none⟩) (some ⟨vr, 0, none⟩) nt nh cs ct ch nk nk l1 l4 l2 l3 (hR1.out.kept hk8'.out) (strs_kept HS.out hk08.out) (strs_kept HT.out hk08.out) (bools_kept HB.out hk08.out) (HK2.out.kept hk28.out) (strs_kept hr3.out hk38.out) hTV.out.1 hVs hval).mono ?_
        rintro e w9 ⟨rfl, hk9⟩
        have hk09 : Hid (Kept w' w9) := hk08.out.trans hk9 (fun _ _ e => e)
        have hk29 : Hid (Kept w2 w9) := hk28.out.trans hk9 (fun _ _ e => e)
        have hk39 : Hid (Kept w3 w9) := hk38.out.trans hk9 (fun _ _ e => e)
        have hk79 : Hid (Kept w7b w9) := hk8'.out.trans hk9 (fun _ _ e => e)
        clear hk9
        go_wp2_with fail
        refine (holds w9 ob om r2 nk 0 a2 ha2'.out _ (fun _ => ⟨#[]⟩) (fun _ => ⟨#[]⟩) (fun _ => false) K (strAt nv V) M2 none none none (some ⟨w'.heap.size, 0, none⟩) (some ⟨vr, 0, none⟩) 0 0 0 0 0 nk nk (by omega) l4 (by omega) (by omega) (hR2.out.kept hk79.out) (fun i hi => absurd hi (by omega)) (fun i hi => absurd hi (by omega)) (fun i hi => absurd hi (by omega)) (HK2.out.kept hk29.out) (strs_kept hr3.out hk39.out) (fun i hi => absurd hi (by omega)) hVs rfl).mono ?_
        rintro e w10 ⟨rfl, hk10⟩
        have hk010 : Hid (Kept w' w10) := hk09.out.trans hk10 (fun _ _ e => e)
        clear hk10
        go_wp2_with fail
        go_ret
        exact ⟨rfl, hk010.out.below (Nat.le_refl _)⟩
end Go.Proofs.Qxb6603535a.Law6
