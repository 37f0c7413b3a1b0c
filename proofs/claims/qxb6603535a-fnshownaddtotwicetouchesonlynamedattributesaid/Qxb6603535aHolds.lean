import Derived.Test.Qxb6603535aRdy
import Derived.Deep.LoopGhost
import Derived.Deep.DeepCutAuto
namespace Go.Proofs.Qxb6603535a.Holds
open Go.RowKit Go.Maps Go.Proofs.Qxb6603535a.Mem Go.Proofs.Qxb6603535a.Get Go.Proofs.Qxb6603535a.Bounds Go.Proofs.Qxb6603535a.Sizes Go.Proofs.Qxb6603535a.Row Go.Proofs.Qxb6603535a.Shown Go.Proofs.Qxb6603535a.AddCx Go.Proofs.Qxb6603535a.Put Go.Proofs.Qxb6603535a.Build Go.Proofs.Qxb6603535a.Count Go.Proofs.Qxb6603535a.Rdy_
set_option linter.unusedVariables false

set_option maxRecDepth 20000 in
set_option maxHeartbeats 8000000 in
theorem holds (w : World) (ob om r n m : Nat) (attr : ByteArray) (ha : attr.size ≤ maxLen) (D : Dm) (S T : Nat → ByteArray) (B : Nat → Bool) (K : Nat → Nat) (V : Nat → ByteArray) (M : Nat → Nat) (ps pt ph pk pv : Option Addr) (nt nh cs ct ch ck cv : Nat) (hm : m ≤ 4096) (hn : n ≤ 4096) (ht : nt ≤ 4096) (hh : nh ≤ 4096)
    (HR : Hid (Rdy w ob om r n m attr D S (strAt nt T) (thenAt nh B) K V M))
    (HS : Hid (Strs w ps m S)) (HT : Hid (Strs w pt nt T)) (HB : Hid (Bools w ph nh B)) (HK : Hid (Nats w pk n K)) (HV : Hid (Strs w pv n V))
    (hTs : Hid (∀ i, i < nt → (T i).size ≤ 1048576)) (hVs : Hid (∀ i, i < n → (V i).size ≤ 1048576)) (hval : Hid (among S m value = false)) :
    Calls Try.prog 22 #[.pointer (some ⟨ob, 0, none⟩), .string attr, .slice ps m cs, .slice pt nt ct, .slice ph nh ch, .slice pk n ck, .slice pv n cv] w fun e w' => e = .returned (.bool true) ∧ Kept w w' := by
  obtain ⟨i4, hi, hz0, hz1, hz2⟩ := info_parts info4
  go_enter Try.func22, Try.ntmps22
  go_wp2_with (first
    | (go_at_call 28; refine (listLen _ ob om D HR.out.ob attr ha r n HR.out.lst).mono ?_; rintro e w1 ⟨rfl, hk1⟩)
    | (at_make; refine wpList_make_full _ rfl _ _ 27 rfl 0 4 i4 (.bool false) 1 Try.underlying27 hi hz0 hz1 _ _ _ _ m rfl rfl (by omega) (by omega) (by rw [hz2]; omega) (by unfold maxLen; omega) (Nat.zero_le _) ?_; intro w2 hown hg))
  have hlr : Hid (w.heap.size ≤ w1.heap.size) := hk1.size
  have hrow0 : Hid (Rowed w2 w1.heap.size m (fun _ => .bool false)) := Rowed.of_owns rfl hown
  have hk2 : Hid (Kept w w2) := hk1.trans ((Turned.of_grown hg).mono (fun _ _ e => by cases e) : Kept w1 w2) (fun _ _ e => e)
  clear hown hg hk1
  generalize w1.heap.size = lr at hlr hrow0 ⊢
  go_wp2_with fail
  go_loopw [16, 17, 18, 19] (fun d y z i wr => ∃ k : Nat, k ≤ m ∧ i = .int .i64 k ∧ d = .int .i64 (cntB (lastB S m) k) ∧ y = .bool (among S k type_) ∧ z = .bool (among S k display) ∧
      Hid (Rowed wr lr m (fun x => if x < k then .bool (lastB S m x) else .bool false)) ∧ Hid (Kept w wr)) (fun _ _ _ i _ => m - (intOf i).toNat)
  case atStart => exact ⟨0, Nat.zero_le _, rfl, rfl, rfl, rfl, hrow0.out.congr (fun i hi => by simp), hk2⟩
  case round =>
    obtain ⟨k, hkn, rfl, rfl, rfl, rfl, hrow, hkept⟩ := hrel
    have hcl : cntB (lastB S m) k ≤ k := cntB_le _ _
    generalize hgc : cntB (lastB S m) k = dk at *
    generalize hgt : among S k type_ = tk at *
    generalize hgd : among S k display = yk at *
    by_cases hlt : k < m
    · have hcell := hrow.out.cell hlt
      have hfr := hrow.out.frozen k
      rw [if_neg (Nat.lt_irrefl k)] at hcell
      have hrow1 : Hid (Rowed (wr.setCell ⟨lr, k, none⟩ (.bool true)) lr m (fun y => if y = k then .bool (lastB S (k + 1) k) else if y < k then .bool (lastB S m y) else .bool false)) := (hrow.out.set hlt _).congr (fun y hy => by rw [last_start])
      have hkept1 : Hid (Kept w (wr.setCell ⟨lr, k, none⟩ (.bool true))) := hkept.out.setCell (Or.inl hlr.out) _
      go_wp2_with fail
      clear hcell hfr
      go_loopw [20] (fun i wq => ∃ x : Nat, k + 1 ≤ x ∧ x ≤ m ∧ i = .int .i64 x ∧ Hid (Rowed wq lr m (fun y => if y = k then .bool (lastB S x k) else if y < k then .bool (lastB S m y) else .bool false)) ∧ Hid (Kept w wq)) (fun i _ => m - (intOf i).toNat)
      case atStart => exact ⟨k + 1, Nat.le_refl _, by omega, by go_num, hrow1, hkept1⟩
      case round =>
        obtain ⟨x, hkx, hxm, rfl, hrowx, hkeptx⟩ := hrel
        obtain ⟨b1, off1, hp, _, hcellk, _⟩ := strs_kept HS.out hkeptx.out k hlt
        have hixk := fun w => ix26 (cap := cs) hp hlt w
        by_cases hltx : x < m
        · obtain ⟨b2, off2, hp2, _, hcellx, _⟩ := strs_kept HS.out hkeptx.out x hltx
          have hixx := fun w => ix26 (cap := cs) hp2 hltx w
          have hcr := hrowx.out.cell hlt
          have hfr := hrowx.out.frozen k
          simp only [if_true] at hcr
          clear hp hp2
          have hls := last_step S x k (by omega)
          by_cases heq : S x = S k
          · have he : ((S x).toList == (S k).toList) = true := by rw [bytes_beq]; exact decide_eq_true heq
            have hnew : Hid (∀ q, Rowed ((wr.drewN q).setCell ⟨lr, k, none⟩ (.bool false)) lr m (fun y => if y = k then .bool (lastB S (x + 1) k) else if y < k then .bool (lastB S m y) else .bool false)) := fun q => ((rowed_drewN hrowx.out q).set hlt _).congr (fun y hy => by
              by_cases e : y = k
              · simp [e, hls, heq]
              · simp [e])
            have hnewk : Hid (∀ q, Kept w ((wr.drewN q).setCell ⟨lr, k, none⟩ (.bool false))) := fun q => (kept_drewN hkeptx.out q).setCell (Or.inl hlr.out) _
            clear hls heq
            as_aux_lemma =>
              go_wp2_with fail
              go_quiet (fail)
              go_wp2_with fail
              go_roundw
              case rel => exact ⟨x + 1, by omega, by omega, by go_num, hnew.out _, hnewk.out _⟩
              case measure => simp [intOf]; omega
          · have he : ((S x).toList == (S k).toList) = false := by rw [bytes_beq]; exact decide_eq_false heq
            have hnew : Hid (∀ q, Rowed (wr.drewN q) lr m (fun y => if y = k then .bool (lastB S (x + 1) k) else if y < k then .bool (lastB S m y) else .bool false)) := fun q => (rowed_drewN hrowx.out q).congr (fun y hy => by
              by_cases e : y = k
              · simp [e, hls, heq]
              · simp [e])
            have hnewk : Hid (∀ q, Kept w (wr.drewN q)) := fun q => kept_drewN hkeptx.out q
            clear hls heq
            as_aux_lemma =>
              go_wp2_with fail
              go_quiet (fail)
              go_wp2_with fail
              go_roundw
              case rel => exact ⟨x + 1, by omega, by omega, by go_num, hnew.out _, hnewk.out _⟩
              case measure => simp [intOf]; omega
        · have ex : x = m := by omega
          have hcr := hrowx.out.cell hlt
          simp only [if_true] at hcr
          have hrowf : Hid (Rowed wr lr m (fun x => if x < k + 1 then .bool (lastB S m x) else .bool false)) := hrowx.out.congr (fun y hy => by
            by_cases e : y = k
            · simp [e, ex]
            · by_cases e2 : y < k
              · simp [e, e2, show y < k + 1 by omega]
              · simp [e, e2, show ¬ y < k + 1 by omega])
          rw [ex] at hcr
          have hd : Hid (cntB (lastB S m) (k + 1) = dk + if lastB S m k then 1 else 0) := by show cntB (lastB S m) k + _ = _; rw [hgc]
          have hty : Hid (among S (k + 1) type_ = (tk || decide (S k = type_))) := by show (among S k type_ || decide (S k = type_)) = _; rw [hgt]
          have hdi : Hid (among S (k + 1) display = (yk || decide (S k = display))) := by show (among S k display || decide (S k = display)) = _; rw [hgd]
          have e1 : ((S k).toList == [116, 121, 112, 101]) = decide (S k = type_) := by rw [← bytes_beq, tl_type]
          have e2 : ((S k).toList == [100, 105, 115, 112, 108, 97, 121]) = decide (S k = display) := by rw [← bytes_beq, tl_display]
          generalize decide (S k = type_) = bt at *
          generalize decide (S k = display) = bd at *
          generalize hlb : lastB S m k = bl at *
          clear hp ex hgc hgt hgd hlb
          cases bl <;> cases bt <;> cases bd
          all_goals
            as_aux_lemma =>
              go_wp2_with fail
              go_roundw
              case rel => exact ⟨k + 1, by omega, by go_num, by rw [hd.out]; go_num, by rw [hty.out]; simp, by rw [hdi.out]; simp, hrowf, hkeptx⟩
              case measure => simp [intOf]; omega
    · have ek : k = m := by omega
      have hd : Hid (cntB (lastB S m) m = dk) := by show _ = _; rw [← hgc, ek]
      have hty : Hid (among S m type_ = tk) := by show _ = _; rw [← hgt, ek]
      have hdi : Hid (among S m display = yk) := by show _ = _; rw [← hgd, ek]
      have hrowL : Hid (Rowed wr lr m (fun x => .bool (lastB S m x))) := hrow.out.congr (fun x hx => by rw [if_pos (by omega)])
      have hdk : dk ≤ 4096 := by omega
      clear hgc hgt hgd ek hcl hrow
      have HR3 : Hid (Rdy wr ob om r n m attr D S (strAt nt T) (thenAt nh B) K V M) := HR.out.kept hkept.out
      have HS3 : Hid (Strs wr ps m S) := strs_kept HS.out hkept.out
      have HT3 : Hid (Strs wr pt nt T) := strs_kept HT.out hkept.out
      have HB3 : Hid (Bools wr ph nh B) := bools_kept HB.out hkept.out
      have HK3 : Hid (Nats wr pk n K) := HK.out.kept hkept.out
      have HV3 : Hid (Strs wr pv n V) := strs_kept HV.out hkept.out
      go_wp2_with fail
      generalize hw3 : wr = w3 at *
      go_loopg [21] n (fun g i wq => ∃ q : Nat, q ≤ n ∧ n - q ≤ g ∧ i = .int .i64 q ∧ Hid (Kept w3 wq))
      case atStart => exact ⟨0, Nat.zero_le _, by omega, rfl, Turned.refl _ _⟩
      case round =>
        obtain ⟨q, hqn, hqg, rfl, hkq⟩ := hrel
        by_cases hqlt : q < n
        · obtain ⟨b1, off1, hp1, hbK, hcK, hK255⟩ := HK3.out q hqlt
          have hixK := fun w => ix24 (cap := ck) hp1 hqlt w
          obtain ⟨b2, off2, hp2, hb2, hcV, _⟩ := HV3.out q hqlt
          have hixV := fun w => ix26 (cap := cv) hp2 hqlt w
          have hVc : Hid (∀ w', Kept w3 w' → w'.cell? ⟨b2, off2 + q, none⟩ = some (.string (V q))) := fun w' k => by rw [← hcV]; exact k.cell (p := ⟨b2, off2 + q, none⟩) hb2 id
          have hKc : Hid (∀ w', Kept w3 w' → w'.cell? ⟨b1, off1 + q, none⟩ = some (.int .u8 (K q))) := fun w' k => by rw [← hcK]; exact k.cell (p := ⟨b1, off1 + q, none⟩) hbK id
          have hcKq := hKc.out _ hkq.out
          clear hcK
          have hcK := hcKq
          clear hcKq
          clear hp1 hp2 hcV
          by_cases h0 : K q = 0
          · have H29 : Hid _ := HR3.out.str ha hqlt h0
            have H30 : Hid _ := HR3.out.len0 ha hqlt h0
            rw [h0] at hcK
            as_aux_lemma =>
              go_wp2_with (first
                | (go_at_call 29; refine (H29.out _ hkq.out).mono ?_; rintro e w4 ⟨rfl, hk4⟩; have hcV4 := hVc.out _ hk4)
                | (go_at_call 30; refine (H30.out _ hk4).mono ?_; rintro e w5 ⟨rfl, hk5⟩))
              go_roundg (n - (q + 1))
              case measure => omega
              case rel => exact ⟨q + 1, by omega, by omega, by go_num, hk5⟩
          · have hSz : ∀ j, j < m → (S j).size ≤ maxLen := fun j hj => (by obtain ⟨_, _, _, _, _, h⟩ := HS.out j hj; exact h)
            have H26 : Hid (∀ (w' : World) (j : Nat), Kept w3 w' → j ≤ 4096 → Calls Try.prog 26 #[.slice pt nt ct, .int .i64 j] w' fun e w1 => e = .returned (.string (strAt nt T j)) ∧ w1 = w') :=
              fun w' j k hj => zzAt w' _ nt T ((Strs.rd HT3.out (by unfold maxLen; omega) ct).kept k) j (by unfold maxLen; omega)
            have HJ : Hid (∀ j, j < m → lastB S m j = true → ∀ w', Kept w3 w' → Calls Try.prog 31 #[.pointer (some ⟨ob, 0, none⟩), .string attr, .int .i64 q, .string (S j)] w' fun e w2 => e = .returned (.tuple #[.string (full (ownT (K q) (V q)) (strAt nt T j) (thenAt nh B j)), .bool true, .bool true]) ∧ Kept w3 w2) :=
              fun j hj hl w' k => HR3.out.mem ha hqlt h0 (hSz j hj) (at_last (base_canon _ _) hSz hj hl _ _).1 (at_last (base_canon _ _) hSz hj hl _ (.held .nilIface)).2 w' k
            have e0 : ((K q : Int) == 0) = false := beq_eq_false_iff_ne.2 (by omega)
            obtain ⟨zE, hz⟩ : ∃ z, size (shown S (strAt nt T) (thenAt nh B) (base (K q) (V q)) (ownT (K q) (V q)) m) = z := ⟨_, rfl⟩
            have hz1 : Hid (K q = 1 → zE = dk + 1 + if tk then 0 else 1) := fun h1 => by rw [← hz, h1, size_one hSz hval.out, hd.out, hty.out]
            have hz2 : Hid (K q = 2 → zE = dk + if yk then 0 else 1) := fun h2 => by rw [← hz, h2, size_two hSz, hd.out, hdi.out]
            have hz3 : Hid (K q ≠ 1 → K q ≠ 2 → zE = dk + 1) := fun h1 h2 => by rw [← hz, size_more hSz hval.out h1 h2, hd.out]
            have hzl : zE ≤ 5000 := by
              by_cases h1 : K q = 1
              · have := hz1.out h1; split at this <;> omega
              · by_cases h2 : K q = 2
                · have := hz2.out h2; split at this <;> omega
                · have := hz3.out h1 h2; omega
            have H30 : Hid (∀ w', Kept w3 w' → Calls Try.prog 30 #[.pointer (some ⟨ob, 0, none⟩), .string attr, .int .i64 q] w' fun e w2 => e = .returned (.int .i64 (zE : Int)) ∧ Kept w3 w2) := fun w' k => HR3.out.len ha hqlt h0 hz w' k
            have H1v : Hid (K q = 1 → ∀ w', Kept w3 w' → Calls Try.prog 31 #[.pointer (some ⟨ob, 0, none⟩), .string attr, .int .i64 q, .string ⟨#[118, 97, 108, 117, 101]⟩] w' fun e w2 => e = .returned (.tuple #[.string (V q), .bool true, .bool true]) ∧ Kept w3 w2) :=
              fun h1 w' k => HR3.out.mem ha hqlt h0 (s := value) (by decide) (by rw [at_else hSz hval.out, h1]; exact (base_value _ _).1) (by rw [has_else (base_canon _ _) hSz hval.out, h1]; exact (base_value _ .nil).2.1) w' k
            have H1t : Hid (K q = 1 → tk = false → ∀ w', Kept w3 w' → Calls Try.prog 31 #[.pointer (some ⟨ob, 0, none⟩), .string attr, .int .i64 q, .string ⟨#[116, 121, 112, 101]⟩] w' fun e w2 => e = .returned (.tuple #[.string ⟨#[111, 108, 100]⟩, .bool true, .bool true]) ∧ Kept w3 w2) :=
              fun h1 hf w' k => HR3.out.mem ha hqlt h0 (s := type_) (by decide) (by rw [at_else hSz (hty.out.trans hf), h1]; exact (base_value _ _).2.2.1) (by rw [has_else (base_canon _ _) hSz (hty.out.trans hf), h1]; exact (base_value _ .nil).2.2.2) w' k
            have H2v : Hid (K q = 2 → ∀ w', Kept w3 w' → Calls Try.prog 31 #[.pointer (some ⟨ob, 0, none⟩), .string attr, .int .i64 q, .string ⟨#[118, 97, 108, 117, 101]⟩] w' fun e w2 => e = .returned (.tuple #[.string ⟨#[]⟩, .bool false, .bool false]) ∧ Kept w3 w2) :=
              fun h2 w' k => HR3.out.mem_no ha hqlt h0 (s := value) (by decide) (by rw [at_else hSz hval.out, h2]; exact (base_display _ _).1) (by rw [has_else (base_canon _ _) hSz hval.out, h2]; exact (base_display _ .nil).2.1) w' k
            have H2d : Hid (K q = 2 → yk = false → ∀ w', Kept w3 w' → Calls Try.prog 31 #[.pointer (some ⟨ob, 0, none⟩), .string attr, .int .i64 q, .string ⟨#[100, 105, 115, 112, 108, 97, 121]⟩] w' fun e w2 => e = .returned (.tuple #[.string (V q), .bool true, .bool true]) ∧ Kept w3 w2) :=
              fun h2 hf w' k => HR3.out.mem ha hqlt h0 (s := display) (by decide) (by rw [at_else hSz (hdi.out.trans hf), h2]; exact (base_display _ _).2.2.1) (by rw [has_else (base_canon _ _) hSz (hdi.out.trans hf), h2]; exact (base_display _ .nil).2.2.2) w' k
            have H3v : Hid (K q ≠ 1 → K q ≠ 2 → ∀ w', Kept w3 w' → Calls Try.prog 31 #[.pointer (some ⟨ob, 0, none⟩), .string attr, .int .i64 q, .string ⟨#[118, 97, 108, 117, 101]⟩] w' fun e w2 => e = .returned (.tuple #[.string ⟨#[]⟩, .bool false, .bool true]) ∧ Kept w3 w2) :=
              fun h1 h2 w' k => HR3.out.mem_num ha hqlt h0 (s := value) (by decide) (by rw [at_else hSz hval.out]; exact (base_num h1 h2 _ _).1) (by rw [has_else (base_canon _ _) hSz hval.out]; exact (base_num h1 h2 _ .nil).2) w' k
            have H3n : Hid (K q ≠ 1 → K q ≠ 2 → ∀ w', Kept w3 w' → Calls Try.prog 32 #[.pointer (some ⟨ob, 0, none⟩), .string attr, .int .i64 q, .string ⟨#[118, 97, 108, 117, 101]⟩] w' fun e w2 => e = .returned (.tuple #[.string ⟨#[49]⟩, .bool true]) ∧ Kept w3 w2) :=
              fun h1 h2 w' k => HR3.out.num ha hqlt h0 (s := value) (by decide) (by rw [at_else hSz hval.out]; exact (base_num h1 h2 _ _).1) w' k
            obtain ⟨tv, bs, bt, H31v, hvK⟩ : ∃ (tv : ByteArray) (bs bt : Bool), Hid (∀ w', Kept w3 w' → Calls Try.prog 31 #[.pointer (some ⟨ob, 0, none⟩), .string attr, .int .i64 q, .string ⟨#[118, 97, 108, 117, 101]⟩] w' fun e w2 => e = .returned (.tuple #[.string tv, .bool bs, .bool bt]) ∧ Kept w3 w2) ∧ Hid ((K q = 1 → tv = V q ∧ bs = true ∧ bt = true) ∧ (K q = 2 → bt = false) ∧ (K q ≠ 1 → K q ≠ 2 → bs = false ∧ bt = true)) := by
              by_cases h1 : K q = 1
              · exact ⟨V q, true, true, H1v.out h1, fun _ => ⟨rfl, rfl, rfl⟩, fun h2 => by omega, fun h => absurd h1 h⟩
              · by_cases h2 : K q = 2
                · exact ⟨⟨#[]⟩, false, false, H2v.out h2, fun h => absurd h h1, fun _ => rfl, fun _ h => absurd h2 h⟩
                · exact ⟨⟨#[]⟩, false, true, H3v.out h1 h2, fun h => absurd h h1, fun h => absurd h h2, fun _ _ => ⟨rfl, rfl⟩⟩
            obtain ⟨o, ho⟩ : ∃ o, ownT (K q) (V q) = o := ⟨_, rfl⟩
            have ho1 : Hid (K q = 1 → V q = o) := fun h1 => by rw [← ho]; unfold ownT; rw [if_pos h1]
            have ho2 : Hid (K q ≠ 1 → (⟨#[]⟩ : ByteArray) = o) := fun h1 => by rw [← ho]; unfold ownT; rw [if_neg h1]
            have hosz : o.size ≤ 1048576 := by
              by_cases h1 : K q = 1
              · rw [← ho1.out h1]; exact hVs.out q hqlt
              · rw [← ho2.out h1]; decide
            rw [ho] at HJ
            clear ho hz hSz
            go_upto_region 31 with fail
            go_cut [26, 27, 28] (fun a b c wc => a = .string tv ∧ b = .bool bs ∧ c = .bool bt ∧ Hid (Kept w3 wc))
            case first =>
              as_aux_lemma =>
                go_wp2_with (go_at_call 31; refine (H31v.out _ hkq.out).mono ?_; rintro e w4 ⟨rfl, hk4⟩)
                go_meet
                case rel => exact ⟨rfl, rfl, rfl, hk4⟩
            case rest =>
              obtain ⟨rfl, rfl, rfl, hk4⟩ := hcut
              have hcV4 := hVc.out _ hk4.out
              have hcK4 := hKc.out _ hk4.out
              go_step
              apply wp_seq_k
              intro K1 hK1
              go_cut [17, 18, 24, 25, 26, 27, 28] (fun x y a b _ _ _ wc => x = .bool tk ∧ y = .bool yk ∧ a = .string o ∧ b = .int .i64 (zE : Int) ∧ Hid (Kept w3 wc))
              case first =>
                by_cases h1 : K q = 1
                · have hb := hvK.out.1 h1
                  obtain ⟨rfl, rfl, rfl⟩ := hb
                  rw [h1] at hcK4
                  have hoV : Hid (V q = o) := ho1.out h1
                  cases htk : tk
                  · have H31u : Hid (∀ w', Kept w3 w' → Calls Try.prog 31 #[.pointer (some ⟨ob, 0, none⟩), .string attr, .int .i64 q, .string ⟨#[116, 121, 112, 101]⟩] w' fun e w2 => e = .returned (.tuple #[.string ⟨#[111, 108, 100]⟩, .bool true, .bool true]) ∧ Kept w3 w2) := H1t.out h1 htk
                    have hzz : Hid ((zE : Int) = dk + 2) := by
                      show (zE : Int) = dk + 2
                      have := hz1.out h1; rw [htk] at this; simp at this; omega
                    as_aux_lemma =>
                      go_wp2_with (first
                        | (go_at_call_of 31 (Value.string { data := #[116, 121, 112, 101] }); refine (H31u.out _ hk4.out).mono ?_; rintro e w5 ⟨rfl, hk5⟩; have hcV5 := hVc.out _ hk5))
                      all_goals
                        go_meet
                        case rel => exact ⟨by rw [htk], rfl, by rw [hoV.out], by rw [hzz.out], hk5⟩
                  · have hzz : Hid ((zE : Int) = dk + 2 - 1) := by
                      show (zE : Int) = dk + 2 - 1
                      have := hz1.out h1; rw [htk] at this; simp at this; omega
                    as_aux_lemma =>
                      go_wp2_with fail
                      all_goals
                        go_meet
                        case rel => exact ⟨by rw [htk], rfl, by rw [hoV.out], by rw [hzz.out], hk4⟩
                · have hoE : Hid ((⟨#[]⟩ : ByteArray) = o) := ho2.out h1
                  by_cases h2 : K q = 2
                  · have hb := hvK.out.2.1 h2
                    subst hb
                    rw [h2] at hcK4
                    cases htk : yk
                    · have H31u : Hid (∀ w', Kept w3 w' → Calls Try.prog 31 #[.pointer (some ⟨ob, 0, none⟩), .string attr, .int .i64 q, .string ⟨#[100, 105, 115, 112, 108, 97, 121]⟩] w' fun e w2 => e = .returned (.tuple #[.string (V q), .bool true, .bool true]) ∧ Kept w3 w2) := H2d.out h2 htk
                      have hzz : Hid ((zE : Int) = dk + 1) := by
                        show (zE : Int) = dk + 1
                        have := hz2.out h2; rw [htk] at this; simp at this; omega
                      as_aux_lemma =>
                        go_wp2_with (first
                          | (go_at_call_of 31 (Value.string { data := #[100, 105, 115, 112, 108, 97, 121] }); refine (H31u.out _ hk4.out).mono ?_; rintro e w5 ⟨rfl, hk5⟩; have hcV5 := hVc.out _ hk5))
                        all_goals
                          go_meet
                          case rel => exact ⟨rfl, by rw [htk], by rw [hoE.out], by rw [hzz.out], hk5⟩
                    · have hzz : Hid ((zE : Int) = dk) := by
                        show (zE : Int) = dk
                        have := hz2.out h2; rw [htk] at this; simp at this; omega
                      as_aux_lemma =>
                        go_wp2_with fail
                        all_goals
                          go_meet
                          case rel => exact ⟨rfl, by rw [htk], by rw [hoE.out], by rw [hzz.out], hk4⟩
                  · have hb := hvK.out.2.2 h1 h2
                    obtain ⟨rfl, rfl⟩ := hb
                    have e1 : ((K q : Int) == 1) = false := beq_eq_false_iff_ne.2 (by omega)
                    have e2 : ((K q : Int) == 2) = false := beq_eq_false_iff_ne.2 (by omega)
                    have H32 : Hid (∀ w', Kept w3 w' → Calls Try.prog 32 #[.pointer (some ⟨ob, 0, none⟩), .string attr, .int .i64 q, .string ⟨#[118, 97, 108, 117, 101]⟩] w' fun e w2 => e = .returned (.tuple #[.string ⟨#[49]⟩, .bool true]) ∧ Kept w3 w2) := H3n.out h1 h2
                    have hzz : Hid ((zE : Int) = dk + 1) := by
                      show (zE : Int) = dk + 1
                      have := hz3.out h1 h2; omega
                    as_aux_lemma =>
                      go_wp2_with (first
                        | (go_at_call 32; refine (H32.out _ hk4.out).mono ?_; rintro e w5 ⟨rfl, hk5⟩))
                      all_goals
                        go_meet
                        case rel => exact ⟨rfl, rfl, by rw [hoE.out], by rw [hzz.out], hk5⟩
              case rest =>
                obtain ⟨rfl, rfl, rfl, rfl, hk5⟩ := hcut
                go_wp2_with (go_at_call 30; refine (H30.out _ hk5.out).mono ?_; rintro e w6 ⟨rfl, hk6⟩)
                go_loopg [37] m (fun g i wq => ∃ j : Nat, j ≤ m ∧ m - j ≤ g ∧ i = .int .i64 j ∧ Hid (Kept w3 wq))
                case atStart => exact ⟨0, Nat.zero_le _, by omega, rfl, hk6⟩
                case round =>
                  obtain ⟨j, hjm, hjg, rfl, hkj⟩ := hrel
                  by_cases hjlt : j < m
                  · have hcl := (hrowL.out.kept hkj.out).cell hjlt
                    cases hlb : lastB S m j
                    · rw [hlb] at hcl
                      as_aux_lemma =>
                        go_wp2_with fail
                        go_roundg (m - (j + 1))
                        case measure => omega
                        case rel => exact ⟨j + 1, by omega, by omega, by go_num, hkj⟩
                    · rw [hlb] at hcl
                      obtain ⟨b3, off3, hp3, _, hcS, hSj⟩ := strs_kept HS3.out hkj.out j hjlt
                      have hixS := fun w => ix26 (cap := cs) hp3 hjlt w
                      have hj4 : j ≤ 4096 := by omega
                      have hTj : (strAt nt T j).size ≤ 1048576 := strAt_le hTs.out j
                      have H31j : Hid (∀ w', Kept w3 w' → Calls Try.prog 31 #[.pointer (some ⟨ob, 0, none⟩), .string attr, .int .i64 q, .string (S j)] w' fun e w2 => e = .returned (.tuple #[.string (full o (strAt nt T j) (thenAt nh B j)), .bool true, .bool true]) ∧ Kept w3 w2) := HJ.out j hjlt hlb
                      clear hp3
                      by_cases hth : j < nh
                      · obtain ⟨b4, off4, hp4, _, hcB⟩ := bools_kept HB3.out hkj.out j hth
                        have hixB := fun w => ix27 (cap := ch) hp4 hth w
                        clear hp4
                        cases hBj : B j
                        · have ef : full o (strAt nt T j) (thenAt nh B j) = strAt nt T j := by unfold full thenAt; simp [hBj]
                          rw [ef] at H31j
                          rw [hBj] at hcB
                          clear ef
                          as_aux_lemma =>
                            go_wp2_with (first
                              | (go_at_call 26; refine (H26.out _ _ hkj.out hj4).mono ?_; rintro e w' ⟨rfl, rfl⟩)
                              | (go_at_call 31; refine (H31j.out _ hkj.out).mono ?_; rintro e w7 ⟨rfl, hk7⟩))
                            go_roundg (m - (j + 1))
                            case measure => omega
                            case rel => exact ⟨j + 1, by omega, by omega, by go_num, hk7⟩
                        · have ef : full o (strAt nt T j) (thenAt nh B j) = strAt nt T j ++ o := by unfold full thenAt; simp [hth, hBj]
                          rw [ef] at H31j
                          rw [hBj] at hcB
                          clear ef
                          as_aux_lemma =>
                            go_wp2_with (first
                              | (go_at_call 26; refine (H26.out _ _ hkj.out hj4).mono ?_; rintro e w' ⟨rfl, rfl⟩)
                              | (go_at_call 31; refine (H31j.out _ hkj.out).mono ?_; rintro e w7 ⟨rfl, hk7⟩))
                            go_roundg (m - (j + 1))
                            case measure => omega
                            case rel => exact ⟨j + 1, by omega, by omega, by go_num, hk7⟩
                      · have ef : full o (strAt nt T j) (thenAt nh B j) = strAt nt T j := by unfold full thenAt; simp [hth]
                        rw [ef] at H31j
                        clear ef
                        as_aux_lemma =>
                          go_wp2_with (first
                            | (go_at_call 26; refine (H26.out _ _ hkj.out hj4).mono ?_; rintro e w' ⟨rfl, rfl⟩)
                            | (go_at_call 31; refine (H31j.out _ hkj.out).mono ?_; rintro e w7 ⟨rfl, hk7⟩))
                          go_roundg (m - (j + 1))
                          case measure => omega
                          case rel => exact ⟨j + 1, by omega, by omega, by go_num, hk7⟩
                  · go_wp2_with fail
                    go_roundg (n - (q + 1))
                    case measure => omega
                    case rel => exact ⟨q + 1, by omega, by omega, by go_num, hkj⟩
        · go_wp2_with fail
          go_ret
          exact ⟨rfl, hkept.out.trans hkq.out (fun _ _ e => e)⟩
end Go.Proofs.Qxb6603535a.Holds
