/- io.copyBuffer from a limited reader to the program's own sink. -/
import Derived.Test.YtmhhblfolfojbaaDoorCopyB
set_option linter.unusedVariables false
set_option linter.unusedSimpArgs false
namespace Go.Proofs.YtmhhblfolfojbaaDoor
open Go.RowKit

section
variable {τ : Type} {B : Nat} {E : Nat → Addr} {ty : TypeId} {rb : Nat} {f : FuncId} {I : τ → (Nat → Prop) → World → Prop} {step : τ → Nat → (List Int × Int) × τ}

set_option maxHeartbeats 4000000 in
set_option maxRecDepth 100000 in
theorem copyBuffer_lim (R : Rdr B E ty rb f I step) (μ ν : τ → Nat) (hμ : ∀ t F w m, I t F w → 0 < m → (step t m).1.2 = 0 → μ (step t m).2 < μ t) (hν : ∀ t F w m, I t F w → (step t m).1.1.length + ν (step t m).2 ≤ ν t)
    (hWT : ∀ w, (Instr.typeAssert (.iface ty (.pointer (some ⟨rb, 0, none⟩))) 82 93 true).run Tryd.prog w = .ok (.tuple #[.nilIface, .bool false]) w)
    {w : World} (n : Nat) (hnb : (n : Int) ≤ 9223372036854775807) (hcn : w.cell? ⟨rb, 1, none⟩ = some (.int .i64 n)) (hta : ∀ w, (Instr.typeAssert (.iface ty (.pointer (some ⟨rb, 0, none⟩))) 82 89 true).run Tryd.prog w = .ok (.tuple #[.pointer (some ⟨rb, 0, none⟩), .bool true]) w)
    (hE : Errs B w E) (hBw : B ≤ w.heap.size) {t : τ} {F G : Nat → Prop} (hI : I t F w) {sb left : Nat} (hW : WrAt G w sb left []) (hBG : ∀ k, G k → B ≤ k) (hFG : ∀ k, F k → ¬ G k) (hleft : (left : Int) ≤ 9223372036854775807) (hN : ν t ≤ 70368744177664) :
    Calls Tryd.prog 41 #[.iface 58 (.pointer (some ⟨sb, 0, none⟩)), .iface ty (.pointer (some ⟨rb, 0, none⟩)), .slice none 0 0] w (CpPost E sb F G (copyP step (bufSize (some n)) (μ t + 1) t left []) w) := by
  have hRF := noReadFrom (.pointer (some ⟨sb, 0, none⟩))
  have hNB := nilBuf
  have hsz0 := bufSize_pos (some n)
  have hsz1 := bufSize_le (some n)
  obtain ⟨pc, hpc, hmk⟩ := make_bytes (bufSize (some n)) (by omega)
  have HI0 : Hid (CpInv B I step μ ν (bufSize (some n)) (ν t) sb w.heap.size left F G (copyP step (bufSize (some n)) (μ t + 1) t left []) w (μ t + 1) (.int .i64 0) .nilIface (w.alloc (.cells pc.toArray 5))) := Lib.hid (by
    refine ⟨t, F, G, left, [], pc, rfl, rfl, rfl, Nat.le_refl _, by simp, Nat.le_refl _, ⟨R.kept hI ((Kept.refl (fun _ => False) _).alloc _) fun _ _ _ hf => hf, hW.kept ((Kept.refl (fun _ => False) _).alloc _) fun _ _ _ hf => hf, Blk.new _ _ _, hpc, (Kept.refl _ _).alloc _, fun k hF => ⟨hFG k hF, fun e => ?_, .inl hF⟩, fun k hG => ⟨fun e => ?_, hBG k hG, .inl hG⟩⟩⟩
    · have := (R.lo hI hF).2; omega
    · obtain ⟨_, _, _, _, _, _, h5⟩ := hW
      have := h5 k hG; omega)
  have HE := Lib.hid hE
  have HBFG : Hid (∀ k, F k ∨ G k → B ≤ k) := Lib.hid fun k hk => by
    rcases hk with h | h
    · exact (R.lo hI h).1
    · exact hBG k h
  have HR := Lib.hid R
  have HM := Lib.hid hμ
  have HNU := Lib.hid hν
  have hnilR := R.nil
  have hmetR := R.met
  have hentR := R.ent
  have hnilW := nilAhead_write ⟨sb, 0, none⟩
  have hmetW := method_write ⟨sb, 0, none⟩
  generalize hRes : copyP step (bufSize (some n)) (μ t + 1) t left [] = Res at *
  clear hE R hμ hν hI hW hBG hFG hRes hpc
  have hmk' : ∀ z : Int, z = ((bufSize (some n) : Nat) : Int) → ∀ w, (Instr.makeSlice 22 (.int .i64 z) (.int .i64 z)).run Tryd.prog w = .ok (.slice (some ⟨w.heap.size, 0, none⟩) (bufSize (some n)) (bufSize (some n))) (w.alloc (.cells pc.toArray 5)) := fun z hz => by subst hz; exact hmk
  by_cases hn : n < 1
  · obtain rfl : n = 0 := by omega
    have hmz := hmk' 1 (by simp [bufSize])
    have hcn' : w.cell? ⟨rb, 1, none⟩ = some (.int .i64 0) := hcn
    clear hmk hmk' hcn hn
    generalize bufSize (some 0) = size at *
    go_enter Tryd.func41, Tryd.ntmps41
    go_wp2_with fail
    clear hnb hcn'
    clear hta hmz hRF hWT hNB
    go_loopg [6, 7] (μ t + 1) (fun f n y wr => CpInv B I step μ ν size (ν t) sb w.heap.size left F G Res w f n y wr)
    case atStart => exact HI0.out
    case round =>
      obtain ⟨t', F', G', left', data, pc', rfl, rfl, hfut, hroom, hN', hle', hst⟩ := hrel
      obtain ⟨f', rfl⟩ : ∃ f', gk = f' + 1 := ⟨gk - 1, by omega⟩
      have hEr : Errs B wr E := HE.out.below (hst.2.2.2.2.1.below hBw fun i hi e => by have := HBFG.out i e; omega)
      have hszr := hst.2.2.2.2.1.size
      have C := HR.out.read (pb := w.heap.size) (pc := pc') (P := some ⟨w.heap.size, 0, none⟩) (m := size) (poff := 0) size hst.1 hEr (Nat.le_trans hBw hszr) hst.2.2.1 (fun h => (hst.2.2.2.2.2.1 _ h).2.1 rfl) hBw (by have := hst.2.2.2.1; omega) (fun _ => rfl) (Nat.le_refl _) (by omega)
      have hlen := HR.out.len t' size
      have herr := HR.out.err size hst.1
      have hm := HM.out t' F' wr size hst.1 hsz0
      have hn' := HNU.out t' F' wr size hst.1
      have hfull := copyP_full (step := step) (size := size) (f := f') (left := left') (t := t') (data := data)
      have hgo := copyP_go (step := step) (size := size) (f := f') (left := left') (t := t') (data := data)
      have hend := copyP_end (step := step) (size := size) (f := f') (left := left') (t := t') (data := data)
      unfold ReadPost at C
      rw [hfut] at hfull hgo hend
      generalize step t' size = r at C hlen herr hm hn' hfull hgo hend
      obtain ⟨⟨nd, ne⟩, t1⟩ := r
      simp only at C hlen herr hm hn' hfull hgo hend
      have C' := Lib.hid C
      have HST := Lib.hid hst
      have HERR := Lib.hid herr
      have HMM := Lib.hid hm
      have HFU := Lib.hid hfull
      have HGO := Lib.hid hgo
      have HEN := Lib.hid hend
      clear C hst herr hm hfull hgo hend hfut hEr
      go_wp2_with fail
      refine C'.out.mono ?_
      rintro e w1 ⟨rfl, ⟨F1, hI1, hF1⟩, hblk1, hkept1⟩
      have hst1 := cp_read HR.out HST.out (Nat.le_refl _) hI1 hF1 hblk1 hkept1 hlen
      have hsz1' := hkept1.size
      have hby : BytesAt (· = w.heap.size) w1.drew (some ⟨w.heap.size, 0, none⟩) nd := by
        have := hblk1
        unfold splice at this
        rw [List.take_zero, List.nil_append] at this
        exact (blk_bytes this).drew
      have hE1 : Errs B w1 E := HE.out.below (hst1.2.2.2.2.1.below hBw fun i hi e => by have := HBFG.out i e; omega)
      have hst1d := hst1.drewN HR.out 1
      have CW := write_any hE1.drew (show B ≤ w1.heap.size by omega) (fun k hG => (hst1d.2.2.2.2.2.2 k hG).2.1) hst1d.2.1 size hby hlen (by omega) (by omega)
      have HST1 := Lib.hid hst1
      have HST1D := Lib.hid hst1d
      have HE1 := Lib.hid hE1
      have CW' := Lib.hid CW
      have hnw := List.length_take (i := left') (l := nd)
      clear C' HST hI1 hF1 hblk1 hkept1 hst1 hst1d hE1 CW hby
      by_cases h0 : nd.length = 0
      · have hnil : nd = [] := List.eq_nil_of_length_eq_zero h0
        subst hnil
        simp only [List.length_nil, Nat.not_lt_zero, not_false_eq_true, Nat.sub_zero, List.append_nil, forall_const] at HGO HEN ⊢
        clear CW' HFU hnw h0
        by_cases hne : ne = 0
        · subst hne
          have hm0 := HMM.out rfl
          have HG1 := Lib.hid (HGO.out rfl)
          clear HGO HEN HMM HERR
          rw [errV_zero]
          go_wp2_with fail
          go_roundg f'
          case measure => omega
          case rel => exact ⟨t1, F1, G', left', data, _, rfl, rfl, HG1.out.symm, by omega, by simp at hn'; omega, hle', HST1.out⟩
        · obtain ⟨k, rfl, hk, hk3⟩ := isErr_3 HERR.out hne
          have HR1 := Lib.hid (HEN.out hne)
          have hneq := neqE HE1.out k 1 hk rfl
          have hc1 := HE1.out.cell 1 rfl
          simp only [errG] at hc1
          rw [errV_pos E k hk]
          clear HGO HEN HMM HERR hne
          rcases hk3 with rfl | rfl | rfl
          all_goals
            go_wp2_with fail
            go_ret2
            exact cp_post HST1.out HR1.out rfl rfl
      · have h0' : 0 < nd.length := by omega
        have hsl := slice_bytes_0 (some ⟨w.heap.size, 0, none⟩) size size nd.length hlen
        unfold WrPost at CW'
        clear h0
        by_cases hfl : left' < nd.length
        · rw [if_pos hfl, show errV E 3 = .iface 101 (.pointer (some (E 3))) from errV_pos E 3 rfl, hnw, Nat.min_eq_left (by omega)] at CW'
          have ha : ¬ ((left' : Int) < 0) := by omega
          have hb : decide (nd.length < left') = false := by simp; omega
          have hbd : (data.length : Int) + (left' : Int) ≤ 9223372036854775807 := by omega
          have HR1 := Lib.hid (HFU.out hfl)
          have HNL := Lib.hid (show (data.length : Int) + (left' : Int) = ((data ++ nd.take left').length : Int) by rw [List.length_append, hnw]; omega)
          clear HFU HGO HEN HMM HERR hfl hnw
          go_wp2_with fail
          go_region_with (go_at_call 58; refine CW'.out.mono ?_; rintro e w2 ⟨rfl, ⟨G1, hW2, hG1⟩, hkept2⟩; have hst2 := cp_write HR.out HST1D.out hBw hW2 hG1 hkept2; have HST2 := Lib.hid hst2; clear hst2 hW2 hG1 hkept2)
          go_wp2_with fail
          go_ret2
          exact cp_post HST2.out HR1.out HNL.out (errV_pos E 3 rfl).symm
        · rw [if_neg hfl, errV_zero, List.take_of_length_le (by omega)] at CW'
          have ha : ¬ ((nd.length : Int) < 0) := by omega
          have HNL := Lib.hid (show (data.length : Int) + (nd.length : Int) = ((data ++ nd).length : Int) by rw [List.length_append]; omega)
          by_cases hne : ne = 0
          · subst hne
            have hm0 := HMM.out rfl
            have HG1 := Lib.hid (HGO.out hfl rfl)
            clear HFU HGO HEN HMM HERR hfl hnw
            rw [errV_zero]
            go_wp2_with fail
            go_region_with (go_at_call 58; refine CW'.out.mono ?_; rintro e w2 ⟨rfl, ⟨G1, hW2, hG1⟩, hkept2⟩; have hst2 := cp_write HR.out HST1D.out hBw hW2 hG1 hkept2; have HST2 := Lib.hid hst2; clear hst2 hW2 hG1 hkept2)
            go_wp2_with fail
            go_roundg f'
            case measure => omega
            case rel => exact ⟨t1, F1, G1, left' - nd.length, data ++ nd, _, by rw [HNL.out], rfl, HG1.out.symm, by omega, by rw [List.length_append]; omega, by omega, HST2.out⟩
          · obtain ⟨k, rfl, hk, hk3⟩ := isErr_3 HERR.out hne
            have HR1 := Lib.hid (HEN.out hfl hne)
            rw [errV_pos E k hk]
            clear HFU HGO HEN HMM HERR hfl hne hnw
            go_wp2_with fail
            go_region_with (go_at_call 58; refine CW'.out.mono ?_; rintro e w2 ⟨rfl, ⟨G1, hW2, hG1⟩, hkept2⟩; have hst2 := cp_write HR.out HST1D.out hBw hW2 hG1 hkept2; have hE2 : Errs B w2 E := HE.out.below (hst2.2.2.2.2.1.below hBw fun i hi e => by have := HBFG.out i e; omega); have HST2 := Lib.hid hst2; have hneq := neqE hE2 k 1 hk rfl; have hc1 := hE2.cell 1 rfl; clear hst2 hW2 hG1 hkept2 hE2)
            simp only [errG] at hc1
            rcases hk3 with rfl | rfl | rfl
            all_goals
              go_wp2_with fail
              go_ret2
              exact cp_post HST2.out HR1.out HNL.out rfl
  by_cases hn2 : n < 32768
  · have hmz := hmk' n (by unfold bufSize; simp only; rw [if_pos hn2, if_neg (by omega)])
    have hn3 : (n : Int) < 32768 := by omega
    have hn4 : ¬ (n : Int) < 1 := by omega
    clear hmk hmk'
    generalize bufSize (some n) = size at *
    go_enter Tryd.func41, Tryd.ntmps41
    go_wp2_with fail
    clear hnb hcn hn hn2 hn3 hn4
    clear hta hmz hRF hWT hNB
    go_loopg [6, 7] (μ t + 1) (fun f n y wr => CpInv B I step μ ν size (ν t) sb w.heap.size left F G Res w f n y wr)
    case atStart => exact HI0.out
    case round =>
      obtain ⟨t', F', G', left', data, pc', rfl, rfl, hfut, hroom, hN', hle', hst⟩ := hrel
      obtain ⟨f', rfl⟩ : ∃ f', gk = f' + 1 := ⟨gk - 1, by omega⟩
      have hEr : Errs B wr E := HE.out.below (hst.2.2.2.2.1.below hBw fun i hi e => by have := HBFG.out i e; omega)
      have hszr := hst.2.2.2.2.1.size
      have C := HR.out.read (pb := w.heap.size) (pc := pc') (P := some ⟨w.heap.size, 0, none⟩) (m := size) (poff := 0) size hst.1 hEr (Nat.le_trans hBw hszr) hst.2.2.1 (fun h => (hst.2.2.2.2.2.1 _ h).2.1 rfl) hBw (by have := hst.2.2.2.1; omega) (fun _ => rfl) (Nat.le_refl _) (by omega)
      have hlen := HR.out.len t' size
      have herr := HR.out.err size hst.1
      have hm := HM.out t' F' wr size hst.1 hsz0
      have hn' := HNU.out t' F' wr size hst.1
      have hfull := copyP_full (step := step) (size := size) (f := f') (left := left') (t := t') (data := data)
      have hgo := copyP_go (step := step) (size := size) (f := f') (left := left') (t := t') (data := data)
      have hend := copyP_end (step := step) (size := size) (f := f') (left := left') (t := t') (data := data)
      unfold ReadPost at C
      rw [hfut] at hfull hgo hend
      generalize step t' size = r at C hlen herr hm hn' hfull hgo hend
      obtain ⟨⟨nd, ne⟩, t1⟩ := r
      simp only at C hlen herr hm hn' hfull hgo hend
      have C' := Lib.hid C
      have HST := Lib.hid hst
      have HERR := Lib.hid herr
      have HMM := Lib.hid hm
      have HFU := Lib.hid hfull
      have HGO := Lib.hid hgo
      have HEN := Lib.hid hend
      clear C hst herr hm hfull hgo hend hfut hEr
      go_wp2_with fail
      refine C'.out.mono ?_
      rintro e w1 ⟨rfl, ⟨F1, hI1, hF1⟩, hblk1, hkept1⟩
      have hst1 := cp_read HR.out HST.out (Nat.le_refl _) hI1 hF1 hblk1 hkept1 hlen
      have hsz1' := hkept1.size
      have hby : BytesAt (· = w.heap.size) w1.drew (some ⟨w.heap.size, 0, none⟩) nd := by
        have := hblk1
        unfold splice at this
        rw [List.take_zero, List.nil_append] at this
        exact (blk_bytes this).drew
      have hE1 : Errs B w1 E := HE.out.below (hst1.2.2.2.2.1.below hBw fun i hi e => by have := HBFG.out i e; omega)
      have hst1d := hst1.drewN HR.out 1
      have CW := write_any hE1.drew (show B ≤ w1.heap.size by omega) (fun k hG => (hst1d.2.2.2.2.2.2 k hG).2.1) hst1d.2.1 size hby hlen (by omega) (by omega)
      have HST1 := Lib.hid hst1
      have HST1D := Lib.hid hst1d
      have HE1 := Lib.hid hE1
      have CW' := Lib.hid CW
      have hnw := List.length_take (i := left') (l := nd)
      clear C' HST hI1 hF1 hblk1 hkept1 hst1 hst1d hE1 CW hby
      by_cases h0 : nd.length = 0
      · have hnil : nd = [] := List.eq_nil_of_length_eq_zero h0
        subst hnil
        simp only [List.length_nil, Nat.not_lt_zero, not_false_eq_true, Nat.sub_zero, List.append_nil, forall_const] at HGO HEN ⊢
        clear CW' HFU hnw h0
        by_cases hne : ne = 0
        · subst hne
          have hm0 := HMM.out rfl
          have HG1 := Lib.hid (HGO.out rfl)
          clear HGO HEN HMM HERR
          rw [errV_zero]
          go_wp2_with fail
          go_roundg f'
          case measure => omega
          case rel => exact ⟨t1, F1, G', left', data, _, rfl, rfl, HG1.out.symm, by omega, by simp at hn'; omega, hle', HST1.out⟩
        · obtain ⟨k, rfl, hk, hk3⟩ := isErr_3 HERR.out hne
          have HR1 := Lib.hid (HEN.out hne)
          have hneq := neqE HE1.out k 1 hk rfl
          have hc1 := HE1.out.cell 1 rfl
          simp only [errG] at hc1
          rw [errV_pos E k hk]
          clear HGO HEN HMM HERR hne
          rcases hk3 with rfl | rfl | rfl
          all_goals
            go_wp2_with fail
            go_ret2
            exact cp_post HST1.out HR1.out rfl rfl
      · have h0' : 0 < nd.length := by omega
        have hsl := slice_bytes_0 (some ⟨w.heap.size, 0, none⟩) size size nd.length hlen
        unfold WrPost at CW'
        clear h0
        by_cases hfl : left' < nd.length
        · rw [if_pos hfl, show errV E 3 = .iface 101 (.pointer (some (E 3))) from errV_pos E 3 rfl, hnw, Nat.min_eq_left (by omega)] at CW'
          have ha : ¬ ((left' : Int) < 0) := by omega
          have hb : decide (nd.length < left') = false := by simp; omega
          have hbd : (data.length : Int) + (left' : Int) ≤ 9223372036854775807 := by omega
          have HR1 := Lib.hid (HFU.out hfl)
          have HNL := Lib.hid (show (data.length : Int) + (left' : Int) = ((data ++ nd.take left').length : Int) by rw [List.length_append, hnw]; omega)
          clear HFU HGO HEN HMM HERR hfl hnw
          go_wp2_with fail
          go_region_with (go_at_call 58; refine CW'.out.mono ?_; rintro e w2 ⟨rfl, ⟨G1, hW2, hG1⟩, hkept2⟩; have hst2 := cp_write HR.out HST1D.out hBw hW2 hG1 hkept2; have HST2 := Lib.hid hst2; clear hst2 hW2 hG1 hkept2)
          go_wp2_with fail
          go_ret2
          exact cp_post HST2.out HR1.out HNL.out (errV_pos E 3 rfl).symm
        · rw [if_neg hfl, errV_zero, List.take_of_length_le (by omega)] at CW'
          have ha : ¬ ((nd.length : Int) < 0) := by omega
          have HNL := Lib.hid (show (data.length : Int) + (nd.length : Int) = ((data ++ nd).length : Int) by rw [List.length_append]; omega)
          by_cases hne : ne = 0
          · subst hne
            have hm0 := HMM.out rfl
            have HG1 := Lib.hid (HGO.out hfl rfl)
            clear HFU HGO HEN HMM HERR hfl hnw
            rw [errV_zero]
            go_wp2_with fail
            go_region_with (go_at_call 58; refine CW'.out.mono ?_; rintro e w2 ⟨rfl, ⟨G1, hW2, hG1⟩, hkept2⟩; have hst2 := cp_write HR.out HST1D.out hBw hW2 hG1 hkept2; have HST2 := Lib.hid hst2; clear hst2 hW2 hG1 hkept2)
            go_wp2_with fail
            go_roundg f'
            case measure => omega
            case rel => exact ⟨t1, F1, G1, left' - nd.length, data ++ nd, _, by rw [HNL.out], rfl, HG1.out.symm, by omega, by rw [List.length_append]; omega, by omega, HST2.out⟩
          · obtain ⟨k, rfl, hk, hk3⟩ := isErr_3 HERR.out hne
            have HR1 := Lib.hid (HEN.out hfl hne)
            rw [errV_pos E k hk]
            clear HFU HGO HEN HMM HERR hfl hne hnw
            go_wp2_with fail
            go_region_with (go_at_call 58; refine CW'.out.mono ?_; rintro e w2 ⟨rfl, ⟨G1, hW2, hG1⟩, hkept2⟩; have hst2 := cp_write HR.out HST1D.out hBw hW2 hG1 hkept2; have hE2 : Errs B w2 E := HE.out.below (hst2.2.2.2.2.1.below hBw fun i hi e => by have := HBFG.out i e; omega); have HST2 := Lib.hid hst2; have hneq := neqE hE2 k 1 hk rfl; have hc1 := hE2.cell 1 rfl; clear hst2 hW2 hG1 hkept2 hE2)
            simp only [errG] at hc1
            rcases hk3 with rfl | rfl | rfl
            all_goals
              go_wp2_with fail
              go_ret2
              exact cp_post HST2.out HR1.out HNL.out rfl
  · have hmz := hmk' 32768 (by unfold bufSize; simp only; rw [if_neg (by omega)]; rfl)
    have hn3 : ¬ (n : Int) < 32768 := by omega
    clear hmk hmk'
    generalize bufSize (some n) = size at *
    go_enter Tryd.func41, Tryd.ntmps41
    go_wp2_with fail
    clear hnb hcn hn hn2 hn3
    clear hta hmz hRF hWT hNB
    go_loopg [6, 7] (μ t + 1) (fun f n y wr => CpInv B I step μ ν size (ν t) sb w.heap.size left F G Res w f n y wr)
    case atStart => exact HI0.out
    case round =>
      obtain ⟨t', F', G', left', data, pc', rfl, rfl, hfut, hroom, hN', hle', hst⟩ := hrel
      obtain ⟨f', rfl⟩ : ∃ f', gk = f' + 1 := ⟨gk - 1, by omega⟩
      have hEr : Errs B wr E := HE.out.below (hst.2.2.2.2.1.below hBw fun i hi e => by have := HBFG.out i e; omega)
      have hszr := hst.2.2.2.2.1.size
      have C := HR.out.read (pb := w.heap.size) (pc := pc') (P := some ⟨w.heap.size, 0, none⟩) (m := size) (poff := 0) size hst.1 hEr (Nat.le_trans hBw hszr) hst.2.2.1 (fun h => (hst.2.2.2.2.2.1 _ h).2.1 rfl) hBw (by have := hst.2.2.2.1; omega) (fun _ => rfl) (Nat.le_refl _) (by omega)
      have hlen := HR.out.len t' size
      have herr := HR.out.err size hst.1
      have hm := HM.out t' F' wr size hst.1 hsz0
      have hn' := HNU.out t' F' wr size hst.1
      have hfull := copyP_full (step := step) (size := size) (f := f') (left := left') (t := t') (data := data)
      have hgo := copyP_go (step := step) (size := size) (f := f') (left := left') (t := t') (data := data)
      have hend := copyP_end (step := step) (size := size) (f := f') (left := left') (t := t') (data := data)
      unfold ReadPost at C
      rw [hfut] at hfull hgo hend
      generalize step t' size = r at C hlen herr hm hn' hfull hgo hend
      obtain ⟨⟨nd, ne⟩, t1⟩ := r
      simp only at C hlen herr hm hn' hfull hgo hend
      have C' := Lib.hid C
      have HST := Lib.hid hst
      have HERR := Lib.hid herr
      have HMM := Lib.hid hm
      have HFU := Lib.hid hfull
      have HGO := Lib.hid hgo
      have HEN := Lib.hid hend
      clear C hst herr hm hfull hgo hend hfut hEr
      go_wp2_with fail
      refine C'.out.mono ?_
      rintro e w1 ⟨rfl, ⟨F1, hI1, hF1⟩, hblk1, hkept1⟩
      have hst1 := cp_read HR.out HST.out (Nat.le_refl _) hI1 hF1 hblk1 hkept1 hlen
      have hsz1' := hkept1.size
      have hby : BytesAt (· = w.heap.size) w1.drew (some ⟨w.heap.size, 0, none⟩) nd := by
        have := hblk1
        unfold splice at this
        rw [List.take_zero, List.nil_append] at this
        exact (blk_bytes this).drew
      have hE1 : Errs B w1 E := HE.out.below (hst1.2.2.2.2.1.below hBw fun i hi e => by have := HBFG.out i e; omega)
      have hst1d := hst1.drewN HR.out 1
      have CW := write_any hE1.drew (show B ≤ w1.heap.size by omega) (fun k hG => (hst1d.2.2.2.2.2.2 k hG).2.1) hst1d.2.1 size hby hlen (by omega) (by omega)
      have HST1 := Lib.hid hst1
      have HST1D := Lib.hid hst1d
      have HE1 := Lib.hid hE1
      have CW' := Lib.hid CW
      have hnw := List.length_take (i := left') (l := nd)
      clear C' HST hI1 hF1 hblk1 hkept1 hst1 hst1d hE1 CW hby
      by_cases h0 : nd.length = 0
      · have hnil : nd = [] := List.eq_nil_of_length_eq_zero h0
        subst hnil
        simp only [List.length_nil, Nat.not_lt_zero, not_false_eq_true, Nat.sub_zero, List.append_nil, forall_const] at HGO HEN ⊢
        clear CW' HFU hnw h0
        by_cases hne : ne = 0
        · subst hne
          have hm0 := HMM.out rfl
          have HG1 := Lib.hid (HGO.out rfl)
          clear HGO HEN HMM HERR
          rw [errV_zero]
          go_wp2_with fail
          go_roundg f'
          case measure => omega
          case rel => exact ⟨t1, F1, G', left', data, _, rfl, rfl, HG1.out.symm, by omega, by simp at hn'; omega, hle', HST1.out⟩
        · obtain ⟨k, rfl, hk, hk3⟩ := isErr_3 HERR.out hne
          have HR1 := Lib.hid (HEN.out hne)
          have hneq := neqE HE1.out k 1 hk rfl
          have hc1 := HE1.out.cell 1 rfl
          simp only [errG] at hc1
          rw [errV_pos E k hk]
          clear HGO HEN HMM HERR hne
          rcases hk3 with rfl | rfl | rfl
          all_goals
            go_wp2_with fail
            go_ret2
            exact cp_post HST1.out HR1.out rfl rfl
      · have h0' : 0 < nd.length := by omega
        have hsl := slice_bytes_0 (some ⟨w.heap.size, 0, none⟩) size size nd.length hlen
        unfold WrPost at CW'
        clear h0
        by_cases hfl : left' < nd.length
        · rw [if_pos hfl, show errV E 3 = .iface 101 (.pointer (some (E 3))) from errV_pos E 3 rfl, hnw, Nat.min_eq_left (by omega)] at CW'
          have ha : ¬ ((left' : Int) < 0) := by omega
          have hb : decide (nd.length < left') = false := by simp; omega
          have hbd : (data.length : Int) + (left' : Int) ≤ 9223372036854775807 := by omega
          have HR1 := Lib.hid (HFU.out hfl)
          have HNL := Lib.hid (show (data.length : Int) + (left' : Int) = ((data ++ nd.take left').length : Int) by rw [List.length_append, hnw]; omega)
          clear HFU HGO HEN HMM HERR hfl hnw
          go_wp2_with fail
          go_region_with (go_at_call 58; refine CW'.out.mono ?_; rintro e w2 ⟨rfl, ⟨G1, hW2, hG1⟩, hkept2⟩; have hst2 := cp_write HR.out HST1D.out hBw hW2 hG1 hkept2; have HST2 := Lib.hid hst2; clear hst2 hW2 hG1 hkept2)
          go_wp2_with fail
          go_ret2
          exact cp_post HST2.out HR1.out HNL.out (errV_pos E 3 rfl).symm
        · rw [if_neg hfl, errV_zero, List.take_of_length_le (by omega)] at CW'
          have ha : ¬ ((nd.length : Int) < 0) := by omega
          have HNL := Lib.hid (show (data.length : Int) + (nd.length : Int) = ((data ++ nd).length : Int) by rw [List.length_append]; omega)
          by_cases hne : ne = 0
          · subst hne
            have hm0 := HMM.out rfl
            have HG1 := Lib.hid (HGO.out hfl rfl)
            clear HFU HGO HEN HMM HERR hfl hnw
            rw [errV_zero]
            go_wp2_with fail
            go_region_with (go_at_call 58; refine CW'.out.mono ?_; rintro e w2 ⟨rfl, ⟨G1, hW2, hG1⟩, hkept2⟩; have hst2 := cp_write HR.out HST1D.out hBw hW2 hG1 hkept2; have HST2 := Lib.hid hst2; clear hst2 hW2 hG1 hkept2)
            go_wp2_with fail
            go_roundg f'
            case measure => omega
            case rel => exact ⟨t1, F1, G1, left' - nd.length, data ++ nd, _, by rw [HNL.out], rfl, HG1.out.symm, by omega, by rw [List.length_append]; omega, by omega, HST2.out⟩
          · obtain ⟨k, rfl, hk, hk3⟩ := isErr_3 HERR.out hne
            have HR1 := Lib.hid (HEN.out hfl hne)
            rw [errV_pos E k hk]
            clear HFU HGO HEN HMM HERR hfl hne hnw
            go_wp2_with fail
            go_region_with (go_at_call 58; refine CW'.out.mono ?_; rintro e w2 ⟨rfl, ⟨G1, hW2, hG1⟩, hkept2⟩; have hst2 := cp_write HR.out HST1D.out hBw hW2 hG1 hkept2; have hE2 : Errs B w2 E := HE.out.below (hst2.2.2.2.2.1.below hBw fun i hi e => by have := HBFG.out i e; omega); have HST2 := Lib.hid hst2; have hneq := neqE hE2 k 1 hk rfl; have hc1 := hE2.cell 1 rfl; clear hst2 hW2 hG1 hkept2 hE2)
            simp only [errG] at hc1
            rcases hk3 with rfl | rfl | rfl
            all_goals
              go_wp2_with fail
              go_ret2
              exact cp_post HST2.out HR1.out HNL.out rfl
end

end Go.Proofs.YtmhhblfolfojbaaDoor
