/- FnMultiNone, walked: it returns true, and changes nothing that was there. -/
import Derived.Test.YtmoecjhlonokfaaDoorSMulti
import Derived.Test.YtmoecjhlonokfaaDoorMulV
import Derived.Test.YtmoecjhlonokfaaDoorDrawM
import Derived.Test.YtmoecjhlonokfaaDoorSameG
import Derived.Test.YtmoecjhlonokfaaDoorLaw
import Derived.Test.YtmoecjhlonokfaaDoorSReads
import Derived.Deep.QuietTactic
import Derived.BigQuiet
import Derived.Deep.RegionHeld3
set_option linter.unusedVariables false
set_option linter.unusedSimpArgs false
namespace Go.Proofs.YtmoecjhlonokfaaDoor
open Go.RowKit

set_option maxHeartbeats 4000000 in
set_option maxRecDepth 100000 in
theorem multiNone_walk {B : Nat} {S : Nat → Prop} {w : World} {E : Nat → Addr} (hE : Errs B w E) (hBw : B ≤ w.heap.size) {A : Option Addr} {l : List Int} (c : Nat) (h : BytesAt S w A l) (hb : ∀ j, 0 ≤ nth l j ∧ nth l j ≤ 255) :
    Calls Tryd.prog 11 #[.slice A l.length c] w (LawPost w) := by
  by_cases hl : 1048576 < l.length
  · have hl' : (1048576 : Int) < (l.length : Int) := by omega
    clear hE h hb
    go_enter Tryd.func11, Tryd.ntmps11
    go_wp2_with fail
    go_ret
    exact ⟨rfl, Below.refl _ _⟩
  · have hl' : ¬ (1048576 : Int) < (l.length : Int) := by omega
    have C0 := Lib.hid (drawMulti_any c h (by omega) (fun j _ => hb j))
    have HE := Lib.hid hE
    clear h hb hE hl
    generalize l.length = len at *
    go_enter Tryd.func11, Tryd.ntmps11
    go_wp2_with fail
    refine C0.out.mono ?_
    rintro e w0 ⟨ss, A0, c0, zs, A1, c1, rfl, hn5, hsm, hzl, hcp, hS, hI, hb0⟩
    clear C0
    have hsz0 := hb0.size
    have HS := Lib.hid (hS.mono mvS (S' := (· < w0.heap.size)) fun k hk _ => hk)
    have HZ := Lib.hid (hI.mono (S' := (· < w0.heap.size)) fun k hk _ => hk)
    have HOK : Hid (SrcsOK ss) := Lib.hid fun st hst => ⟨by have := (hsm st hst).1; omega, fun i hi => by have := (hsm st hst).2 i hi; omega⟩
    have HEa := Lib.hid (HE.out.below (hb0.mono hBw))
    have hBa : B ≤ w0.heap.size := Nat.le_trans hBw hsz0
    have HBA := Lib.hid hb0
    have HB0 : Hid (Below w0.heap.size w0 w0) := Lib.hid (Below.refl _ _)
    have C1 := Lib.hid (validSources_any (w := w0) c0 (by omega) HOK.out HS.out)
    have C2 := fun (w' : World) (hb : Below w0.heap.size w0 w') => Lib.hid (validSizes_any c1 (by omega) (HZ.out.below hb))
    clear HE hS hI hb0 hsm
    go_wp2_with fail
    refine (C1.out).mono ?_
    rintro e w1 ⟨v, rfl, hv, hb1⟩
    have HB1 := Lib.hid (HB0.out.trans (hb1.mono HB0.out.size))
    have hsz1 := hb1.size
    have HV := Lib.hid hv
    clear hb1 hv C1
    cases v with
    | false =>
      clear HV
      go_wp2_with fail
      go_ret
      exact ⟨by first | rfl | simp, HBA.out.trans (HB1.out.mono HBA.out.size)⟩
    | true =>
      have HVV := Lib.hid (HV.out rfl)
      clear HV
      go_wp2_with fail
      refine ((C2 _ HB1.out).out).mono ?_
      rintro e w2 ⟨v2, rfl, hv2, hb2⟩
      have HB2 := Lib.hid (HB1.out.trans (hb2.mono HB1.out.size))
      have hsz2 := hb2.size
      have HV2 := Lib.hid hv2
      clear hb2 hv2 C2
      cases v2 with
      | false =>
        clear HV2
        go_wp2_with fail
        go_ret
        exact ⟨by first | rfl | simp, HBA.out.trans (HB2.out.mono HBA.out.size)⟩
      | true =>
        have HZZ := Lib.hid (HV2.out rfl)
        clear HV2
        have HC3 : Hid (Calls Tryd.prog 22 #[.slice none 0 0, .slice A1 zs.length c1] w2 (GotsPost (runs multiStep zs []).1 w2)) := Lib.hid (implMulti_any (ss := []) (S0 := fun _ => True) (A := none) (HEa.out.below (HB2.out.mono hBa)) (Nat.le_trans hBa HB2.out.size) 0 c1 (ElsAt.nil _ _ _) (by simp) (fun st h => by cases h) (fun t h => by cases h) (HZ.out.below HB2.out) HZZ.out (by omega))
        have hNl := runs_length multiStep zs []
        have HNN := Lib.hid (multiRuns_none zs)
        generalize (runs multiStep zs []).1 = N at *
        go_wp2_with fail
        refine (HC3.out).mono ?_
        rintro e w3 ⟨An, cn, rfl, hcn, hrn, hb3⟩
        have HB3 := Lib.hid (HB2.out.trans (hb3.mono HB2.out.size))
        have hsz3 := hb3.size
        have HRN := Lib.hid hrn
        clear hb3 hrn HC3
        generalize hnn : N.length = nn at *
        have HNL := Lib.hid hnn
        have HNZ := Lib.hid hNl
        have hnb : nn ≤ 1000 := by omega
        clear hnn hNl
        go_wp2_with fail
        go_loopg [6] nn (fun f i wr => ∃ k : Nat, k ≤ nn ∧ f = nn - k ∧ i = .int .i64 k ∧ wr = w3)
        case atStart => exact ⟨0, Nat.zero_le _, by omega, rfl, rfl⟩
        case round =>
          obtain ⟨k, hk, rfl, rfl, rfl⟩ := hrel
          by_cases hlt : k < nn
          · obtain ⟨rb, roff, rfl, _, _, hrc⟩ := HRN.out (by rw [HNL.out]; omega)
            obtain ⟨Ai, ci, g1, g2, _, _⟩ := hrc k (by rw [HNL.out]; omega)
            obtain ⟨hd0, he0⟩ := HNN.out k (by rw [← HNZ.out]; exact hlt)
            rw [hd0] at g1
            rw [he0] at g2
            simp only [List.length_nil] at g1
            have hki : (0 : Int) ≤ (k : Int) := by omega
            have hki2 : (k : Int) < (nn : Int) := by omega
            clear hrc hd0 he0
            go_wp2_with fail
            go_roundg (nn - (k + 1))
            case measure => omega
            case rel => exact ⟨k + 1, by omega, rfl, by go_num, rfl⟩
          · obtain ⟨w3, hw3⟩ : ∃ w3, w3 = wr := ⟨_, rfl⟩
            subst hw3
            clear HRN HNN HNL HNZ
            by_cases h0 : ss.length = 0
            · have h0' : ((ss.length : Int) == 0) = true := by simp [h0]
              go_wp2_with fail
              go_ret
              exact ⟨by first | rfl | simp, HBA.out.trans (HB3.out.mono HBA.out.size)⟩
            · have h0' : ((ss.length : Int) == 0) = false := by simp [h0]
              obtain ⟨ab, aoff, rfl, habS, hab, hcs⟩ := HS.out.srcAt (by omega)
              obtain ⟨Ai, ci, g1, hci, hrec⟩ := hcs 0 (by omega)
              rw [Nat.add_zero] at g1
              have hmem : ss.getD 0 [] ∈ ss := by rw [List.getD_eq_getElem?_getD, List.getElem?_eq_getElem (by omega)]; exact List.getElem_mem _
              have htk : ss.take 1 = [ss.getD 0 []] := by
                cases ss with
                | nil => simp at h0
                | cons x r => rfl
              have HT1 := Lib.hid (HS.out.take 1)
              rw [htk] at HT1
              obtain ⟨q1, q2⟩ := HOK.out _ hmem
              have HQ2 := Lib.hid q2
              have HVA : Hid (Valid (lastErr (ss.getD 0 [])) (ss.getD 0 [])) := Lib.hid (HVV.out (lastErr (ss.getD 0 []), ss.getD 0 []) (List.mem_map.2 ⟨_, hmem, rfl⟩))
              have HREC := Lib.hid hrec
              have hc1 : 1 ≤ c0 := by omega
              obtain ⟨hi, hhi, _, _, _⟩ := info_parts infoSrc
              have hsl : ∀ w' : World, (Instr.slice 40 (.slice (some ⟨ab, aoff, none⟩) ss.length c0) none (some (.int .i64 1)) none).run Tryd.prog w' = .ok (.slice (some ⟨ab, aoff, none⟩) 1 c0) w' := fun w' => slice_to (P := Tryd.prog) 40 (by kernel_rfl) hi (by rw [show Tryd.prog.elem 40 = 53 by kernel_rfl]; exact hhi) _ ss.length c0 1 hc1 w'
              have hsz3' : w0.heap.size ≤ w3.heap.size := HB3.out.size
              have g3 := (HB3.out.cell (p := ⟨ab, aoff, none⟩) habS).trans g1
              clear hcs hrec q2 htk hmem g1 HS HOK HVV hhi
              generalize ss.getD 0 [] = st at *
              generalize ss.length = nl at *
              have CL := Lib.hid (last_any ci (by omega) (HREC.out.below HB3.out))
              have h00 : (0 : Int) < (nl : Int) := by omega
              have h01 : 0 < nl := by omega
              go_wp2_with fail
              refine (CL.out).mono ?_
              rintro e w4 ⟨rfl, hb4⟩
              have HB4 := Lib.hid (HB3.out.trans (hb4.mono HB3.out.size))
              have hsz4 := hb4.size
              have y0 := (hb4.cell (p := ⟨ab, aoff, none⟩) (show ab < w3.heap.size by omega)).trans g3
              clear hb4 CL g3
              by_cases he : lastErr st = 1
              · have he' : (lastErr st != 1) = false := by simp [he]
                have hE := he
                rw [he] at HVA
                have HC5 : Hid (Calls Tryd.prog 22 #[.slice (some ⟨ab, aoff, none⟩) 1 c0, .slice A1 zs.length c1] w4.drew (GotsPost (runs (rd 1) zs st).1 w4.drew)) := Lib.hid (by
                  have := implMulti_any (ss := [st]) (HEa.out.below (HB4.out.drew.mono hBa)) (Nat.le_trans hBa HB4.out.size) c0 c1 (HT1.out.below mvS HB4.out.drew) (by simp) (fun x hx => by rw [List.mem_singleton.1 hx]; exact ⟨q1, HQ2.out⟩) (fun t ht => by simp only [srcs, List.map_cons, List.map_nil, List.mem_singleton] at ht; rw [ht, hE]; exact HVA.out) (HZ.out.below HB4.out.drew) HZZ.out (by omega)
                  rw [show srcs [st] = [(1, st)] by simp [srcs, hE], multiRuns_one zs st HVA.out] at this
                  exact this)
                have HC6 : Hid (∀ w' : World, Below w0.heap.size w0 w' → Calls Tryd.prog 27 #[.agg #[.slice Ai st.length ci], .slice A1 zs.length c1] w' (GotsPost (runs (rd 1) zs st).1 w')) := Lib.hid fun w' hb => by
                  have := specReads_any ci c1 (HREC.out.below hb) (by omega) (fun i hi => by have := HQ2.out i hi; omega) (HZ.out.below hb) HZZ.out (by omega)
                  rw [hE] at this
                  exact this
                have hRl := runs_length (rd 1) zs st
                have HRS := Lib.hid (runs_lens (step := rd 1) (rd_len 1) (t := st) HZZ.out)
                have HLEN := Lib.hid (show (runs (rd 1) zs st).1.length ≤ 281474976710656 by omega)
                have HRS' : Hid (∀ i, i < (runs (rd 1) zs st).1.length → (dat (runs (rd 1) zs st).1 i).length ≤ 281474976710656) := Lib.hid fun i hi => by have := HRS.out i hi; omega
                generalize (runs (rd 1) zs st).1 = R at *
                clear hE he HVA hRl HRS HT1 HQ2 HREC HZZ HZ HEa
                generalize st.length = sl at *
                generalize zs.length = zl at *
                go_wp2_with fail
                go_region_held3 (fun w' => w'.cell? ⟨ab, aoff, none⟩ = some (.slice Ai sl ci))
                  (first
                    | go_keep
                    | exact y0
                    | exact y2
                    | exact y3
                    | exact y4)
                  (first
                    | (go_at_call 22; refine HC5.out.mono ?_; rintro e w5 ⟨Aa, ca, rfl, hca, hra, hb5⟩; have hB5 := HB4.out.drew.trans (hb5.mono HB4.out.size); have y2 := (hb5.cell (p := ⟨ab, aoff, none⟩) (show ab < w4.heap.size by omega)).trans y0; have hsz5a : w4.heap.size ≤ w5.heap.size := hb5.size)
                    | (go_at_call 27; refine (HC6.out w5 hB5).mono ?_; rintro e w6 ⟨Ab, cb, rfl, hcb, hrb, hb6⟩; have hB6 := hB5.trans (hb6.mono hB5.size); have y3 := (hb6.cell (p := ⟨ab, aoff, none⟩) (show ab < w5.heap.size by omega)).trans y2; have hra4 := (hra.mono (S' := (· < w5.heap.size)) fun k hk _ => hk).below hb6; have hsz6 := hb6.size)
                    | (go_at_call 21; refine (sameGots_eq ca cb HLEN.out HRS'.out hra4 hrb).mono ?_; rintro e w7 ⟨rfl, hb7⟩; have hB7 := hB6.trans (hb7.mono hB6.size); have y4 := (hb7.cell (p := ⟨ab, aoff, none⟩) (show ab < w6.heap.size by omega)).trans y3))
                have HB7 := Lib.hid hB7
                clear hB5 hB6 hB7 hra hrb hra4 hb5 hb6 hb7 y0 y2 y3 y4
                go_wp2_with fail
                go_ret
                exact ⟨by first | rfl | simp, HBA.out.trans (HB7.out.mono HBA.out.size)⟩
              · have he' : (lastErr st != 1) = true := by simp [he]
                go_wp2_with fail
                go_ret
                exact ⟨by first | rfl | simp, HBA.out.trans (HB4.out.mono HBA.out.size)⟩

end Go.Proofs.YtmoecjhlonokfaaDoor
