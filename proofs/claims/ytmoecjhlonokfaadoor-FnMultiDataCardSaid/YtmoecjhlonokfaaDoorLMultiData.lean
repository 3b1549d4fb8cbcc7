/- FnMultiData, walked: it returns true, and changes nothing that was there. -/
import Derived.Test.YtmoecjhlonokfaaDoorSMulti
import Derived.Test.YtmoecjhlonokfaaDoorMulV
import Derived.Test.YtmoecjhlonokfaaDoorDrawM
import Derived.Test.YtmoecjhlonokfaaDoorSameG
import Derived.Test.YtmoecjhlonokfaaDoorLaw
import Derived.Test.YtmoecjhlonokfaaDoorMulQ
import Derived.Test.YtmoecjhlonokfaaDoorSame
import Derived.Deep.QuietTactic
import Derived.BigQuiet
import Derived.Deep.RegionHeld3
set_option linter.unusedVariables false
set_option linter.unusedSimpArgs false
namespace Go.Proofs.YtmoecjhlonokfaaDoor
open Go.RowKit

set_option maxHeartbeats 4000000 in
set_option maxRecDepth 100000 in
theorem multiData_walk {B : Nat} {S : Nat → Prop} {w : World} {E : Nat → Addr} (hE : Errs B w E) (hBw : B ≤ w.heap.size) {A : Option Addr} {l : List Int} (c : Nat) (h : BytesAt S w A l) (hb : ∀ j, 0 ≤ nth l j ∧ nth l j ≤ 255) :
    Calls Tryd.prog 10 #[.slice A l.length c] w (LawPost w) := by
  by_cases hl : 1048576 < l.length
  · have hl' : (1048576 : Int) < (l.length : Int) := by omega
    clear hE h hb
    go_enter Tryd.func10, Tryd.ntmps10
    go_wp2_with fail
    go_ret
    exact ⟨rfl, Below.refl _ _⟩
  · have hl' : ¬ (1048576 : Int) < (l.length : Int) := by omega
    have HE := Lib.hid hE
    have hBy := h.mono (S' := (· < w.heap.size)) fun k hk _ => hk
    have C0 := Lib.hid fun (w' : World) (hb' : Below w.heap.size w w') => drawMulti_any c (hBy.below hb') (by omega) (fun j _ => hb j)
    have CL := Lib.hid (lit_multi hE hBw)
    clear h hb hE hl hBy
    generalize l.length = len at *
    go_enter Tryd.func10, Tryd.ntmps10
    go_wp2_with fail
    refine CL.out.mono ?_
    rintro e wl ⟨AL, cL, rfl, hbL⟩
    have HBJ := Lib.hid hbL
    clear CL hbL
    go_wp2_with fail
    refine (C0.out wl HBJ.out).mono ?_
    rintro e w0 ⟨ss, A0, c0, zs, A1, c1, rfl, hn5, hsm, hzl, hcp, hS, hI, hbj0⟩
    have hb0 := HBJ.out.trans (hbj0.mono HBJ.out.size)
    clear hbj0 C0 HBJ
    have hsz0 := hb0.size
    have HS := Lib.hid (hS.mono mvS (S' := (· < w0.heap.size)) fun k hk _ => hk)
    have HZ := Lib.hid (hI.mono (S' := (· < w0.heap.size)) fun k hk _ => hk)
    have HOK : Hid (SrcsOK ss) := Lib.hid fun st hst => ⟨by have := (hsm st hst).1; omega, fun i hi => by have := (hsm st hst).2 i hi; omega⟩
    have HEa := Lib.hid (HE.out.below (hb0.mono hBw))
    have hBa : B ≤ w0.heap.size := Nat.le_trans hBw hsz0
    have HBA := Lib.hid hb0
    have HSM := Lib.hid hsm
    have HB0 : Hid (Below w0.heap.size w0 w0) := Lib.hid (Below.refl _ _)
    have C1 := Lib.hid (validSources_any (w := w0) c0 (by omega) HOK.out HS.out)
    have C2 := fun (w' : World) (hb : Below w0.heap.size w0 w') => Lib.hid (validSizes_any c1 (by omega) (HZ.out.below hb))
    clear HE hS hI hb0 hsm
    go_wp2_with fail
    refine (C1.out).mono ?_
    rintro e w1 ⟨v, rfl, hv, hb1⟩
    have HB1 := Lib.hid (HB0.out.trans (hb1.mono HB0.out.size))
    have hsz1 := hb1.size
    have HV := Lib.hid hv
    clear hb1 hv C1
    cases v with
    | false =>
      clear HV
      go_wp2_with fail
      go_ret
      exact ⟨by first | rfl | simp, HBA.out.trans (HB1.out.mono HBA.out.size)⟩
    | true =>
      have HVV := Lib.hid (HV.out rfl)
      clear HV
      go_wp2_with fail
      refine ((C2 _ HB1.out).out).mono ?_
      rintro e w2 ⟨v2, rfl, hv2, hb2⟩
      have HB2 := Lib.hid (HB1.out.trans (hb2.mono HB1.out.size))
      have hsz2 := hb2.size
      have HV2 := Lib.hid hv2
      clear hb2 hv2 C2
      cases v2 with
      | false =>
        clear HV2
        go_wp2_with fail
        go_ret
        exact ⟨by first | rfl | simp, HBA.out.trans (HB2.out.mono HBA.out.size)⟩
      | true =>
        have HZZ := Lib.hid (HV2.out rfl)
        clear HV2
        obtain ⟨i0, hi0, hz0, hz1, hz2⟩ := info_parts infoU8
        generalize hns : ss.length = ns at *
        have HNS := Lib.hid hns
        clear hns
        have hs2 := HB2.out.size
        go_wp2_with fail
        go_loopg [5, 6] ns (fun f v i wr => ∃ (k n : Nat) (A' : Option Addr) (c' : Nat), k ≤ ns ∧ f = ns - k ∧ i = .int .i64 k ∧ v = .slice A' n c' ∧ n ≤ 21000 ∧ Hid (n = (joinAll (srcs (ss.take k))).length) ∧ Hid (EndAll (srcs (ss.take k))) ∧ Hid (wr.ownsRow w2.heap.size 5 1 (.slice A' n c') n (bytesV (joinAll (srcs (ss.take k))))) ∧ Hid (Below w2.heap.size w2 wr))
        case atStart => exact ⟨0, 0, _, 0, Nat.zero_le _, by omega, rfl, rfl, by omega, Lib.hid (by simp [srcs, joinAll]), Lib.hid (fun t ht => by cases ht), Lib.hid (by simpa [bytesV, srcs, joinAll] using own_empty w2 w2.heap.size 5 1 (Nat.le_refl _)), Lib.hid ((Below.refl _ _).alloc (Nat.le_refl _) _)⟩
        case round =>
          obtain ⟨k, n, A', c', hk, rfl, rfl, rfl, hn21, HN, HEA, HO, HBR⟩ := hrel
          have hszr := HBR.out.size
          have HB : Hid (Below w0.heap.size w0 wr) := Lib.hid (HB2.out.trans (HBR.out.mono hs2))
          by_cases hlt : k < ns
          · have hkl : k < ss.length := by rw [HNS.out]; exact hlt
            obtain ⟨ab, aoff, rfl, habS, hab, hcs⟩ := HS.out.srcAt (by rw [HNS.out]; omega)
            obtain ⟨Ai, ci, g1, hci, hrec⟩ := hcs k hkl
            have hmem : ss.getD k [] ∈ ss := by rw [List.getD_eq_getElem?_getD, List.getElem?_eq_getElem hkl]; exact List.getElem_mem _
            have HJT := Lib.hid (joinAll_take hkl)
            have HST := Lib.hid (srcs_take hkl)
            have hjl := joinAll_take_le HSM.out (by rw [HNS.out]; exact hn5) (k + 1)
            obtain ⟨q1, _⟩ := HOK.out _ hmem
            have hjs := joinD_small (HSM.out _ hmem)
            have g3 := (HB.out.cell (p := ⟨ab, aoff + k, none⟩) habS).trans g1
            rw [HJT.out, List.length_append, ← HN.out] at hjl
            have HREC := Lib.hid hrec
            have hki : (0 : Int) ≤ (k : Int) := by omega
            have hki2 : (k : Int) < (ns : Int) := by omega
            have CLA := Lib.hid (last_any ci (by omega) (HREC.out.below HB.out))
            clear hcs hrec hmem g1 hkl HVV
            generalize ss.getD k [] = st at *
            go_wp2_with fail
            refine CLA.out.mono ?_
            rintro e w4 ⟨rfl, hb4⟩
            have hsz4 := hb4.size
            have HB4 : Hid (Below w0.heap.size w0 w4) := Lib.hid (HB.out.trans (hb4.mono HB.out.size))
            have HBR4 : Hid (Below w2.heap.size w2 w4) := Lib.hid (HBR.out.trans (hb4.mono hszr))
            have HO4 := Lib.hid (own_kept HO.out (D := fun _ => False) ⟨hb4.os, hb4.tape, hb4.output, hb4.size, fun j hj _ => hb4.block j hj⟩ fun _ _ _ hf => hf)
            have g4 := (hb4.cell (p := ⟨ab, aoff + k, none⟩) (show ab < wr.heap.size by omega)).trans g3
            clear hb4 CLA g3 HO
            by_cases he : lastErr st = 1
            · have he' : (lastErr st != 1) = false := by simp [he]
              have HEN : Hid (EndAll (srcs (ss.take (k + 1)))) := Lib.hid (by rw [HST.out]; exact HEA.out.snoc he)
              have CB := Lib.hid (bytes_any ci (by omega) (by omega) (HREC.out.below HB4.out))
              generalize joinD st = d at *
              clear he
              go_wp2_with fail
              refine CB.out.mono ?_
              rintro e w5 ⟨Ad, cd, rfl, hcd, hby, hb5⟩
              have hsz5 := hb5.size
              have HBR5 : Hid (Below w2.heap.size w2 w5) := Lib.hid (HBR4.out.trans (hb5.mono (by omega)))
              have HO5 := Lib.hid (own_kept HO4.out (D := fun _ => False) ⟨hb5.os, hb5.tape, hb5.output, hb5.size, fun j hj _ => hb5.block j hj⟩ fun _ _ _ hf => hf)
              have HBY := Lib.hid hby
              have hs25 : w2.heap.size ≤ w5.heap.size := by omega
              clear hb5 hby CB
              go_wp2_with (at_builtin; refine wpList_append_gen _ rfl (.tmp 43) (.tmp 48) 31 rfl w2.heap.size 5 i0 _ 1 1 Tryd.underlying31 hi0 hz0 hz1 hz2 rfl (by omega) _ n _ rfl HO5.out Ad d.length cd (bytesV d) rfl (by rw [bytesV_length]; omega) HBY.out.news (bytesV_one d) (by unfold maxLen; omega) (by omega) hs25 ?_)
              intro A2 c2 w6 hap
              have HO6 : Hid (w6.ownsRow w2.heap.size 5 1 (.slice A2 (n + d.length) c2) (n + d.length) (bytesV (joinAll (srcs (ss.take (k + 1)))))) := Lib.hid (by rw [HJT.out, bytesV_append]; exact hap.own)
              have HB6 : Hid (Below w2.heap.size w2 w6) := Lib.hid (HBR5.out.grown hap.grown hs25 fun j e => (own_block_lt HO5.out e).1)
              have HN6 : Hid (n + d.length = (joinAll (srcs (ss.take (k + 1)))).length) := Lib.hid (by rw [HJT.out, List.length_append, ← HN.out])
              clear hap
              go_wp2_with fail
              go_roundg (ns - (k + 1))
              case measure => omega
              case rel => exact ⟨k + 1, n + d.length, A2, c2, by omega, rfl, by go_num, rfl, by omega, HN6, HEN, HO6, HB6⟩
            · have he' : (lastErr st != 1) = true := by simp [he]
              go_wp2_with fail
              go_ret
              exact ⟨by first | rfl | simp, HBA.out.trans (HB4.out.mono HBA.out.size)⟩
          · have hkt : ss.take k = ss := List.take_of_length_le (by rw [HNS.out]; omega)
            rw [hkt] at HN HEA HO
            have HRO := Lib.hid (multiRuns_end zs HVV.out HEA.out)
            have HJ := Lib.hid (multiRuns_join zs HVV.out)
            have hRl := runs_length multiStep zs (srcs ss)
            have HRS := Lib.hid (runs_lens (step := multiStep) multiStep_len (t := srcs ss) HZZ.out)
            have hC := implMulti_any (HEa.out.below (HB.out.mono hBa)) (Nat.le_trans hBa HB.out.size) c0 c1 (HS.out.below mvS HB.out) (by rw [HNS.out]; omega) HOK.out HVV.out (HZ.out.below HB.out) HZZ.out (by omega)
            rw [HNS.out] at hC
            rw [← HN.out] at HRO
            have HC := Lib.hid hC
            have hcn := own_cap HO.out
            generalize (runs multiStep zs (srcs ss)).1 = R at *
            generalize joinAll (runs multiStep zs (srcs ss)).2 = rest at *
            generalize joinAll (srcs ss) = all at *
            clear hkt hC HVV HEA HEa HZZ HOK HSM
            go_wp2_with fail
            refine HC.out.mono ?_
            rintro e w4 ⟨Aa, ca, rfl, hca, hra, hb4⟩
            have HRA := Lib.hid hra
            have HALL := Lib.hid ((own_bytes HO.out).keep hb4.size fun j hj _ => hb4.block j hj)
            have HB4 : Hid (Below w0.heap.size w0 w4) := Lib.hid (HB.out.trans (hb4.mono HB.out.size))
            clear hra hb4 HC
            generalize hrn : R.length = rn at *
            have HRN := Lib.hid hrn
            have hrnb : rn ≤ 1000 := by omega
            clear hrn hRl
            go_wp2_with fail
            go_loopg [8, 9] rn (fun f v i wx => ∃ (k m nq : Nat), k ≤ rn ∧ f = rn - k ∧ i = .int .i64 k ∧ v = .int .i64 m ∧ Hid (m = (joinD (R.take k)).length) ∧ wx = w4.drewN nq)
            case atStart => exact ⟨0, 0, 0, Nat.zero_le _, by omega, rfl, rfl, Lib.hid (by simp [joinD]), rfl⟩
            case round =>
              obtain ⟨k2, m, nq, hk2, rfl, rfl, rfl, HM, hwr⟩ := hrel
              have HWR := Lib.hid hwr
              have hRR := HRA.out.drewN nq
              have hAR := HALL.out.drewN nq
              have HBX : Hid (Below w0.heap.size w0 wr) := Lib.hid (by rw [hwr]; exact below_drewN HB4.out nq)
              rw [← hwr] at hRR hAR
              clear hwr
              by_cases hlt2 : k2 < rn
              · obtain ⟨rb, roff, rfl, _, _, hrc⟩ := hRR (by rw [HRN.out]; omega)
                obtain ⟨Ai, ci, g1, g2, hci, hby⟩ := hrc k2 (by rw [HRN.out]; exact hlt2)
                have hjt := joinD_take' (l := R) (k := k2) (by rw [HRN.out]; exact hlt2)
                obtain ⟨hle, hok⟩ := HRO.out.at (i := k2) (by rw [HRN.out]; exact hlt2)
                have hmid := mid_of_join HJ.out (i := k2) (by rw [HRN.out]; exact hlt2)
                have HMN : Hid (m + (dat R k2).length = (joinD (R.take (k2 + 1))).length) := Lib.hid (by rw [hjt, List.length_append, ← HM.out])
                rw [← HMN.out] at hle hok
                rw [← HM.out] at hmid
                have hdb := HRS.out k2 hlt2
                obtain ⟨iq, hiq, _, hsq, _⟩ := info_parts infoU8
                obtain ⟨A9, hsl, hA9⟩ := slice_mid (P := Tryd.prog) 31 (by rw [elemU8]; exact Tryd.underlying31) iq 1 (by rw [elemU8]; exact hiq) hsq A' n c' m (dat R k2).length (by omega)
                have hAL := ((hAR.drop m).take (dat R k2).length).addr (A' := A9) (fun hp => by
                  rw [List.length_take, List.length_drop, ← HN.out] at hp
                  rw [hA9 (by omega), Nat.mul_one])
                rw [hmid] at hAL
                have C := Lib.hid fun q => sameBytes_eq (l := dat R k2) ci (c' - m) (by omega) (hby.drewN q) (hAL.drewN q)
                clear hrc hjt hmid hby hAL hAR hRR hA9 hdb HRO HJ
                generalize err R k2 = er at *
                generalize (dat R k2).length = dl at *
                have hw1 : IntKind.i64.wrap ((m : Int) + (dl : Int)) = (m : Int) + (dl : Int) := by rw [IntWalk.i64_left, IntWalk.wrap64_in _ (by omega)]
                have hg0 : ¬ (n : Int) < (m : Int) + (dl : Int) := by omega
                have hg1 : decide ((n : Int) < (m : Int) + (dl : Int)) = false := by simp; omega
                have hk0 : (0 : Int) ≤ (k2 : Int) := by omega
                have hk1 : (k2 : Int) < (rn : Int) := by omega
                rcases hok with h0 | ⟨h1, hfu⟩
                · subst h0
                  go_wp2_with fail
                  go_quiet (first | (go_at_call 18; exact Calls.quiet_of (C.out _)))
                  go_wp2_with fail
                  go_roundg (rn - (k2 + 1))
                  case measure => omega
                  case rel => exact ⟨k2 + 1, m + dl, _, by omega, rfl, by go_num, by go_num, HMN, by rw [HWR.out, World.drewN_drewN]⟩
                · subst h1
                  have hf1 : ¬ (m : Int) + (dl : Int) < (n : Int) := by omega
                  have HFU := Lib.hid hfu
                  clear hfu
                  go_wp2_with fail
                  go_quiet (first | (go_at_call 18; exact Calls.quiet_of (C.out _)))
                  go_wp2_with fail
                  go_roundg (rn - (k2 + 1))
                  case measure => omega
                  case rel => exact ⟨k2 + 1, m + dl, _, by omega, rfl, by go_num, by go_num, HMN, by rw [HWR.out, World.drewN_drewN]⟩
              · go_wp2_with fail
                go_ret
                exact ⟨by first | rfl | simp, HBA.out.trans (HBX.out.mono HBA.out.size)⟩

end Go.Proofs.YtmoecjhlonokfaaDoor
