/- FnMultiBroken, walked: it returns true, and changes nothing that was there. -/
import Derived.Test.YtmoecjhlonokfaaDoorSMulti
import Derived.Test.YtmoecjhlonokfaaDoorMulV
import Derived.Test.YtmoecjhlonokfaaDoorDrawM
import Derived.Test.YtmoecjhlonokfaaDoorSameG
import Derived.Test.YtmoecjhlonokfaaDoorLaw
import Derived.Test.YtmoecjhlonokfaaDoorMulQ
import Derived.Test.YtmoecjhlonokfaaDoorSame
import Derived.Deep.RegionHeld3
set_option linter.unusedVariables false
set_option linter.unusedSimpArgs false
namespace Go.Proofs.YtmoecjhlonokfaaDoor
open Go.RowKit

set_option maxHeartbeats 4000000 in
set_option maxRecDepth 100000 in
theorem multiBroken_walk {B : Nat} {S : Nat → Prop} {w : World} {E : Nat → Addr} (hE : Errs B w E) (hBw : B ≤ w.heap.size) {A : Option Addr} {l : List Int} (c : Nat) (h : BytesAt S w A l) (hb : ∀ j, 0 ≤ nth l j ∧ nth l j ≤ 255) :
    Calls Tryd.prog 9 #[.slice A l.length c] w (LawPost w) := by
  by_cases hl : 1048576 < l.length
  · have hl' : (1048576 : Int) < (l.length : Int) := by omega
    clear hE h hb
    go_enter Tryd.func9, Tryd.ntmps9
    go_wp2_with fail
    go_ret
    exact ⟨rfl, Below.refl _ _⟩
  · have hl' : ¬ (1048576 : Int) < (l.length : Int) := by omega
    have HE := Lib.hid hE
    have hBy := h.mono (S' := (· < w.heap.size)) fun k hk _ => hk
    have C0 := Lib.hid fun (w' : World) (hb' : Below w.heap.size w w') => drawMulti_any c (hBy.below hb') (by omega) (fun j _ => hb j)
    have CL := Lib.hid (lit_multi hE hBw)
    clear h hb hE hl hBy
    generalize l.length = len at *
    go_enter Tryd.func9, Tryd.ntmps9
    go_wp2_with fail
    refine CL.out.mono ?_
    rintro e wl ⟨AL, cL, rfl, hbL⟩
    have HBJ := Lib.hid hbL
    clear CL hbL
    go_wp2_with fail
    refine (C0.out wl HBJ.out).mono ?_
    rintro e w0 ⟨ss, A0, c0, zs, A1, c1, rfl, hn5, hsm, hzl, hcp, hS, hI, hbj0⟩
    have hb0 := HBJ.out.trans (hbj0.mono HBJ.out.size)
    clear hbj0 C0 HBJ
    have hsz0 := hb0.size
    have HS := Lib.hid (hS.mono mvS (S' := (· < w0.heap.size)) fun k hk _ => hk)
    have HZ := Lib.hid (hI.mono (S' := (· < w0.heap.size)) fun k hk _ => hk)
    have HOK : Hid (SrcsOK ss) := Lib.hid fun st hst => ⟨by have := (hsm st hst).1; omega, fun i hi => by have := (hsm st hst).2 i hi; omega⟩
    have HEa := Lib.hid (HE.out.below (hb0.mono hBw))
    have hBa : B ≤ w0.heap.size := Nat.le_trans hBw hsz0
    have HBA := Lib.hid hb0
    have HSM := Lib.hid hsm
    have HB0 : Hid (Below w0.heap.size w0 w0) := Lib.hid (Below.refl _ _)
    have C1 := Lib.hid (validSources_any (w := w0) c0 (by omega) HOK.out HS.out)
    have C2 := fun (w' : World) (hb : Below w0.heap.size w0 w') => Lib.hid (validSizes_any c1 (by omega) (HZ.out.below hb))
    clear HE hS hI hb0 hsm
    go_wp2_with fail
    refine (C1.out).mono ?_
    rintro e w1 ⟨v, rfl, hv, hb1⟩
    have HB1 := Lib.hid (HB0.out.trans (hb1.mono HB0.out.size))
    have hsz1 := hb1.size
    have HV := Lib.hid hv
    clear hb1 hv C1
    cases v with
    | false =>
      clear HV
      go_wp2_with fail
      go_ret
      exact ⟨by first | rfl | simp, HBA.out.trans (HB1.out.mono HBA.out.size)⟩
    | true =>
      have HVV := Lib.hid (HV.out rfl)
      clear HV
      go_wp2_with fail
      refine ((C2 _ HB1.out).out).mono ?_
      rintro e w2 ⟨v2, rfl, hv2, hb2⟩
      have HB2 := Lib.hid (HB1.out.trans (hb2.mono HB1.out.size))
      have hsz2 := hb2.size
      have HV2 := Lib.hid hv2
      clear hb2 hv2 C2
      cases v2 with
      | false =>
        clear HV2
        go_wp2_with fail
        go_ret
        exact ⟨by first | rfl | simp, HBA.out.trans (HB2.out.mono HBA.out.size)⟩
      | true =>
        have HZZ := Lib.hid (HV2.out rfl)
        clear HV2
        obtain ⟨i0, hi0, hz0, hz1, hz2⟩ := info_parts infoU8
        generalize hns : ss.length = ns at *
        have HNS := Lib.hid hns
        clear hns
        have hs2 := HB2.out.size
        go_wp2_with fail
        go_loopg [5, 6, 7] ns (fun f v bv i wr => ∃ (k n : Nat) (A' : Option Addr) (c' : Nat) (b : Bool), k ≤ ns ∧ f = ns - k ∧ i = .int .i64 k ∧ v = .slice A' n c' ∧ bv = .bool b ∧ n ≤ 21000 ∧ Hid (b = false → n = (joinAll (srcs (ss.take k))).length ∧ NoBrk (srcs (ss.take k))) ∧ Hid (b = true → n = (allB (srcs ss)).length ∧ Brk (srcs ss)) ∧ (∃ al, Hid (wr.ownsRow w2.heap.size 5 1 (.slice A' n c') n (bytesV al))) ∧ Hid (Below w2.heap.size w2 wr))
        case atStart => exact ⟨0, 0, _, 0, false, Nat.zero_le _, by omega, rfl, rfl, rfl, by omega, Lib.hid (fun _ => ⟨by simp [srcs, joinAll], fun t ht => by cases ht⟩), Lib.hid (fun hf => by cases hf), ⟨[], Lib.hid (by simpa [bytesV] using own_empty w2 w2.heap.size 5 1 (Nat.le_refl _))⟩, Lib.hid ((Below.refl _ _).alloc (Nat.le_refl _) _)⟩
        case round =>
          obtain ⟨k, n, A', c', b, hk, rfl, rfl, rfl, rfl, hn21, HF, HT, ⟨al, HO⟩, HBR⟩ := hrel
          have hszr := HBR.out.size
          have HB : Hid (Below w0.heap.size w0 wr) := Lib.hid (HB2.out.trans (HBR.out.mono hs2))
          cases b with
          | true =>
            obtain ⟨hnb, hbk⟩ := HT.out rfl
            have HRO := Lib.hid (multiRuns_brk zs HVV.out hbk)
            have hRl := runs_length multiStep zs (srcs ss)
            have HRS := Lib.hid (runs_lens (step := multiStep) multiStep_len (t := srcs ss) HZZ.out)
            have hC := implMulti_any (HEa.out.below (HB.out.mono hBa)) (Nat.le_trans hBa HB.out.size) c0 c1 (HS.out.below mvS HB.out) (by rw [HNS.out]; omega) HOK.out HVV.out (HZ.out.below HB.out) HZZ.out (by omega)
            rw [HNS.out] at hC
            rw [← hnb] at HRO
            have HC := Lib.hid hC
            generalize (runs multiStep zs (srcs ss)).1 = R at *
            clear hC HVV HEa HZZ HOK HSM HF HT hnb hbk HO
            by_cases hlt : k < ns
            · go_wp2_with fail
              refine HC.out.mono ?_
              rintro e w4 ⟨Aa, ca, rfl, hca, hra, hb4⟩
              have HRA := Lib.hid hra
              have HB4 : Hid (Below w0.heap.size w0 w4) := Lib.hid (HB.out.trans (hb4.mono HB.out.size))
              clear hra hb4 HC
              generalize hrn : R.length = rn at *
              have HRN := Lib.hid hrn
              have hrnb : rn ≤ 1000 := by omega
              clear hrn hRl
              go_wp2_with fail
              go_loopg [9, 10] rn (fun f v i wx => ∃ (k m : Nat), k ≤ rn ∧ f = rn - k ∧ i = .int .i64 k ∧ v = .int .i64 m ∧ Hid (m = (joinD (R.take k)).length) ∧ wx = w4)
              case atStart => exact ⟨0, 0, Nat.zero_le _, by omega, rfl, rfl, Lib.hid (by simp [joinD]), rfl⟩
              case round =>
                obtain ⟨k2, m, hk2, rfl, rfl, rfl, HM, rfl⟩ := hrel
                by_cases hlt2 : k2 < rn
                · obtain ⟨rb, roff, rfl, _, _, hrc⟩ := HRA.out (by rw [HRN.out]; omega)
                  obtain ⟨Ai, ci, g1, g2, _, _⟩ := hrc k2 (by rw [HRN.out]; exact hlt2)
                  have hjt := joinD_take' (l := R) (k := k2) (by rw [HRN.out]; exact hlt2)
                  obtain ⟨hle, hok⟩ := HRO.out.at (i := k2) (by rw [HRN.out]; exact hlt2)
                  have HMN : Hid (m + (dat R k2).length = (joinD (R.take (k2 + 1))).length) := Lib.hid (by rw [hjt, List.length_append, ← HM.out])
                  rw [← HMN.out] at hle hok
                  clear hrc hjt
                  generalize err R k2 = er at *
                  generalize (dat R k2).length = dl at *
                  have hw1 : IntKind.i64.wrap ((m : Int) + (dl : Int)) = (m : Int) + (dl : Int) := by rw [IntWalk.i64_left, IntWalk.wrap64_in _ (by omega)]
                  have hg0 : ¬ (n : Int) < (m : Int) + (dl : Int) := by omega
                  have hk0 : (0 : Int) ≤ (k2 : Int) := by omega
                  have hk1 : (k2 : Int) < (rn : Int) := by omega
                  rcases hok with h0 | ⟨h1, hfu⟩
                  · subst h0
                    go_wp2_with fail
                    go_roundg (rn - (k2 + 1))
                    case measure => omega
                    case rel => exact ⟨k2 + 1, m + dl, by omega, rfl, by go_num, by go_num, HMN, rfl⟩
                  · subst h1
                    have hf1 : ((m : Int) + (dl : Int) == (n : Int)) = true := by simp; omega
                    have HFU := Lib.hid hfu
                    clear hfu
                    go_wp2_with fail
                    go_ret
                    exact ⟨by first | rfl | simp, HBA.out.trans (HB4.out.mono HBA.out.size)⟩
                · go_wp2_with fail
                  go_ret
                  exact ⟨by first | rfl | simp, HBA.out.trans (HB4.out.mono HBA.out.size)⟩
            · go_wp2_with fail
              refine HC.out.mono ?_
              rintro e w4 ⟨Aa, ca, rfl, hca, hra, hb4⟩
              have HRA := Lib.hid hra
              have HB4 : Hid (Below w0.heap.size w0 w4) := Lib.hid (HB.out.trans (hb4.mono HB.out.size))
              clear hra hb4 HC
              generalize hrn : R.length = rn at *
              have HRN := Lib.hid hrn
              have hrnb : rn ≤ 1000 := by omega
              clear hrn hRl
              go_wp2_with fail
              go_loopg [9, 10] rn (fun f v i wx => ∃ (k m : Nat), k ≤ rn ∧ f = rn - k ∧ i = .int .i64 k ∧ v = .int .i64 m ∧ Hid (m = (joinD (R.take k)).length) ∧ wx = w4)
              case atStart => exact ⟨0, 0, Nat.zero_le _, by omega, rfl, rfl, Lib.hid (by simp [joinD]), rfl⟩
              case round =>
                obtain ⟨k2, m, hk2, rfl, rfl, rfl, HM, rfl⟩ := hrel
                by_cases hlt2 : k2 < rn
                · obtain ⟨rb, roff, rfl, _, _, hrc⟩ := HRA.out (by rw [HRN.out]; omega)
                  obtain ⟨Ai, ci, g1, g2, _, _⟩ := hrc k2 (by rw [HRN.out]; exact hlt2)
                  have hjt := joinD_take' (l := R) (k := k2) (by rw [HRN.out]; exact hlt2)
                  obtain ⟨hle, hok⟩ := HRO.out.at (i := k2) (by rw [HRN.out]; exact hlt2)
                  have HMN : Hid (m + (dat R k2).length = (joinD (R.take (k2 + 1))).length) := Lib.hid (by rw [hjt, List.length_append, ← HM.out])
                  rw [← HMN.out] at hle hok
                  clear hrc hjt
                  generalize err R k2 = er at *
                  generalize (dat R k2).length = dl at *
                  have hw1 : IntKind.i64.wrap ((m : Int) + (dl : Int)) = (m : Int) + (dl : Int) := by rw [IntWalk.i64_left, IntWalk.wrap64_in _ (by omega)]
                  have hg0 : ¬ (n : Int) < (m : Int) + (dl : Int) := by omega
                  have hk0 : (0 : Int) ≤ (k2 : Int) := by omega
                  have hk1 : (k2 : Int) < (rn : Int) := by omega
                  rcases hok with h0 | ⟨h1, hfu⟩
                  · subst h0
                    go_wp2_with fail
                    go_roundg (rn - (k2 + 1))
                    case measure => omega
                    case rel => exact ⟨k2 + 1, m + dl, by omega, rfl, by go_num, by go_num, HMN, rfl⟩
                  · subst h1
                    have hf1 : ((m : Int) + (dl : Int) == (n : Int)) = true := by simp; omega
                    have HFU := Lib.hid hfu
                    clear hfu
                    go_wp2_with fail
                    go_ret
                    exact ⟨by first | rfl | simp, HBA.out.trans (HB4.out.mono HBA.out.size)⟩
                · go_wp2_with fail
                  go_ret
                  exact ⟨by first | rfl | simp, HBA.out.trans (HB4.out.mono HBA.out.size)⟩
          | false =>
            obtain ⟨hn0, hnb⟩ := HF.out rfl
            have HN := Lib.hid hn0
            have HNB := Lib.hid hnb
            clear hn0 hnb HF HT
            by_cases hlt : k < ns
            · have hkl : k < ss.length := by rw [HNS.out]; exact hlt
              obtain ⟨ab, aoff, rfl, habS, hab, hcs⟩ := HS.out.srcAt (by rw [HNS.out]; omega)
              obtain ⟨Ai, ci, g1, hci, hrec⟩ := hcs k hkl
              have hmem : ss.getD k [] ∈ ss := by rw [List.getD_eq_getElem?_getD, List.getElem?_eq_getElem hkl]; exact List.getElem_mem _
              have HJT := Lib.hid (joinAll_take hkl)
              have HST := Lib.hid (srcs_take hkl)
              have hjl := joinAll_take_le HSM.out (by rw [HNS.out]; exact hn5) (k + 1)
              obtain ⟨q1, _⟩ := HOK.out _ hmem
              have hjs := joinD_small (HSM.out _ hmem)
              have g3 := (HB.out.cell (p := ⟨ab, aoff + k, none⟩) habS).trans g1
              rw [HJT.out, List.length_append, ← HN.out] at hjl
              have HREC := Lib.hid hrec
              have hki : (0 : Int) ≤ (k : Int) := by omega
              have hki2 : (k : Int) < (ns : Int) := by omega
              have HBK := Lib.hid (brk_at hkl HNB.out)
              have CB := Lib.hid (bytes_any ci (by omega) (by omega) (HREC.out.below HB.out))
              clear hcs hrec hmem hkl HVV
              generalize ss.getD k [] = st at *
              generalize hjd : joinD st = d at *
              clear hjd
              go_wp2_with fail
              refine CB.out.mono ?_
              rintro e w5 ⟨Ad, cd, rfl, hcd, hby, hb5⟩
              have hsz5 := hb5.size
              have HBR5 : Hid (Below w2.heap.size w2 w5) := Lib.hid (HBR.out.trans (hb5.mono (by omega)))
              have HO5 := Lib.hid (own_kept HO.out (D := fun _ => False) ⟨hb5.os, hb5.tape, hb5.output, hb5.size, fun j hj _ => hb5.block j hj⟩ fun _ _ _ hf => hf)
              have HBY := Lib.hid hby
              have hs25 : w2.heap.size ≤ w5.heap.size := by omega
              clear hb5 hby CB HO g3
              go_wp2_with (at_builtin; refine wpList_append_gen _ rfl (.tmp 42) (.tmp 47) 31 rfl w2.heap.size 5 i0 _ 1 1 Tryd.underlying31 hi0 hz0 hz1 hz2 rfl (by omega) _ n _ rfl HO5.out Ad d.length cd (bytesV d) rfl (by rw [bytesV_length]; omega) HBY.out.news (bytesV_one d) (by unfold maxLen; omega) (by omega) hs25 ?_)
              intro A2 c2 w6 hap
              have HO6 : Hid (w6.ownsRow w2.heap.size 5 1 (.slice A2 (n + d.length) c2) (n + d.length) (bytesV (al ++ d))) := Lib.hid (by rw [bytesV_append]; exact hap.own)
              have HB6 : Hid (Below w2.heap.size w2 w6) := Lib.hid (HBR5.out.grown hap.grown hs25 fun j e => (own_block_lt HO5.out e).1)
              have HBw6 : Hid (Below w0.heap.size w0 w6) := Lib.hid (HB2.out.trans (HB6.out.mono hs2))
              have HN6 : Hid (n + d.length = (joinAll (srcs (ss.take (k + 1)))).length) := Lib.hid (by rw [HJT.out, List.length_append, ← HN.out])
              have g6 := (HBw6.out.cell (p := ⟨ab, aoff + k, none⟩) habS).trans g1
              clear hap
              have CLA := Lib.hid (last_any ci (by omega) (HREC.out.below HBw6.out))
              go_wp2_with fail
              refine CLA.out.mono ?_
              rintro e w7 ⟨rfl, hb7⟩
              have hsz6 := HB6.out.size
              have HB7 : Hid (Below w2.heap.size w2 w7) := Lib.hid (HB6.out.trans (hb7.mono hsz6))
              have HO7 := Lib.hid (own_kept HO6.out (D := fun _ => False) ⟨hb7.os, hb7.tape, hb7.output, hb7.size, fun j hj _ => hb7.block j hj⟩ fun _ _ _ hf => hf)
              clear hb7 CLA HO6 HB6
              by_cases he : lastErr st = 2
              · have he' : (lastErr st == 2) = true := by simp [he]
                have HT7 : Hid (n + d.length = (allB (srcs ss)).length ∧ Brk (srcs ss)) := Lib.hid ⟨by rw [(HBK.out he).2]; exact HN6.out, (HBK.out he).1⟩
                clear he
                go_wp2_with fail
                go_roundg (ns - (k + 1))
                case measure => omega
                case rel => exact ⟨k + 1, n + d.length, A2, c2, true, by omega, rfl, by go_num, rfl, rfl, by omega, Lib.hid (fun hf => by cases hf), Lib.hid (fun _ => HT7.out), ⟨_, HO7⟩, HB7⟩
              · have he' : (lastErr st == 2) = false := by simp [he]
                have HF7 : Hid (n + d.length = (joinAll (srcs (ss.take (k + 1)))).length ∧ NoBrk (srcs (ss.take (k + 1)))) := Lib.hid ⟨HN6.out, by rw [HST.out]; exact HNB.out.snoc he⟩
                clear he
                go_wp2_with fail
                go_roundg (ns - (k + 1))
                case measure => omega
                case rel => exact ⟨k + 1, n + d.length, A2, c2, false, by omega, rfl, by go_num, rfl, rfl, by omega, Lib.hid (fun _ => HF7.out), Lib.hid (fun hf => by cases hf), ⟨_, HO7⟩, HB7⟩
            · go_wp2_with fail
              go_ret
              exact ⟨by first | rfl | simp, HBA.out.trans (HB.out.mono HBA.out.size)⟩

end Go.Proofs.YtmoecjhlonokfaaDoor
