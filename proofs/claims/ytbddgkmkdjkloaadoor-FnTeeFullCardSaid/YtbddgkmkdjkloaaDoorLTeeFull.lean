/- FnTeeFull, walked: it returns true, and changes nothing that was there. -/
import Derived.Test.YtbddgkmkdjkloaaDoorSTee
import Derived.Test.YtbddgkmkdjkloaaDoorTeeP
import Derived.Test.YtbddgkmkdjkloaaDoorSReads
import Derived.Test.YtbddgkmkdjkloaaDoorDrawTee
import Derived.Test.YtbddgkmkdjkloaaDoorSameG
import Derived.Test.YtbddgkmkdjkloaaDoorJoin
import Derived.Test.YtbddgkmkdjkloaaDoorLaw
import Derived.Deep.RegionHeld3
import Derived.Deep.QuietTactic
import Derived.BigQuiet
set_option linter.unusedVariables false
set_option linter.unusedSimpArgs false
namespace Go.Proofs.YtbddgkmkdjkloaaDoor
open Go.RowKit

set_option maxHeartbeats 1000000 in
set_option maxRecDepth 100000 in
theorem teeFull_walk {B : Nat} {S : Nat → Prop} {w : World} {E : Nat → Addr} (hE : Errs B w E) (hBw : B ≤ w.heap.size) {A : Option Addr} {l : List Int} (c : Nat) (h : BytesAt S w A l) (hb : ∀ j, 0 ≤ nth l j ∧ nth l j ≤ 255) :
    Calls Tryd.prog 13 #[.slice A l.length c] w (LawPost w) := by
  by_cases hl : 1048576 < l.length
  · have hl' : (1048576 : Int) < (l.length : Int) := by omega
    clear hE h hb
    go_enter Tryd.func13, Tryd.ntmps13
    go_wp2_with fail
    go_ret
    exact ⟨rfl, Below.refl _ _⟩
  · have hl' : ¬ (1048576 : Int) < (l.length : Int) := by omega
    have C0 := Lib.hid (drawTee_any c h (by omega) (fun j _ => hb j))
    have HE := Lib.hid hE
    clear h hb hE hl
    generalize l.length = len at *
    go_enter Tryd.func13, Tryd.ntmps13
    go_wp2_with fail
    refine C0.out.mono ?_
    rintro e w0 ⟨st, A0, c0, lim, zs, A1, c1, rfl, hn, hd, hlim, hzl, h, hzi, hb0⟩
    clear C0
    have hsz0 := hb0.size
    have hj := joinD_bound hd
    generalize hw1 : (w0.alloc (.cells #[.slice A0 st.length c0] 24)).alloc (.cells #[.int .i64 lim] 46) = wa
    have hba : Below w.heap.size w wa := by rw [← hw1]; exact (hb0.alloc hsz0 _).alloc (by simp; omega) _
    have hS : RecsAt (· < wa.heap.size) wa A0 st := by rw [← hw1]; exact ((h.alloc _).alloc _).mono fun k hk _ => hk
    have hZ : IntsAt (· < wa.heap.size) wa A1 zs := by rw [← hw1]; exact ((hzi.alloc _).alloc _).mono fun k hk _ => hk
    have y0 : wa.cell? ⟨w0.heap.size, 0, none⟩ = some (.slice A0 st.length c0) := by rw [← hw1, World.cell?_alloc_lt _ _ _ (by simp)]; simp
    have z0 : wa.cell? ⟨w0.heap.size + 1, 0, none⟩ = some (.int .i64 lim) := by rw [← hw1]; simp
    have hya : w0.heap.size + 1 < wa.heap.size := by rw [← hw1]; simp
    have hEa := HE.out.below (hba.mono hBw)
    have hBa := Nat.le_trans hBw hba.size
    have C1 := fun (w' : World) (hb : Below wa.heap.size wa w') => Lib.hid (validSource_any c0 (by omega) (hS.below hb))
    have C2 := fun (w' : World) (hb : Below wa.heap.size wa w') => Lib.hid (validSizes_any c1 (by omega) (hZ.below hb))
    have HCI := Lib.hid fun (w' : World) (hb : Below wa.heap.size wa w') (hv : Valid (lastErr st) st) (hzs : SizesOK zs) (n : Nat) (hn2 : (n : Int) ≤ 9223372036854775807) => implTee_any (L := lastErr st) (hEa.below (hb.mono hBa)) (Nat.le_trans hBa hb.size) c0 c1 (hS.below hb) (by omega) (fun i hi => by have := hd i hi; omega) hv (fun e => by subst e; rfl) (hZ.below hb) hzs (by omega) n hn2 (by omega)
    have HCR := Lib.hid fun (w' : World) (hb : Below wa.heap.size wa w') (hzs : SizesOK zs) => specReads_any c0 c1 (hS.below hb) (by omega) (fun i hi => by have := hd i hi; omega) (hZ.below hb) hzs (by omega)
    have HCB := Lib.hid fun (w' : World) (hb : Below wa.heap.size wa w') => bytes_any c0 (by omega) (by omega) (hS.below hb)
    have HBA := Lib.hid hba
    have HB0 : Hid (Below wa.heap.size wa wa) := Lib.hid (Below.refl _ _)
    clear HE hEa hBa hS hZ hba h hzi hb0 hd
    go_wp2_with fail
    clear hw1
    go_wp2_with fail
    refine ((C1 _ HB0.out).out).mono ?_
    rintro e w1 ⟨v, rfl, hv, hb1⟩
    have HB1 := Lib.hid (HB0.out.trans (hb1.mono HB0.out.size))
    have hsz1 := hb1.size
    replace y0 := cells_keep0 hb1 (by omega) y0
    replace z0 := cells_keep0 hb1 (by omega) z0
    have HV := Lib.hid hv
    clear hb1 hv C1
    cases v with
    | false =>
      go_wp2_with fail
      go_ret
      exact ⟨by first | rfl | simp, HBA.out.trans (HB1.out.mono HBA.out.size)⟩
    | true =>
      have HVV := Lib.hid (HV.out rfl)
      clear HV
      go_wp2_with fail
      refine ((C2 _ HB1.out).out).mono ?_
      rintro e w2 ⟨v2, rfl, hv2, hb2⟩
      have HB2 := Lib.hid (HB1.out.trans (hb2.mono HB1.out.size))
      have hsz2 := hb2.size
      replace y0 := cells_keep0 hb2 (by omega) y0
      replace z0 := cells_keep0 hb2 (by omega) z0
      have HV2 := Lib.hid hv2
      clear hb2 hv2 C2
      cases v2 with
      | false =>
        go_wp2_with fail
        go_ret
        exact ⟨by first | rfl | simp, HBA.out.trans (HB2.out.mono HBA.out.size)⟩
      | true =>
        have HZZ := Lib.hid (HV2.out rfl)
        clear HV2
        by_cases hneg : lim < 0
        · go_wp2_with fail
          go_ret
          exact ⟨by first | rfl | simp, HBA.out.trans (HB2.out.mono HBA.out.size)⟩
        · obtain ⟨n, rfl⟩ : ∃ n : Nat, lim = (n : Int) := ⟨lim.toNat, by omega⟩
          have hn2 : (n : Int) ≤ 9223372036854775807 := by omega
          have hRl := runs_length (teeStep (rd (lastErr st))) zs (st, n, [])
          have HRS := Lib.hid (runs_lens (step := teeStep (rd (lastErr st))) (teeStep_len (lastErr st)) (t := (st, n, [])) HZZ.out)
          have htk := tee_taken (lastErr st) zs st n []
          have hpj := congrArg List.length (rdruns_join (lastErr st) zs st)
          rw [List.length_append] at hpj
          rw [List.nil_append] at htk
          have HLEN := Lib.hid (show (runs (teeStep (rd (lastErr st))) zs (st, n, [])).1.length ≤ 281474976710656 by omega)
          have HRS' : Hid (∀ i, i < (runs (teeStep (rd (lastErr st))) zs (st, n, [])).1.length → (dat (runs (teeStep (rd (lastErr st))) zs (st, n, [])).1 i).length ≤ 281474976710656) := Lib.hid fun i hi => by have := HRS.out i hi; omega
          have hmet := tee_met (lastErr st) zs st n [] HVV.out
          have HC3 := Lib.hid (HCI.out w2 HB2.out HVV.out HZZ.out n hn2)
          have HC5 := Lib.hid fun (w' : World) (hb : Below wa.heap.size wa w') => HCR.out w' hb HZZ.out
          have hdl : (runs (teeStep (rd (lastErr st))) zs (st, n, [])).2.2.2.length = min n (joinD (runs (rd (lastErr st)) zs st).1).length := by rw [htk, List.length_take]
          have HTK := Lib.hid (show (joinD st).take (runs (teeStep (rd (lastErr st))) zs (st, n, [])).2.2.2.length = (runs (teeStep (rd (lastErr st))) zs (st, n, [])).2.2.2 by
            rw [hdl, htk]
            have := rdruns_join (lastErr st) zs st
            rw [← this, List.take_append_of_le_length (by omega)]
            rw [Nat.min_def]
            split
            · rfl
            · rw [List.take_length, List.take_of_length_le (by omega)])
          have HPL := Lib.hid (runs_length (rd (lastErr st)) zs st)
          generalize (runs (teeStep (rd (lastErr st))) zs (st, n, [])).1 = R at *
          generalize (runs (teeStep (rd (lastErr st))) zs (st, n, [])).2.2.2 = D at *
          generalize (runs (rd (lastErr st)) zs st).1 = PR at *
          have HDL := Lib.hid hdl
          have HPJ := Lib.hid hpj
          have hpl : (joinD PR).length ≤ 4200 := by omega
          have hdl2 : D.length ≤ 4200 := by omega
          clear HCI HCR HRS htk HLEN HRS' hdl hpj
          go_wp2_with fail
          refine (HC3.out).mono ?_
          rintro e w3 ⟨Aa, ca, Ax, cx, rfl, hca, hcx, hra, hxa, hb3⟩
          have HB3 := Lib.hid (HB2.out.trans (hb3.mono HB2.out.size))
          have hsz3 := hb3.size
          replace y0 := cells_keep0 hb3 (by omega) y0
          replace z0 := cells_keep0 hb3 (by omega) z0
          have HRA := Lib.hid hra
          have HXA := Lib.hid (hxa.mono (S' := (· < w3.heap.size)) fun k hk _ => hk)
          clear hb3 hra hxa HC3
          generalize hrn : R.length = rn at *
          have HRN := Lib.hid hrn
          clear hrn
          have HMET := Lib.hid hmet
          clear hmet
          go_wp2_with fail
          go_loopg [8, 9] rn (fun f y i wr => ∃ (k : Nat), k ≤ rn ∧ f = rn - k ∧ i = .int .i64 k ∧ y = .bool (metFull (R.take k)) ∧ wr = w3)
          case atStart => exact ⟨0, Nat.zero_le _, by omega, rfl, rfl, rfl⟩
          case round =>
            obtain ⟨k, hk, rfl, rfl, rfl, rfl⟩ := hrel
            by_cases hlt : k < rn
            · obtain ⟨rb, roff, rfl, _, _, hrc⟩ := HRA.out (by rw [HRN.out]; omega)
              obtain ⟨Ai, ci, g1, g2, _, _⟩ := hrc k (by rw [HRN.out]; omega)
              have HMT := Lib.hid (metFull_take (R := R) (k := k) (by rw [HRN.out]; exact hlt))
              have hki : (0 : Int) ≤ (k : Int) := by omega
              have hki2 : (k : Int) < (rn : Int) := by omega
              clear hrc g1
              generalize err R k = er at *
              cases hmk : metFull (R.take k) with
              | true =>
                have HMK := Lib.hid hmk
                clear hmk
                go_wp2_with fail
                go_roundg (rn - (k + 1))
                case measure => omega
                case rel => exact ⟨k + 1, by omega, rfl, by go_num, by rw [HMT.out, HMK.out]; rfl, rfl⟩
              | false =>
                have HMK := Lib.hid hmk
                clear hmk
                by_cases he3 : er = 3
                · subst he3
                  go_wp2_with fail
                  go_roundg (rn - (k + 1))
                  case measure => omega
                  case rel => exact ⟨k + 1, by omega, rfl, by go_num, by rw [HMT.out]; simp, rfl⟩
                · go_wp2_with fail
                  go_roundg (rn - (k + 1))
                  case measure => omega
                  case rel => exact ⟨k + 1, by omega, rfl, by go_num, by rw [HMT.out, HMK.out]; simp [he3], rfl⟩
            · have hkn : k = rn := by omega
              subst hkn
              have hmf : metFull (R.take k) = decide (n < (joinD PR).length) := by rw [List.take_of_length_le (by rw [HRN.out]; omega)]; exact HMET.out
              rw [hmf]
              clear hmf HMET HRA hlt
              go_wp2_with fail
              refine ((HCB.out _ HB3.out)).mono ?_
              rintro e w4 ⟨Ab, cb, rfl, hcb, hbyb, hb4⟩
              have HB4 := Lib.hid (HB3.out.trans (hb4.mono HB3.out.size))
              have hsz4 := hb4.size
              replace y0 := cells_keep0 hb4 (by omega) y0
              replace z0 := cells_keep0 hb4 (by omega) z0
              have HBYB := Lib.hid (hbyb.mono (S' := (· < w4.heap.size)) fun k hk _ => hk)
              have HXA4 := Lib.hid ((HXA.out.below hb4).mono (S' := (· < w4.heap.size)) fun k hk _ => hk)
              clear hb4 hbyb HCB HXA
              go_wp2_with fail
              refine ((HC5.out _ HB4.out)).mono ?_
              rintro e w5 ⟨Ac, cc, rfl, hcc, hrc, hb5⟩
              have HB5 := Lib.hid (HB4.out.trans (hb5.mono HB4.out.size))
              have hsz5 := hb5.size
              replace y0 := cells_keep0 hb5 (by omega) y0
              replace z0 := cells_keep0 hb5 (by omega) z0
              have HBYB5 := Lib.hid ((HBYB.out.below hb5).mono (S' := (· < w5.heap.size)) fun k hk _ => hk)
              have HXA5 := Lib.hid ((HXA4.out.below hb5).mono (S' := (· < w5.heap.size)) fun k hk _ => hk)
              have HCJ := Lib.hid (join_any cc (by have := HPL.out; omega) (by omega) hrc)
              clear hb5 hrc HC5 HBYB HXA4
              generalize PR.length = pn at *
              go_wp2_with fail
              refine (HCJ.out).mono ?_
              rintro e w6 ⟨Ad, cd, rfl, hcd, hyd, hb6⟩
              have HB6 := Lib.hid (HB5.out.trans (hb6.mono HB5.out.size))
              have hsz6 := hb6.size
              replace y0 := cells_keep0 hb6 (by omega) y0
              replace z0 := cells_keep0 hb6 (by omega) z0
              have CSB := Lib.hid (sameBytes_eq cx cb (by omega) (HXA5.out.below hb6) (by have := (HBYB5.out.below hb6).take D.length; rw [HTK.out] at this; exact this))
              have hdl := HDL.out
              have hpj := HPJ.out
              clear hb6 hyd HCJ HTK HDL HPJ
              generalize D.length = dn at *
              generalize (joinD PR).length = pj at *
              generalize hjn : (joinD st).length = jn at *
              have hsl := fun w' : World => slice_bytes_to Ab jn cb dn (by omega) w'
              have hmn : min (pj : Int) (n : Int) = (dn : Int) := by omega
              clear hjn
              by_cases hfull : n < pj
              · have hd1 : decide (n < pj) = true := by simp [hfull]
                have hd2 : (n : Int) < (pj : Int) := by omega
                rw [hd1]
                obtain rfl : dn = n := by omega
                clear hdl hpj
                go_wp2_with fail
                with_reducible refine CSB.out.mono ?_
                rintro e w7 ⟨rfl, n7, rfl⟩
                go_wp2_with fail
                go_ret
                exact ⟨by first | rfl | simp, HBA.out.trans ((below_drewN HB6.out n7).mono HBA.out.size)⟩
              · have hd1 : decide (n < pj) = false := by simp [hfull]
                have hd2 : ¬ (n : Int) < (pj : Int) := by omega
                rw [hd1]
                obtain rfl : dn = pj := by omega
                clear hdl hpj
                go_wp2_with fail
                with_reducible refine CSB.out.mono ?_
                rintro e w7 ⟨rfl, n7, rfl⟩
                go_wp2_with fail
                go_ret
                exact ⟨by first | rfl | simp, HBA.out.trans ((below_drewN HB6.out n7).mono HBA.out.size)⟩

end Go.Proofs.YtbddgkmkdjkloaaDoor
