/- FnExactTee, walked: it returns true, and changes nothing that was there. -/
import Derived.Test.YtbddgkmkdjkloaaDoorSTee
import Derived.Test.YtbddgkmkdjkloaaDoorTeeP
import Derived.Test.YtbddgkmkdjkloaaDoorSReads
import Derived.Test.YtbddgkmkdjkloaaDoorDrawTee
import Derived.Test.YtbddgkmkdjkloaaDoorSameG
import Derived.Test.YtbddgkmkdjkloaaDoorJoin
import Derived.Test.YtbddgkmkdjkloaaDoorLaw
import Derived.Deep.RegionHeld3
import Derived.Deep.QuietTactic
import Derived.BigQuiet
set_option linter.unusedVariables false
set_option linter.unusedSimpArgs false
namespace Go.Proofs.YtbddgkmkdjkloaaDoor
open Go.RowKit

set_option maxHeartbeats 1000000 in
set_option maxRecDepth 100000 in
theorem exactTee_walk {B : Nat} {S S1 : Nat → Prop} {w : World} {E : Nat → Addr} (hE : Errs B w E) (hBw : B ≤ w.heap.size) {A A1 : Option Addr} {st : List (List Int × Int)} {zs : List Int} (c0 c1 : Nat) (h : RecsAt S w A st) (hz : IntsAt S1 w A1 zs) (lim : Int) (hlim : lim ≤ 9223372036854775807)
    (hn : st.length ≤ 1048576) (hd : ∀ i, i < st.length → (dat st i).length ≤ 1048576) (hzl : zs.length ≤ 1048576) (hj : (joinD st).length ≤ 70368744177664) :
    Calls Tryd.prog 10 #[.agg #[.slice A st.length c0], .agg #[.int .i64 lim], .slice A1 zs.length c1] w (LawPost w) := by
  obtain ⟨w0, hw0⟩ : ∃ w0, w0 = w := ⟨_, rfl⟩
  obtain ⟨A0, hA0⟩ : ∃ A0, A0 = A := ⟨_, rfl⟩
  have HE := Lib.hid hE
  subst hw0
  subst hA0
  generalize hw1 : (w0.alloc (.cells #[.slice A0 st.length c0] 24)).alloc (.cells #[.int .i64 lim] 46) = wa
  have hba : Below w0.heap.size w0 wa := by rw [← hw1]; exact ((Below.refl _ _).alloc (Nat.le_refl _) _).alloc (by simp) _
  have hS : RecsAt (· < wa.heap.size) wa A0 st := by rw [← hw1]; exact ((h.alloc _).alloc _).mono fun k hk _ => hk
  have hZ : IntsAt (· < wa.heap.size) wa A1 zs := by rw [← hw1]; exact ((hz.alloc _).alloc _).mono fun k hk _ => hk
  have y0 : wa.cell? ⟨w0.heap.size, 0, none⟩ = some (.slice A0 st.length c0) := by rw [← hw1, World.cell?_alloc_lt _ _ _ (by simp)]; simp
  have z0 : wa.cell? ⟨w0.heap.size + 1, 0, none⟩ = some (.int .i64 lim) := by rw [← hw1]; simp
  have hya : w0.heap.size + 1 < wa.heap.size := by rw [← hw1]; simp
  have hEa := HE.out.below (hba.mono hBw)
  have hBa := Nat.le_trans hBw hba.size
  have C1 := fun (w' : World) (hb : Below wa.heap.size wa w') => Lib.hid (validSource_any c0 (by omega) (hS.below hb))
  have C2 := fun (w' : World) (hb : Below wa.heap.size wa w') => Lib.hid (validSizes_any c1 (by omega) (hZ.below hb))
  have HCI := Lib.hid fun (w' : World) (hb : Below wa.heap.size wa w') (hv : Valid (lastErr st) st) (hzs : SizesOK zs) (n : Nat) (hn2 : (n : Int) ≤ 9223372036854775807) => implTee_any (L := lastErr st) (hEa.below (hb.mono hBa)) (Nat.le_trans hBa hb.size) c0 c1 (hS.below hb) (by omega) (fun i hi => by have := hd i hi; omega) hv (fun e => by subst e; rfl) (hZ.below hb) hzs (by omega) n hn2 (by omega)
  have HCS := Lib.hid fun (w' : World) (hb : Below wa.heap.size wa w') (hzs : SizesOK zs) (n : Nat) (hn2 : (n : Int) ≤ 9223372036854775807) => specTee_any c0 c1 (hS.below hb) (by omega) (fun i hi => by have := hd i hi; omega) (hZ.below hb) hzs (by omega) n hn2 (by omega)
  have HBA := Lib.hid hba
  have HB0 : Hid (Below wa.heap.size wa wa) := Lib.hid (Below.refl _ _)
  clear HE hEa hBa hS hZ hba h hz hd hE
  go_enter Tryd.func10, Tryd.ntmps10
  go_wp2_with fail
  clear hw1
  go_wp2_with fail
  refine ((C1 _ HB0.out).out).mono ?_
  rintro e w1 ⟨v, rfl, hv, hb1⟩
  have HB1 := Lib.hid (HB0.out.trans (hb1.mono HB0.out.size))
  have hsz1 := hb1.size
  replace y0 := cells_keep0 hb1 (by omega) y0
  replace z0 := cells_keep0 hb1 (by omega) z0
  have HV := Lib.hid hv
  clear hb1 hv C1
  cases v with
  | false =>
    go_wp2_with fail
    go_ret
    exact ⟨by first | rfl | simp, HBA.out.trans (HB1.out.mono HBA.out.size)⟩
  | true =>
    have HVV := Lib.hid (HV.out rfl)
    clear HV
    go_wp2_with fail
    refine ((C2 _ HB1.out).out).mono ?_
    rintro e w2 ⟨v2, rfl, hv2, hb2⟩
    have HB2 := Lib.hid (HB1.out.trans (hb2.mono HB1.out.size))
    have hsz2 := hb2.size
    replace y0 := cells_keep0 hb2 (by omega) y0
    replace z0 := cells_keep0 hb2 (by omega) z0
    have HV2 := Lib.hid hv2
    clear hb2 hv2 C2
    cases v2 with
    | false =>
      go_wp2_with fail
      go_ret
      exact ⟨by first | rfl | simp, HBA.out.trans (HB2.out.mono HBA.out.size)⟩
    | true =>
      have HZZ := Lib.hid (HV2.out rfl)
      clear HV2
      by_cases hneg : lim < 0
      · go_wp2_with fail
        go_ret
        exact ⟨by first | rfl | simp, HBA.out.trans (HB2.out.mono HBA.out.size)⟩
      · obtain ⟨n, rfl⟩ : ∃ n : Nat, lim = (n : Int) := ⟨lim.toNat, by omega⟩
        have hn2 : (n : Int) ≤ 9223372036854775807 := by omega
        have hRl := runs_length (teeStep (rd (lastErr st))) zs (st, n, [])
        have HRS := Lib.hid (runs_lens (step := teeStep (rd (lastErr st))) (teeStep_len (lastErr st)) (t := (st, n, [])) HZZ.out)
        have htk := tee_taken (lastErr st) zs st n []
        have hpj := congrArg List.length (rdruns_join (lastErr st) zs st)
        rw [List.length_append] at hpj
        rw [List.nil_append] at htk
        have HLEN := Lib.hid (show (runs (teeStep (rd (lastErr st))) zs (st, n, [])).1.length ≤ 281474976710656 by omega)
        have HRS' : Hid (∀ i, i < (runs (teeStep (rd (lastErr st))) zs (st, n, [])).1.length → (dat (runs (teeStep (rd (lastErr st))) zs (st, n, [])).1 i).length ≤ 281474976710656) := Lib.hid fun i hi => by have := HRS.out i hi; omega
        have HC3 := Lib.hid (HCI.out w2 HB2.out HVV.out HZZ.out n hn2)
        have HC4 := Lib.hid fun (w' : World) (hb : Below wa.heap.size wa w') => HCS.out w' hb HZZ.out n hn2
        have hdl : (runs (teeStep (rd (lastErr st))) zs (st, n, [])).2.2.2.length ≤ 281474976710656 := by rw [htk, List.length_take]; omega
        generalize (runs (teeStep (rd (lastErr st))) zs (st, n, [])).1 = R at *
        generalize (runs (teeStep (rd (lastErr st))) zs (st, n, [])).2.2.2 = D at *
        clear HCI HCS hRl HRS htk hpj
        go_wp2_with fail
        refine (HC3.out).mono ?_
        rintro e w3 ⟨Aa, ca, Ax, cx, rfl, hca, hcx, hra, hxa, hb3⟩
        have HB3 := Lib.hid (HB2.out.trans (hb3.mono HB2.out.size))
        have hsz3 := hb3.size
        replace y0 := cells_keep0 hb3 (by omega) y0
        replace z0 := cells_keep0 hb3 (by omega) z0
        have HRA := Lib.hid (hra.mono (S' := (· < w3.heap.size)) fun k hk _ => hk)
        have HXA := Lib.hid (hxa.mono (S' := (· < w3.heap.size)) fun k hk _ => hk)
        clear hb3 hra hxa HC3
        go_wp2_with fail
        refine ((HC4.out w3 HB3.out)).mono ?_
        rintro e w4 ⟨Ab, cb, Ay, cy, rfl, hcb, hcy, hrb, hyb, hb4⟩
        have HB4 := Lib.hid (HB3.out.trans (hb4.mono HB3.out.size))
        have hsz4 := hb4.size
        replace y0 := cells_keep0 hb4 (by omega) y0
        replace z0 := cells_keep0 hb4 (by omega) z0
        have CSG := Lib.hid (sameGots_eq ca cb HLEN.out HRS'.out (HRA.out.below hb4) hrb)
        have HXA4 := Lib.hid (HXA.out.below hb4)
        have HYB := Lib.hid (hyb.mono (S' := (· < w4.heap.size)) fun k hk _ => hk)
        clear hb4 hrb hyb HC4 HRA HXA
        generalize R.length = rn at *
        go_wp2_with fail
        refine (CSG.out).mono ?_
        rintro e w5 ⟨rfl, hb5⟩
        have HB5 := Lib.hid (HB4.out.trans (hb5.mono HB4.out.size))
        have hsz5 := hb5.size
        replace y0 := cells_keep0 hb5 (by omega) y0
        replace z0 := cells_keep0 hb5 (by omega) z0
        have CSB := Lib.hid (sameBytes_eq cx cy hdl ((HXA4.out.mono (S' := (· < w4.heap.size)) fun k hk _ => hk).below hb5) (HYB.out.below hb5))
        clear hb5 CSG HXA4 HYB
        generalize D.length = dn at *
        go_wp2_with fail
        refine CSB.out.mono ?_
        rintro e w6 ⟨rfl, n6, rfl⟩
        go_wp2_with fail
        go_ret
        exact ⟨by first | rfl | simp, HBA.out.trans ((below_drewN HB5.out n6).mono HBA.out.size)⟩

end Go.Proofs.YtbddgkmkdjkloaaDoor
