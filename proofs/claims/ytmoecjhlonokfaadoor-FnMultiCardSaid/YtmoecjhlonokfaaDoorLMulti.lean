/- FnMulti, walked: it returns true, and changes nothing that was there. -/
import Derived.Test.YtmoecjhlonokfaaDoorSMulti
import Derived.Test.YtmoecjhlonokfaaDoorMulV
import Derived.Test.YtmoecjhlonokfaaDoorDrawM
import Derived.Test.YtmoecjhlonokfaaDoorSameG
import Derived.Test.YtmoecjhlonokfaaDoorLaw
import Derived.Deep.RegionHeld3
set_option linter.unusedVariables false
set_option linter.unusedSimpArgs false
namespace Go.Proofs.YtmoecjhlonokfaaDoor
open Go.RowKit

set_option maxHeartbeats 4000000 in
set_option maxRecDepth 100000 in
theorem multi_walk {B : Nat} {S : Nat → Prop} {w : World} {E : Nat → Addr} (hE : Errs B w E) (hBw : B ≤ w.heap.size) {A : Option Addr} {l : List Int} (c : Nat) (h : BytesAt S w A l) (hb : ∀ j, 0 ≤ nth l j ∧ nth l j ≤ 255) :
    Calls Tryd.prog 8 #[.slice A l.length c] w (LawPost w) := by
  by_cases hl : 1048576 < l.length
  · have hl' : (1048576 : Int) < (l.length : Int) := by omega
    clear hE h hb
    go_enter Tryd.func8, Tryd.ntmps8
    go_wp2_with fail
    go_ret
    exact ⟨rfl, Below.refl _ _⟩
  · have hl' : ¬ (1048576 : Int) < (l.length : Int) := by omega
    have C0 := Lib.hid (drawMulti_any c h (by omega) (fun j _ => hb j))
    have HE := Lib.hid hE
    clear h hb hE hl
    generalize l.length = len at *
    go_enter Tryd.func8, Tryd.ntmps8
    go_wp2_with fail
    refine C0.out.mono ?_
    rintro e w0 ⟨ss, A0, c0, zs, A1, c1, rfl, hn5, hsm, hzl, hS, hI, hb0⟩
    clear C0
    have hsz0 := hb0.size
    have HS := Lib.hid (hS.mono mvS (S' := (· < w0.heap.size)) fun k hk _ => hk)
    have HZ := Lib.hid (hI.mono (S' := (· < w0.heap.size)) fun k hk _ => hk)
    have HOK : Hid (SrcsOK ss) := Lib.hid fun st hst => ⟨by have := (hsm st hst).1; omega, fun i hi => by have := (hsm st hst).2 i hi; omega⟩
    have HEa := Lib.hid (HE.out.below (hb0.mono hBw))
    have hBa : B ≤ w0.heap.size := Nat.le_trans hBw hsz0
    have HBA := Lib.hid hb0
    have HB0 : Hid (Below w0.heap.size w0 w0) := Lib.hid (Below.refl _ _)
    have C1 := Lib.hid (validSources_any (w := w0) c0 (by omega) HOK.out HS.out)
    have C2 := fun (w' : World) (hb : Below w0.heap.size w0 w') => Lib.hid (validSizes_any c1 (by omega) (HZ.out.below hb))
    clear HE hS hI hb0 hsm
    go_wp2_with fail
    refine (C1.out).mono ?_
    rintro e w1 ⟨v, rfl, hv, hb1⟩
    have HB1 := Lib.hid (HB0.out.trans (hb1.mono HB0.out.size))
    have hsz1 := hb1.size
    have HV := Lib.hid hv
    clear hb1 hv C1
    cases v with
    | false =>
      clear HV
      go_wp2_with fail
      go_ret
      exact ⟨by first | rfl | simp, HBA.out.trans (HB1.out.mono HBA.out.size)⟩
    | true =>
      have HVV := Lib.hid (HV.out rfl)
      clear HV
      go_wp2_with fail
      refine ((C2 _ HB1.out).out).mono ?_
      rintro e w2 ⟨v2, rfl, hv2, hb2⟩
      have HB2 := Lib.hid (HB1.out.trans (hb2.mono HB1.out.size))
      have hsz2 := hb2.size
      have HV2 := Lib.hid hv2
      clear hb2 hv2 C2
      cases v2 with
      | false =>
        clear HV2
        go_wp2_with fail
        go_ret
        exact ⟨by first | rfl | simp, HBA.out.trans (HB2.out.mono HBA.out.size)⟩
      | true =>
        have HZZ := Lib.hid (HV2.out rfl)
        clear HV2
        have hRl := runs_length multiStep zs (srcs ss)
        have HRS := Lib.hid (runs_lens (step := multiStep) multiStep_len (t := srcs ss) HZZ.out)
        have HLEN := Lib.hid (show (runs multiStep zs (srcs ss)).1.length ≤ 281474976710656 by omega)
        have HRS' : Hid (∀ i, i < (runs multiStep zs (srcs ss)).1.length → (dat (runs multiStep zs (srcs ss)).1 i).length ≤ 281474976710656) := Lib.hid fun i hi => by have := HRS.out i hi; omega
        have HC3 := Lib.hid (implMulti_any (HEa.out.below (HB2.out.mono hBa)) (Nat.le_trans hBa HB2.out.size) c0 c1 (HS.out.below mvS HB2.out) (by omega) HOK.out HVV.out (HZ.out.below HB2.out) HZZ.out (by omega))
        have HC4 := Lib.hid fun (w' : World) (hb : Below w0.heap.size w0 w') => specMulti_any c0 c1 (HS.out.below mvS hb) (by omega) HOK.out HVV.out (HZ.out.below hb) HZZ.out (by omega)
        generalize (runs multiStep zs (srcs ss)).1 = R at *
        clear hRl HRS
        go_wp2_with fail
        refine (HC3.out).mono ?_
        rintro e w3 ⟨Aa, ca, rfl, hca, hra, hb3⟩
        have HB3 := Lib.hid (HB2.out.trans (hb3.mono HB2.out.size))
        have hsz3 := hb3.size
        have HRA := Lib.hid (hra.mono (S' := (· < w3.heap.size)) fun k hk _ => hk)
        clear hb3 hra HC3
        go_wp2_with fail
        refine ((HC4.out w3 HB3.out)).mono ?_
        rintro e w4 ⟨Ab, cb, rfl, hcb, hrb, hb4⟩
        have HB4 := Lib.hid (HB3.out.trans (hb4.mono HB3.out.size))
        have hsz4 := hb4.size
        have CSG := Lib.hid (sameGots_eq ca cb HLEN.out HRS'.out (HRA.out.below hb4) hrb)
        clear hb4 hrb HC4 HRA
        generalize R.length = rn at *
        go_wp2_with fail
        refine (CSG.out).mono ?_
        rintro e w5 ⟨rfl, hb5⟩
        have HB5 := Lib.hid (HB4.out.trans (hb5.mono HB4.out.size))
        have hsz5 := hb5.size
        go_wp2_with fail
        go_ret
        exact ⟨by first | rfl | simp, HBA.out.trans (HB5.out.mono HBA.out.size)⟩

end Go.Proofs.YtmoecjhlonokfaaDoor
