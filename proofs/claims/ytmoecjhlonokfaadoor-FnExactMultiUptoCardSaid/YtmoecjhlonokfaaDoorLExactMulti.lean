/- FnExactMulti, walked: it returns true, and changes nothing that was there. -/
import Derived.Test.YtmoecjhlonokfaaDoorSMulti
import Derived.Test.YtmoecjhlonokfaaDoorMulV
import Derived.Test.YtmoecjhlonokfaaDoorSameG
import Derived.Test.YtmoecjhlonokfaaDoorLaw
import Derived.Deep.RegionHeld3
set_option linter.unusedVariables false
set_option linter.unusedSimpArgs false
namespace Go.Proofs.YtmoecjhlonokfaaDoor
open Go.RowKit

set_option maxHeartbeats 1000000 in
set_option maxRecDepth 100000 in
theorem exactMulti_walk {B : Nat} {S S1 : Nat → Prop} {w : World} {E : Nat → Addr} (hE : Errs B w E) (hBw : B ≤ w.heap.size) {A A1 : Option Addr} {ss : List (List (List Int × Int))} {zs : List Int} (c0 c1 : Nat) (h : ElsAt ElS 1 S w A ss) (hn : ss.length ≤ 1048576) (hok : SrcsOK ss) (hz : IntsAt S1 w A1 zs) (hzl : zs.length ≤ 1048576) :
    Calls Tryd.prog 7 #[.slice A ss.length c0, .slice A1 zs.length c1] w (LawPost w) := by
  obtain ⟨w0, hw0⟩ : ∃ w0, w0 = w := ⟨_, rfl⟩
  obtain ⟨A0, hA0⟩ : ∃ A0, A0 = A := ⟨_, rfl⟩
  subst hw0
  subst hA0
  have HS := Lib.hid (h.mono mvS (S' := (· < w0.heap.size)) fun k hk _ => hk)
  have HZ := Lib.hid (hz.mono (S' := (· < w0.heap.size)) fun k hk _ => hk)
  have HEa := Lib.hid hE
  have hBa : B ≤ w0.heap.size := hBw
  have HOK := Lib.hid hok
  have HBA : Hid (Below w0.heap.size w0 w0) := Lib.hid (Below.refl _ _)
  have HB0 : Hid (Below w0.heap.size w0 w0) := Lib.hid (Below.refl _ _)
  have C1 := Lib.hid (validSources_any (w := w0) c0 (by omega) hok HS.out)
  have C2 := fun (w' : World) (hb : Below w0.heap.size w0 w') => Lib.hid (validSizes_any c1 (by omega) (HZ.out.below hb))
  clear hE h hz hok
  go_enter Tryd.func7, Tryd.ntmps7
  go_wp2_with fail
  refine (C1.out).mono ?_
  rintro e w1 ⟨v, rfl, hv, hb1⟩
  have HB1 := Lib.hid (HB0.out.trans (hb1.mono HB0.out.size))
  have hsz1 := hb1.size
  have HV := Lib.hid hv
  clear hb1 hv C1
  cases v with
  | false =>
    clear HV
    go_wp2_with fail
    go_ret
    exact ⟨by first | rfl | simp, HBA.out.trans (HB1.out.mono HBA.out.size)⟩
  | true =>
    have HVV := Lib.hid (HV.out rfl)
    clear HV
    go_wp2_with fail
    refine ((C2 _ HB1.out).out).mono ?_
    rintro e w2 ⟨v2, rfl, hv2, hb2⟩
    have HB2 := Lib.hid (HB1.out.trans (hb2.mono HB1.out.size))
    have hsz2 := hb2.size
    have HV2 := Lib.hid hv2
    clear hb2 hv2 C2
    cases v2 with
    | false =>
      clear HV2
      go_wp2_with fail
      go_ret
      exact ⟨by first | rfl | simp, HBA.out.trans (HB2.out.mono HBA.out.size)⟩
    | true =>
      have HZZ := Lib.hid (HV2.out rfl)
      clear HV2
      have hRl := runs_length multiStep zs (srcs ss)
      have HRS := Lib.hid (runs_lens (step := multiStep) multiStep_len (t := srcs ss) HZZ.out)
      have HLEN := Lib.hid (show (runs multiStep zs (srcs ss)).1.length ≤ 281474976710656 by omega)
      have HRS' : Hid (∀ i, i < (runs multiStep zs (srcs ss)).1.length → (dat (runs multiStep zs (srcs ss)).1 i).length ≤ 281474976710656) := Lib.hid fun i hi => by have := HRS.out i hi; omega
      have HC3 := Lib.hid (implMulti_any (HEa.out.below (HB2.out.mono hBa)) (Nat.le_trans hBa HB2.out.size) c0 c1 (HS.out.below mvS HB2.out) hn HOK.out HVV.out (HZ.out.below HB2.out) HZZ.out (by omega))
      have HC4 := Lib.hid fun (w' : World) (hb : Below w0.heap.size w0 w') => specMulti_any c0 c1 (HS.out.below mvS hb) hn HOK.out HVV.out (HZ.out.below hb) HZZ.out hzl
      generalize (runs multiStep zs (srcs ss)).1 = R at *
      clear hRl HRS
      go_wp2_with fail
      refine (HC3.out).mono ?_
      rintro e w3 ⟨Aa, ca, rfl, hca, hra, hb3⟩
      have HB3 := Lib.hid (HB2.out.trans (hb3.mono HB2.out.size))
      have hsz3 := hb3.size
      have HRA := Lib.hid (hra.mono (S' := (· < w3.heap.size)) fun k hk _ => hk)
      clear hb3 hra HC3
      go_wp2_with fail
      refine ((HC4.out w3 HB3.out)).mono ?_
      rintro e w4 ⟨Ab, cb, rfl, hcb, hrb, hb4⟩
      have HB4 := Lib.hid (HB3.out.trans (hb4.mono HB3.out.size))
      have hsz4 := hb4.size
      have CSG := Lib.hid (sameGots_eq ca cb HLEN.out HRS'.out (HRA.out.below hb4) hrb)
      clear hb4 hrb HC4 HRA
      generalize R.length = rn at *
      go_wp2_with fail
      refine (CSG.out).mono ?_
      rintro e w5 ⟨rfl, hb5⟩
      have HB5 := Lib.hid (HB4.out.trans (hb5.mono HB4.out.size))
      have hsz5 := hb5.size
      go_wp2_with fail
      go_ret
      exact ⟨by first | rfl | simp, HBA.out.trans (HB5.out.mono HBA.out.size)⟩

end Go.Proofs.YtmoecjhlonokfaaDoor
