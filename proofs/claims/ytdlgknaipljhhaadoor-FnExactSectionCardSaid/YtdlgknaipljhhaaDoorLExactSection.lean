/- FnExactSection, walked: it returns true, and changes nothing that was there. -/
import Derived.Test.YtdlgknaipljhhaaDoorSecW
import Derived.Test.YtdlgknaipljhhaaDoorSSec
import Derived.Test.YtdlgknaipljhhaaDoorDrawSec
import Derived.Test.YtdlgknaipljhhaaDoorLaw
import Derived.Test.YtdlgknaipljhhaaDoorSecQ
import Derived.Deep.RegionHeld3
set_option linter.unusedVariables false
set_option linter.unusedSimpArgs false
namespace Go.Proofs.YtdlgknaipljhhaaDoor
open Go.RowKit

set_option maxHeartbeats 1000000 in
set_option maxRecDepth 100000 in
theorem exactSection_walk {B : Nat} {S S1 : Nat → Prop} {w : World} {E : Nat → Addr} (hE : Errs B w E) (hBw : B ≤ w.heap.size) {A A1 : Option Addr} {data : List Int} {ops : List (Int × Int × Int)} (c0 c1 : Nat) (off n : Int) (h : BytesAt S w A data) (hdc : data.length ≤ c0) (ho : ElsAt ElP 3 S1 w A1 ops)
    (hdl : data.length ≤ 140737488355328) (hopl : ops.length ≤ 281474976710656) :
    Calls Tryd.prog 6 #[.slice A data.length c0, .int .i64 off, .int .i64 n, .slice A1 ops.length c1] w (LawPost w) := by
  obtain ⟨w0, hw0⟩ : ∃ w0, w0 = w := ⟨_, rfl⟩
  obtain ⟨A0, hA0⟩ : ∃ A0, A0 = A := ⟨_, rfl⟩
  subst hw0
  subst hA0
  have HD := Lib.hid (h.mono (S' := (· < w0.heap.size)) fun k hk _ => hk)
  have HO := Lib.hid (ho.mono mvP (S' := (· < w0.heap.size)) fun k hk _ => hk)
  have HEa := Lib.hid hE
  have hBa : B ≤ w0.heap.size := hBw
  have C1 := Lib.hid (validSection_any (w := w0) A0 data.length c0 (by omega) off n)
  have HBA : Hid (Below w0.heap.size w0 w0) := Lib.hid (Below.refl _ _)
  have HB0 : Hid (Below w0.heap.size w0 w0) := Lib.hid (Below.refl _ _)
  clear hE h ho
  go_enter Tryd.func6, Tryd.ntmps6
  go_wp2_with fail
  refine (C1.out).mono ?_
  rintro e w1 ⟨v, rfl, hv, hb1⟩
  have HB1 := Lib.hid (HB0.out.trans (hb1.mono HB0.out.size))
  have hsz1 := hb1.size
  have HV := Lib.hid hv
  clear hb1 hv C1
  cases v with
  | false =>
    clear HV
    go_wp2_with fail
    go_ret
    exact ⟨by first | rfl | simp, HBA.out.trans (HB1.out.mono HBA.out.size)⟩
  | true =>
    have hvv := HV.out rfl
    clear HV
    obtain ⟨off, rfl⟩ : ∃ o : Nat, off = (o : Int) := ⟨off.toNat, by omega⟩
    obtain ⟨n, rfl⟩ : ∃ o : Nat, n = (o : Int) := ⟨n.toNat, by omega⟩
    have hn : off + n ≤ data.length := by omega
    clear hvv
    have C2 := Lib.hid (validOps_any c1 (by omega) (HO.out.below mvP HB1.out))
    go_wp2_with fail
    refine (C2.out).mono ?_
    rintro e w2 ⟨v2, rfl, hv2, hb2⟩
    have HB2 := Lib.hid (HB1.out.trans (hb2.mono HB1.out.size))
    have hsz2 := hb2.size
    have HV2 := Lib.hid hv2
    clear hb2 hv2 C2
    cases v2 with
    | false =>
      clear HV2
      go_wp2_with fail
      go_ret
      exact ⟨by first | rfl | simp, HBA.out.trans (HB2.out.mono HBA.out.size)⟩
    | true =>
      have HOK := Lib.hid (HV2.out rfl)
      clear HV2
      have HRS := Lib.hid fun x hx => Nat.le_trans (opRuns_small (all := (data.drop off).take n) (pos := 0) HOK.out.1 x hx) (show 1048576 ≤ 281474976710656 by omega)
      have HLEN := Lib.hid (show (opRuns ((data.drop off).take n) ops 0).length ≤ 281474976710656 by rw [opRuns_length]; omega)
      have HC3 := Lib.hid (implSection_any (HEa.out.below (HB2.out.mono hBa)) (Nat.le_trans hBa HB2.out.size) c0 c1 off n (HD.out.below HB2.out) hn (by omega) (HO.out.below mvP HB2.out) HOK.out.1 HOK.out.2)
      have HC4 := Lib.hid fun (w' : World) (hb : Below w0.heap.size w0 w') => specSection_any c0 c1 off n (HD.out.below hb) hdc hn (by omega) (HO.out.below mvP hb) HOK.out.1 HOK.out.2
      generalize opRuns ((data.drop off).take n) ops 0 = R at *
      go_wp2_with fail
      refine (HC3.out).mono ?_
      rintro e w3 ⟨Aa, ca, rfl, hca, hra, hb3⟩
      have HB3 := Lib.hid (HB2.out.trans (hb3.mono HB2.out.size))
      have hsz3 := hb3.size
      have HRA := Lib.hid (hra.mono mvO (S' := (· < w3.heap.size)) fun k hk _ => hk)
      clear hb3 hra HC3
      go_wp2_with fail
      refine ((HC4.out w3 HB3.out)).mono ?_
      rintro e w4 ⟨Ab, cb, rfl, hcb, hrb, hb4⟩
      have HB4 := Lib.hid (HB3.out.trans (hb4.mono HB3.out.size))
      have hsz4 := hb4.size
      have CSO := Lib.hid (sameOps_eq ca cb HLEN.out HRS.out (HRA.out.below mvO hb4) hrb)
      clear hb4 hrb HC4 HRA
      generalize R.length = rn at *
      go_wp2_with fail
      refine CSO.out.mono ?_
      rintro e w5 ⟨rfl, q5, rfl⟩
      go_wp2_with fail
      go_ret
      exact ⟨by first | rfl | simp, HBA.out.trans ((below_drewN HB4.out q5).mono HBA.out.size)⟩

end Go.Proofs.YtdlgknaipljhhaaDoor
