/- FnSection, walked: it returns true, and changes nothing that was there. -/
import Derived.Test.YtdlgknaipljhhaaDoorSecW
import Derived.Test.YtdlgknaipljhhaaDoorSSec
import Derived.Test.YtdlgknaipljhhaaDoorDrawSec
import Derived.Test.YtdlgknaipljhhaaDoorLaw
import Derived.Test.YtdlgknaipljhhaaDoorSecQ
import Derived.Deep.RegionHeld3
set_option linter.unusedVariables false
set_option linter.unusedSimpArgs false
namespace Go.Proofs.YtdlgknaipljhhaaDoor
open Go.RowKit

set_option maxHeartbeats 1000000 in
set_option maxRecDepth 100000 in
theorem section_walk {B : Nat} {S : Nat → Prop} {w : World} {E : Nat → Addr} (hE : Errs B w E) (hBw : B ≤ w.heap.size) {A : Option Addr} {l : List Int} (c : Nat) (h : BytesAt S w A l) (hb : ∀ j, 0 ≤ nth l j ∧ nth l j ≤ 255) :
    Calls Tryd.prog 7 #[.slice A l.length c] w (LawPost w) := by
  by_cases hl : 1048576 < l.length
  · have hl' : (1048576 : Int) < (l.length : Int) := by omega
    clear hE h hb
    go_enter Tryd.func7, Tryd.ntmps7
    go_wp2_with fail
    go_ret
    exact ⟨rfl, Below.refl _ _⟩
  · have hl' : ¬ (1048576 : Int) < (l.length : Int) := by omega
    have C0 := Lib.hid (drawSection_any c h (by omega) (fun j _ => hb j))
    have HE := Lib.hid hE
    clear h hb hE hl
    generalize l.length = len at *
    go_enter Tryd.func7, Tryd.ntmps7
    go_wp2_with fail
    refine C0.out.mono ?_
    rintro e w0 ⟨data, A0, c0, off, n, ops, A1, c1, rfl, hdl, hdc, hof, hnb, hopl, hD, hO, hb0⟩
    clear C0
    have hsz0 := hb0.size
    have HD := Lib.hid (hD.mono (S' := (· < w0.heap.size)) fun k hk _ => hk)
    have HO := Lib.hid (hO.mono mvP (S' := (· < w0.heap.size)) fun k hk _ => hk)
    have HEa := Lib.hid (HE.out.below (hb0.mono hBw))
    have hBa : B ≤ w0.heap.size := Nat.le_trans hBw hsz0
    have C1 := Lib.hid (validSection_any (w := w0) A0 data.length c0 (by omega) off n)
    have HBA := Lib.hid hb0
    have HB0 : Hid (Below w0.heap.size w0 w0) := Lib.hid (Below.refl _ _)
    clear HE hD hO hb0
    go_wp2_with fail
    refine (C1.out).mono ?_
    rintro e w1 ⟨v, rfl, hv, hb1⟩
    have HB1 := Lib.hid (HB0.out.trans (hb1.mono HB0.out.size))
    have hsz1 := hb1.size
    have HV := Lib.hid hv
    clear hb1 hv C1
    cases v with
    | false =>
      clear HV
      go_wp2_with fail
      go_ret
      exact ⟨by first | rfl | simp, HBA.out.trans (HB1.out.mono HBA.out.size)⟩
    | true =>
      have hvv := HV.out rfl
      clear HV
      obtain ⟨off, rfl⟩ : ∃ o : Nat, off = (o : Int) := ⟨off.toNat, by omega⟩
      obtain ⟨n, rfl⟩ : ∃ o : Nat, n = (o : Int) := ⟨n.toNat, by omega⟩
      have hn : off + n ≤ data.length := by omega
      clear hvv
      have C2 := Lib.hid (validOps_any c1 (by omega) (HO.out.below mvP HB1.out))
      go_wp2_with fail
      refine (C2.out).mono ?_
      rintro e w2 ⟨v2, rfl, hv2, hb2⟩
      have HB2 := Lib.hid (HB1.out.trans (hb2.mono HB1.out.size))
      have hsz2 := hb2.size
      have HV2 := Lib.hid hv2
      clear hb2 hv2 C2
      cases v2 with
      | false =>
        clear HV2
        go_wp2_with fail
        go_ret
        exact ⟨by first | rfl | simp, HBA.out.trans (HB2.out.mono HBA.out.size)⟩
      | true =>
        have HOK := Lib.hid (HV2.out rfl)
        clear HV2
        have HRS := Lib.hid fun x hx => Nat.le_trans (opRuns_small (all := (data.drop off).take n) (pos := 0) HOK.out.1 x hx) (show 1048576 ≤ 281474976710656 by omega)
        have HLEN := Lib.hid (show (opRuns ((data.drop off).take n) ops 0).length ≤ 281474976710656 by rw [opRuns_length]; omega)
        have HC3 := Lib.hid (implSection_any (HEa.out.below (HB2.out.mono hBa)) (Nat.le_trans hBa HB2.out.size) c0 c1 off n (HD.out.below HB2.out) hn (by omega) (HO.out.below mvP HB2.out) HOK.out.1 HOK.out.2)
        have HC4 := Lib.hid fun (w' : World) (hb : Below w0.heap.size w0 w') => specSection_any c0 c1 off n (HD.out.below hb) hdc hn (by omega) (HO.out.below mvP hb) HOK.out.1 HOK.out.2
        generalize opRuns ((data.drop off).take n) ops 0 = R at *
        go_wp2_with fail
        refine (HC3.out).mono ?_
        rintro e w3 ⟨Aa, ca, rfl, hca, hra, hb3⟩
        have HB3 := Lib.hid (HB2.out.trans (hb3.mono HB2.out.size))
        have hsz3 := hb3.size
        have HRA := Lib.hid (hra.mono mvO (S' := (· < w3.heap.size)) fun k hk _ => hk)
        clear hb3 hra HC3
        go_wp2_with fail
        refine ((HC4.out w3 HB3.out)).mono ?_
        rintro e w4 ⟨Ab, cb, rfl, hcb, hrb, hb4⟩
        have HB4 := Lib.hid (HB3.out.trans (hb4.mono HB3.out.size))
        have hsz4 := hb4.size
        have CSO := Lib.hid (sameOps_eq ca cb HLEN.out HRS.out (HRA.out.below mvO hb4) hrb)
        clear hb4 hrb HC4 HRA
        generalize R.length = rn at *
        go_wp2_with fail
        refine CSO.out.mono ?_
        rintro e w5 ⟨rfl, q5, rfl⟩
        go_wp2_with fail
        go_ret
        exact ⟨by first | rfl | simp, HBA.out.trans ((below_drewN HB4.out q5).mono HBA.out.size)⟩

end Go.Proofs.YtdlgknaipljhhaaDoor
