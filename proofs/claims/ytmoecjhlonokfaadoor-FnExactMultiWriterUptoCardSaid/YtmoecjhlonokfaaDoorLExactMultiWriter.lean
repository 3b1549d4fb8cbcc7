/- FnExactMultiWriter, walked: it returns true, and changes nothing that was there. -/
import Derived.Test.YtmoecjhlonokfaaDoorMwW
import Derived.Test.YtmoecjhlonokfaaDoorSMwW
import Derived.Test.YtmoecjhlonokfaaDoorMwV
import Derived.Test.YtmoecjhlonokfaaDoorMwQ
import Derived.Test.YtmoecjhlonokfaaDoorDrawW
import Derived.Test.YtmoecjhlonokfaaDoorLaw
import Derived.Deep.RegionHeld3
set_option linter.unusedVariables false
set_option linter.unusedSimpArgs false
namespace Go.Proofs.YtmoecjhlonokfaaDoor
open Go.RowKit

set_option maxHeartbeats 1000000 in
set_option maxRecDepth 100000 in
theorem exactMultiWriter_walk {B : Nat} {S S1 : Nat → Prop} {w : World} {E : Nat → Addr} (hE : Errs B w E) (hBw : B ≤ w.heap.size) {A A1 : Option Addr} {lims : List Int} {ps : List (List Int)} (c0 c1 : Nat) (h : IntsAt S w A lims) (hlb : ∀ i, i < lims.length → nth lims i ≤ 9223372036854775807) (hnl : lims.length ≤ 1048576)
    (hp : ElsAt ElB 1 S1 w A1 ps) (hpl : ps.length ≤ 1048576) (hjl : ps.flatten.length ≤ 70368744177664) :
    Calls Tryd.prog 3 #[.slice A lims.length c0, .slice A1 ps.length c1] w (LawPost w) := by
  obtain ⟨w0, hw0⟩ : ∃ w0, w0 = w := ⟨_, rfl⟩
  obtain ⟨A0, hA0⟩ : ∃ A0, A0 = A := ⟨_, rfl⟩
  subst hw0
  subst hA0
  have HZ := Lib.hid (h.mono (S' := (· < w0.heap.size)) fun k hk _ => hk)
  have HP := Lib.hid (hp.mono mvB (S' := (· < w0.heap.size)) fun k hk _ => hk)
  have HEa := Lib.hid hE
  have hBa : B ≤ w0.heap.size := hBw
  have HLB := Lib.hid hlb
  have HBA : Hid (Below w0.heap.size w0 w0) := Lib.hid (Below.refl _ _)
  have HB0 : Hid (Below w0.heap.size w0 w0) := Lib.hid (Below.refl _ _)
  have C1 := Lib.hid (validSinks_any (w := w0) c0 (by omega) HZ.out)
  clear hE h hp hlb
  go_enter Tryd.func3, Tryd.ntmps3
  go_wp2_with fail
  refine (C1.out).mono ?_
  rintro e w1 ⟨v, rfl, hv, hb1⟩
  have HB1 := Lib.hid (HB0.out.trans (hb1.mono HB0.out.size))
  have hsz1 := hb1.size
  have HV := Lib.hid hv
  clear hb1 hv C1
  cases v with
  | false =>
    clear HV
    go_wp2_with fail
    go_ret
    exact ⟨by first | rfl | simp, HBA.out.trans (HB1.out.mono HBA.out.size)⟩
  | true =>
    have HVV := Lib.hid (HV.out rfl)
    clear HV
    have hlims : ∀ i, i < lims.length → 0 ≤ nth lims i ∧ nth lims i ≤ 9223372036854775807 := fun i hi => ⟨HVV.out i hi, HLB.out i hi⟩
    have HC2 := Lib.hid (implMw_any (HEa.out.below (HB1.out.mono hBa)) (Nat.le_trans hBa HB1.out.size) c0 c1 (HZ.out.below HB1.out) hlims (by omega) (HP.out.below mvB HB1.out) (by omega) (by omega))
    have HC3 := Lib.hid fun (w' : World) (hb : Below w0.heap.size w0 w') => specMw_any c0 c1 (HZ.out.below hb) hlims (by omega) (HP.out.below mvB hb) (by omega) (by omega)
    have hR1 := mwRuns_len1 ps (lims.map fun l => (l.toNat, []))
    have hR2 := mwRuns_len2 ps (lims.map fun l => (l.toNat, []))
    rw [List.length_map] at hR2
    have hRB := mwRuns_bound (ps := ps) (ss := lims.map fun l => (l.toNat, [])) (b := 0) (fun x hx => by
      obtain ⟨z, _, rfl⟩ := List.mem_map.1 hx
      simp)
    generalize mwRuns ps (lims.map fun l => (l.toNat, [])) = R at *
    obtain ⟨R1, R2⟩ := R
    simp only at hR1 hR2 hRB
    have HD1 : Hid (∀ x ∈ R1.map (fun x => (([] : List Int), (x.1 : Int), x.2)), x.1.length ≤ 281474976710656) := Lib.hid fun x hx => by
      obtain ⟨z, _, rfl⟩ := List.mem_map.1 hx
      simp
    have HD2 : Hid (∀ x ∈ R2.map (·.2), x.length ≤ 281474976710656) := Lib.hid fun x hx => by
      obtain ⟨z, hz, rfl⟩ := List.mem_map.1 hx
      have := hRB z hz
      omega
    have hR1' : R1.length ≤ 281474976710656 := by omega
    have hR2' : R2.length ≤ 281474976710656 := by omega
    clear hlims hRB hR1 hR2
    go_wp2_with fail
    refine (HC2.out).mono ?_
    rintro e w2 ⟨Aa, ca, Ax, cx, rfl, hca, hcx, hra, hxa, hb2⟩
    have HB2 := Lib.hid (HB1.out.trans (hb2.mono HB1.out.size))
    have hsz2 := hb2.size
    have HRA := Lib.hid (hra.mono mvO (S' := (· < w2.heap.size)) fun k hk _ => hk)
    have HXA := Lib.hid (hxa.mono mvB (S' := (· < w2.heap.size)) fun k hk _ => hk)
    clear hb2 hra hxa HC2
    go_wp2_with fail
    refine ((HC3.out w2 HB2.out)).mono ?_
    rintro e w3 ⟨Ab, cb, Ay, cy, rfl, hcb, hcy, hrb, hyb, hb3⟩
    have HB3 := Lib.hid (HB2.out.trans (hb3.mono HB2.out.size))
    have hsz3 := hb3.size
    have CSO := Lib.hid (sameOps_eq ca cb (by rw [List.length_map]; exact hR1') HD1.out (HRA.out.below mvO hb3) hrb)
    have HXA3 := Lib.hid (HXA.out.below mvB hb3)
    have HYB := Lib.hid hyb
    have CSL := fun q => Lib.hid (sameLists_eq cx cy (by rw [List.length_map]; exact hR2') HD2.out (HXA3.out.drewN mvB q) (HYB.out.drewN mvB q))
    rw [List.length_map] at CSO CSL
    clear hb3 hrb hyb HC3 HRA HXA
    generalize R1.length = r1 at *
    generalize R2.length = r2 at *
    go_wp2_with fail
    refine CSO.out.mono ?_
    rintro e w4 ⟨rfl, q4, rfl⟩
    have CSL4 := CSL q4
    clear CSL CSO
    go_wp2_with fail
    refine CSL4.out.mono ?_
    rintro e w5 ⟨rfl, q5, rfl⟩
    go_wp2_with fail
    go_ret
    exact ⟨by first | rfl | simp, HBA.out.trans ((below_drewN HB3.out (q4 + q5)).mono HBA.out.size)⟩

end Go.Proofs.YtmoecjhlonokfaaDoor
