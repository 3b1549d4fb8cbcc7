/- FnExactLimited, walked: it returns true, and changes nothing that was there. -/
import Derived.Test.YtbddgkmkdjkloaaDoorLimit
import Derived.Test.YtbddgkmkdjkloaaDoorSLimit
import Derived.Test.YtbddgkmkdjkloaaDoorLimP
import Derived.Test.YtbddgkmkdjkloaaDoorDrawLimit
import Derived.Test.YtbddgkmkdjkloaaDoorSameG
import Derived.Test.YtbddgkmkdjkloaaDoorJoin
import Derived.Test.YtbddgkmkdjkloaaDoorLaw
import Derived.Deep.RegionHeld3
set_option linter.unusedVariables false
set_option linter.unusedSimpArgs false
namespace Go.Proofs.YtbddgkmkdjkloaaDoor
open Go.RowKit

set_option maxHeartbeats 1000000 in
set_option maxRecDepth 100000 in
theorem exactLimited_walk {B : Nat} {S S1 : Nat → Prop} {w : World} {E : Nat → Addr} (hE : Errs B w E) (hBw : B ≤ w.heap.size) {A A1 : Option Addr} {st : List (List Int × Int)} {zs : List Int} (c0 c1 : Nat) (h : RecsAt S w A st) (hz : IntsAt S1 w A1 zs) (n : Int) (hnb : -9223372036854775808 ≤ n ∧ n ≤ 9223372036854775807)
    (hn : st.length ≤ 1048576) (hd : ∀ i, i < st.length → (dat st i).length ≤ 1048576) (hzl : zs.length ≤ 1048576) :
    Calls Tryd.prog 8 #[.agg #[.slice A st.length c0], .int .i64 n, .slice A1 zs.length c1] w (LawPost w) := by
  obtain ⟨w0, hw0⟩ : ∃ w0, w0 = w := ⟨_, rfl⟩
  obtain ⟨A0, hA0⟩ : ∃ A0, A0 = A := ⟨_, rfl⟩
  have HE := Lib.hid hE
  have hba : Below w.heap.size w (w.alloc (.cells #[.slice A st.length c0] 24)) := (Below.refl _ _).alloc (Nat.le_refl _) _
  have hS : RecsAt (· < (w.alloc (.cells #[.slice A st.length c0] 24)).heap.size) (w.alloc (.cells #[.slice A st.length c0] 24)) A st := (h.alloc _).mono fun k hk _ => hk
  have hZ : IntsAt (· < (w.alloc (.cells #[.slice A st.length c0] 24)).heap.size) (w.alloc (.cells #[.slice A st.length c0] 24)) A1 zs := (hz.alloc _).mono fun k hk _ => hk
  have y0 : (w.alloc (.cells #[.slice A st.length c0] 24)).cell? ⟨w.heap.size, 0, none⟩ = some (.slice A st.length c0) := by simp
  subst hw0
  subst hA0
  generalize hw1 : w0.alloc (.cells #[.slice A0 st.length c0] 24) = wa at *
  have hya : w0.heap.size < wa.heap.size := by rw [← hw1]; simp
  have hEa := HE.out.below (hba.mono hBw)
  have hBa := Nat.le_trans hBw hba.size
  have C1 := fun (w' : World) (hb : Below wa.heap.size wa w') => Lib.hid (validSource_any c0 (by omega) (hS.below hb))
  have C2 := fun (w' : World) (hb : Below wa.heap.size wa w') => Lib.hid (validSizes_any c1 (by omega) (hZ.below hb))
  have HCL := Lib.hid fun (w' : World) (hb : Below wa.heap.size wa w') (hv : Valid (lastErr st) st) (hzs : SizesOK zs) => implLimited_any (L := lastErr st) (hEa.below (hb.mono hBa)) (Nat.le_trans hBa hb.size) c0 c1 (hS.below hb) (by omega) (fun i hi => by have := hd i hi; omega) hv (fun e => by subst e; rfl) (hZ.below hb) hzs (by omega) n (by omega) (by omega)
  have HCSL := Lib.hid fun (w' : World) (hb : Below wa.heap.size wa w') (hv : Valid (lastErr st) st) (hzs : SizesOK zs) => specLimited_any c0 c1 (hS.below hb) (by omega) (fun i hi => by have := hd i hi; omega) (hZ.below hb) hzs (by omega) n (by omega) (by omega)
  have HBA := Lib.hid hba
  have HB0 : Hid (Below wa.heap.size wa wa) := Lib.hid (Below.refl _ _)
  clear HE hEa hBa hS hZ hba h hz hd hE
  go_enter Tryd.func8, Tryd.ntmps8
  go_wp2_with fail
  clear hw1
  go_wp2_with fail
  refine ((C1 _ HB0.out).out).mono ?_
  rintro e w1 ⟨v, rfl, hv, hb1⟩
  have HB1 := Lib.hid (HB0.out.trans (hb1.mono HB0.out.size))
  have hsz1 := hb1.size
  replace y0 := cells_keep0 hb1 (by omega) y0
  have HV := Lib.hid hv
  clear hb1 hv C1
  cases v with
  | false =>
    go_wp2_with fail
    go_ret
    exact ⟨by first | rfl | simp, HBA.out.trans (HB1.out.mono HBA.out.size)⟩
  | true =>
    have HVV := Lib.hid (HV.out rfl)
    clear HV
    go_wp2_with fail
    refine ((C2 _ HB1.out).out).mono ?_
    rintro e w2 ⟨v2, rfl, hv2, hb2⟩
    have HB2 := Lib.hid (HB1.out.trans (hb2.mono HB1.out.size))
    have hsz2 := hb2.size
    replace y0 := cells_keep0 hb2 (by omega) y0
    have HV2 := Lib.hid hv2
    clear hb2 hv2 C2
    cases v2 with
    | false =>
      go_wp2_with fail
      go_ret
      exact ⟨by first | rfl | simp, HBA.out.trans (HB2.out.mono HBA.out.size)⟩
    | true =>
      have HZZ := Lib.hid (HV2.out rfl)
      clear HV2
      have hRl := runs_length (limStep (rd (lastErr st))) zs (st, n)
      have HRS := Lib.hid (runs_lens (step := limStep (rd (lastErr st))) (limStep_len (lastErr st)) (t := (st, n)) HZZ.out)
      have HC3 := Lib.hid (HCL.out w2 HB2.out HVV.out HZZ.out)
      have HC4 := Lib.hid fun (w' : World) (hb : Below wa.heap.size wa w') => HCSL.out w' hb HVV.out HZZ.out
      have HLEN := Lib.hid (show (runs (limStep (rd (lastErr st))) zs (st, n)).1.length ≤ 281474976710656 by omega)
      have HRS' : Hid (∀ i, i < (runs (limStep (rd (lastErr st))) zs (st, n)).1.length → (dat (runs (limStep (rd (lastErr st))) zs (st, n)).1 i).length ≤ 281474976710656) := Lib.hid fun i hi => by have := HRS.out i hi; omega
      generalize (runs (limStep (rd (lastErr st))) zs (st, n)).1 = R at *
      generalize (runs (limStep (rd (lastErr st))) zs (st, n)).2.2 = nl at *
      clear HCL HCSL HRS hRl
      go_wp2_with fail
      refine (HC3.out).mono ?_
      rintro e w3 ⟨Aa, ca, rfl, hca, hra, hb3⟩
      have HB3 := Lib.hid (HB2.out.trans (hb3.mono HB2.out.size))
      have hsz3 := hb3.size
      replace y0 := cells_keep0 hb3 (by omega) y0
      have HRA := Lib.hid (hra.mono (S' := (· < w3.heap.size)) fun k hk _ => hk)
      clear hb3 hra HC3
      go_wp2_with fail
      refine ((HC4.out w3 HB3.out)).mono ?_
      rintro e w4 ⟨Ac, cc, rfl, hcc, hrc, hb4⟩
      have HB4 := Lib.hid (HB3.out.trans (hb4.mono HB3.out.size))
      have hsz4 := hb4.size
      replace y0 := cells_keep0 hb4 (by omega) y0
      have CSG := Lib.hid (sameGots_eq ca cc HLEN.out HRS'.out (HRA.out.below hb4) hrc)
      clear hb4 hrc HC4
      generalize R.length = rn at *
      go_wp2_with fail
      refine (CSG.out).mono ?_
      rintro e w5 ⟨rfl, hb5⟩
      have HB5 := Lib.hid (HB4.out.trans (hb5.mono HB4.out.size))
      have hsz5 := hb5.size
      replace y0 := cells_keep0 hb5 (by omega) y0
      clear hb5
      go_wp2_with fail
      go_ret
      exact ⟨by first | rfl | simp, HBA.out.trans (HB5.out.mono HBA.out.size)⟩

end Go.Proofs.YtbddgkmkdjkloaaDoor
