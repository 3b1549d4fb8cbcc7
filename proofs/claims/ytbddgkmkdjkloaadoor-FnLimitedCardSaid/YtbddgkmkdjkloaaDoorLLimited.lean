/- FnLimited, walked: it returns true, and changes nothing that was there. -/
import Derived.Test.YtbddgkmkdjkloaaDoorLimit
import Derived.Test.YtbddgkmkdjkloaaDoorSLimit
import Derived.Test.YtbddgkmkdjkloaaDoorLimP
import Derived.Test.YtbddgkmkdjkloaaDoorDrawLimit
import Derived.Test.YtbddgkmkdjkloaaDoorSameG
import Derived.Test.YtbddgkmkdjkloaaDoorJoin
import Derived.Test.YtbddgkmkdjkloaaDoorLaw
import Derived.Deep.RegionHeld3
set_option linter.unusedVariables false
set_option linter.unusedSimpArgs false
namespace Go.Proofs.YtbddgkmkdjkloaaDoor
open Go.RowKit

set_option maxHeartbeats 1000000 in
set_option maxRecDepth 100000 in
theorem limited_walk {B : Nat} {S : Nat → Prop} {w : World} {E : Nat → Addr} (hE : Errs B w E) (hBw : B ≤ w.heap.size) {A : Option Addr} {l : List Int} (c : Nat) (h : BytesAt S w A l) (hb : ∀ j, 0 ≤ nth l j ∧ nth l j ≤ 255) :
    Calls Tryd.prog 9 #[.slice A l.length c] w (LawPost w) := by
  by_cases hl : 1048576 < l.length
  · have hl' : (1048576 : Int) < (l.length : Int) := by omega
    clear hE h hb
    go_enter Tryd.func9, Tryd.ntmps9
    go_wp2_with fail
    go_ret
    exact ⟨rfl, Below.refl _ _⟩
  · have hl' : ¬ (1048576 : Int) < (l.length : Int) := by omega
    have C0 := Lib.hid (drawLimit_any c h (by omega) (fun j _ => hb j))
    have HE := Lib.hid hE
    clear h hb hE hl
    generalize l.length = len at *
    go_enter Tryd.func9, Tryd.ntmps9
    go_wp2_with fail
    refine C0.out.mono ?_
    rintro e w0 ⟨st, A0, c0, n, zs, A1, c1, rfl, hn, hd, hnb, hzl, h, hzi, hb0⟩
    clear C0
    have hsz0 := hb0.size
    have hj := joinD_bound hd
    generalize hw1 : w0.alloc (.cells #[.slice A0 st.length c0] 24) = wa
    have hba : Below w.heap.size w wa := by rw [← hw1]; exact hb0.alloc hsz0 _
    have hS : RecsAt (· < wa.heap.size) wa A0 st := by rw [← hw1]; exact (h.alloc _).mono fun k hk _ => hk
    have hZ : IntsAt (· < wa.heap.size) wa A1 zs := by rw [← hw1]; exact (hzi.alloc _).mono fun k hk _ => hk
    have y0 : wa.cell? ⟨w0.heap.size, 0, none⟩ = some (.slice A0 st.length c0) := by rw [← hw1]; simp
    have hya : w0.heap.size < wa.heap.size := by rw [← hw1]; simp
    have hEa := HE.out.below (hba.mono hBw)
    have hBa := Nat.le_trans hBw hba.size
    have C1 := fun (w' : World) (hb : Below wa.heap.size wa w') => Lib.hid (validSource_any c0 (by omega) (hS.below hb))
    have C2 := fun (w' : World) (hb : Below wa.heap.size wa w') => Lib.hid (validSizes_any c1 (by omega) (hZ.below hb))
    have HCL := Lib.hid fun (w' : World) (hb : Below wa.heap.size wa w') (hv : Valid (lastErr st) st) (hzs : SizesOK zs) => implLimited_any (L := lastErr st) (hEa.below (hb.mono hBa)) (Nat.le_trans hBa hb.size) c0 c1 (hS.below hb) (by omega) (fun i hi => by have := hd i hi; omega) hv (fun e => by subst e; rfl) (hZ.below hb) hzs (by omega) n (by omega) (by omega)
    have HCI := Lib.hid fun (w' : World) (hb : Below wa.heap.size wa w') (hv : Valid (lastErr st) st) (hzs : SizesOK zs) => implLimit_any (L := lastErr st) (hEa.below (hb.mono hBa)) (Nat.le_trans hBa hb.size) c0 c1 (hS.below hb) (by omega) (fun i hi => by have := hd i hi; omega) hv (fun e => by subst e; rfl) (hZ.below hb) hzs (by omega) n (by omega) (by omega)
    have HBA := Lib.hid hba
    have HB0 : Hid (Below wa.heap.size wa wa) := Lib.hid (Below.refl _ _)
    clear HE hEa hBa hS hZ hba h hzi hb0 hd
    go_wp2_with fail
    clear hw1
    go_wp2_with fail
    refine ((C1 _ HB0.out).out).mono ?_
    rintro e w1 ⟨v, rfl, hv, hb1⟩
    have HB1 := Lib.hid (HB0.out.trans (hb1.mono HB0.out.size))
    have hsz1 := hb1.size
    replace y0 := cells_keep0 hb1 (by omega) y0
    have HV := Lib.hid hv
    clear hb1 hv C1
    cases v with
    | false =>
      go_wp2_with fail
      go_ret
      exact ⟨by first | rfl | simp, HBA.out.trans (HB1.out.mono HBA.out.size)⟩
    | true =>
      have HVV := Lib.hid (HV.out rfl)
      clear HV
      go_wp2_with fail
      refine ((C2 _ HB1.out).out).mono ?_
      rintro e w2 ⟨v2, rfl, hv2, hb2⟩
      have HB2 := Lib.hid (HB1.out.trans (hb2.mono HB1.out.size))
      have hsz2 := hb2.size
      replace y0 := cells_keep0 hb2 (by omega) y0
      have HV2 := Lib.hid hv2
      clear hb2 hv2 C2
      cases v2 with
      | false =>
        go_wp2_with fail
        go_ret
        exact ⟨by first | rfl | simp, HBA.out.trans (HB2.out.mono HBA.out.size)⟩
      | true =>
        have HZZ := Lib.hid (HV2.out rfl)
        clear HV2
        have hrl := runs_left (lastErr st) zs (st, n)
        have hrj := runs_join (lastErr st) zs (st, n)
        have hRl := runs_length (limStep (rd (lastErr st))) zs (st, n)
        have HRS := Lib.hid (runs_lens (step := limStep (rd (lastErr st))) (limStep_len (lastErr st)) (t := (st, n)) HZZ.out)
        have hpl : (joinD (runs (limStep (rd (lastErr st))) zs (st, n)).1).length ≤ (joinD st).length := by
          have := congrArg List.length hrj
          rw [List.length_append] at this
          simp only at this
          omega
        simp only at hrl
        have hC3 := HCL.out w2 HB2.out HVV.out HZZ.out
        rw [hrl] at hC3
        have HC4 := Lib.hid fun (w' : World) (hb : Below wa.heap.size wa w') => HCI.out w' hb HVV.out HZZ.out
        have HLEN := Lib.hid (show (runs (limStep (rd (lastErr st))) zs (st, n)).1.length ≤ 281474976710656 by omega)
        have HRS' : Hid (∀ i, i < (runs (limStep (rd (lastErr st))) zs (st, n)).1.length → (dat (runs (limStep (rd (lastErr st))) zs (st, n)).1 i).length ≤ 281474976710656) := Lib.hid fun i hi => by have := HRS.out i hi; omega
        generalize (runs (limStep (rd (lastErr st))) zs (st, n)).1 = R at *
        have HC3 := Lib.hid hC3
        have hRl' : R.length ≤ 281474976710656 := by omega
        clear HCL HCI hrj hrl hC3 HRS hRl
        go_wp2_with fail
        refine (HC3.out).mono ?_
        rintro e w3 ⟨Aa, ca, rfl, hca, hra, hb3⟩
        have HB3 := Lib.hid (HB2.out.trans (hb3.mono HB2.out.size))
        have hsz3 := hb3.size
        replace y0 := cells_keep0 hb3 (by omega) y0
        have HCJ := Lib.hid (join_any ca (by omega) (by omega) hra)
        have HRA := Lib.hid (hra.mono (S' := (· < w3.heap.size)) fun k hk _ => hk)
        clear hb3 hra HC3
        go_wp2_with fail
        refine (HCJ.out).mono ?_
        rintro e w4 ⟨Aj, cj, rfl, hcj, hbyj, hb4⟩
        have HB4 := Lib.hid (HB3.out.trans (hb4.mono HB3.out.size))
        have hsz4 := hb4.size
        replace y0 := cells_keep0 hb4 (by omega) y0
        have HRA4 := Lib.hid (HRA.out.below hb4)
        clear hb4 hbyj HCJ HRA
        generalize (joinD R).length = kk at *
        have hb1 : -9223372036854775808 ≤ n - (kk : Int) := by omega
        have hb2 : n - (kk : Int) ≤ 9223372036854775807 := by omega
        go_wp2_with fail
        refine ((HC4.out w4 HB4.out)).mono ?_
        rintro e w5 ⟨Ac, cc, rfl, hcc, hrc, hb5⟩
        have HB5 := Lib.hid (HB4.out.trans (hb5.mono HB4.out.size))
        have hsz5 := hb5.size
        replace y0 := cells_keep0 hb5 (by omega) y0
        have CSG := Lib.hid (sameGots_eq ca cc HLEN.out HRS'.out ((HRA4.out.mono (S' := (· < w4.heap.size)) fun k hk _ => hk).below hb5) hrc)
        clear hb5 hrc HC4
        generalize R.length = rn at *
        go_wp2_with fail
        refine (CSG.out).mono ?_
        rintro e w6 ⟨rfl, hb6⟩
        have HB6 := Lib.hid (HB5.out.trans (hb6.mono HB5.out.size))
        have hsz6 := hb6.size
        replace y0 := cells_keep0 hb6 (by omega) y0
        clear hb6
        go_wp2_with fail
        go_ret
        exact ⟨by first | rfl | simp, HBA.out.trans (HB6.out.mono HBA.out.size)⟩

end Go.Proofs.YtbddgkmkdjkloaaDoor
