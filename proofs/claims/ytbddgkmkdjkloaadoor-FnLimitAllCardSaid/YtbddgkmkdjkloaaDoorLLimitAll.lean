/- FnLimitAll, walked: it returns true, and changes nothing that was there. -/
import Derived.Test.YtbddgkmkdjkloaaDoorLimit
import Derived.Test.YtbddgkmkdjkloaaDoorSLimit
import Derived.Test.YtbddgkmkdjkloaaDoorLimP
import Derived.Test.YtbddgkmkdjkloaaDoorDrawLimit
import Derived.Test.YtbddgkmkdjkloaaDoorSameG
import Derived.Test.YtbddgkmkdjkloaaDoorJoin
import Derived.Test.YtbddgkmkdjkloaaDoorLaw
import Derived.Deep.RegionHeld3
set_option linter.unusedVariables false
set_option linter.unusedSimpArgs false
namespace Go.Proofs.YtbddgkmkdjkloaaDoor
open Go.RowKit

set_option maxHeartbeats 1000000 in
set_option maxRecDepth 100000 in
theorem limitAll_walk {B : Nat} {S : Nat → Prop} {w : World} {E : Nat → Addr} (hE : Errs B w E) (hBw : B ≤ w.heap.size) {A : Option Addr} {l : List Int} (c : Nat) (h : BytesAt S w A l) (hb : ∀ j, 0 ≤ nth l j ∧ nth l j ≤ 255) :
    Calls Tryd.prog 5 #[.slice A l.length c] w (LawPost w) := by
  by_cases hl : 1048576 < l.length
  · have hl' : (1048576 : Int) < (l.length : Int) := by omega
    clear hE h hb
    go_enter Tryd.func5, Tryd.ntmps5
    go_wp2_with fail
    go_ret
    exact ⟨rfl, Below.refl _ _⟩
  · have hl' : ¬ (1048576 : Int) < (l.length : Int) := by omega
    have C0 := Lib.hid (drawLimit_any c h (by omega) (fun j _ => hb j))
    have HE := Lib.hid hE
    clear h hb hE hl
    generalize l.length = len at *
    go_enter Tryd.func5, Tryd.ntmps5
    go_wp2_with fail
    refine C0.out.mono ?_
    rintro e w0 ⟨st, A0, c0, n, zs, A1, c1, rfl, hn, hd, hnb, hzl, h, hzi, hb0⟩
    clear C0
    have hsz0 := hb0.size
    have hj := joinD_bound hd
    generalize hw1 : w0.alloc (.cells #[.slice A0 st.length c0] 24) = wa
    have hba : Below w.heap.size w wa := by rw [← hw1]; exact hb0.alloc hsz0 _
    have hS : RecsAt (· < wa.heap.size) wa A0 st := by rw [← hw1]; exact (h.alloc _).mono fun k hk _ => hk
    have hZ : IntsAt (· < wa.heap.size) wa A1 zs := by rw [← hw1]; exact (hzi.alloc _).mono fun k hk _ => hk
    have y0 : wa.cell? ⟨w0.heap.size, 0, none⟩ = some (.slice A0 st.length c0) := by rw [← hw1]; simp
    have hya : w0.heap.size < wa.heap.size := by rw [← hw1]; simp
    have hEa := HE.out.below (hba.mono hBw)
    have hBa := Nat.le_trans hBw hba.size
    have C1 := fun (w' : World) (hb : Below wa.heap.size wa w') => Lib.hid (validSource_any c0 (by omega) (hS.below hb))
    have C2 := fun (w' : World) (hb : Below wa.heap.size wa w') => Lib.hid (validSizes_any c1 (by omega) (hZ.below hb))
    have HCI := Lib.hid fun (w' : World) (hb : Below wa.heap.size wa w') (hv : Valid (lastErr st) st) (hzs : SizesOK zs) => implLimit_any (L := lastErr st) (hEa.below (hb.mono hBa)) (Nat.le_trans hBa hb.size) c0 c1 (hS.below hb) (by omega) (fun i hi => by have := hd i hi; omega) hv (fun e => by subst e; rfl) (hZ.below hb) hzs (by omega) n (by omega) (by omega)
    have HCR := Lib.hid fun (w' : World) (hb : Below wa.heap.size wa w') (hv : Valid (lastErr st) st) (hzs : SizesOK zs) => specReads_any c0 c1 (hS.below hb) (by omega) (fun i hi => by have := hd i hi; omega) (hZ.below hb) hzs (by omega)
    have HCB := Lib.hid fun (w' : World) (hb : Below wa.heap.size wa w') => bytes_any c0 (by omega) (by omega) (hS.below hb)
    have HBA := Lib.hid hba
    have HB0 : Hid (Below wa.heap.size wa wa) := Lib.hid (Below.refl _ _)
    clear HE hEa hBa hS hZ hba h hzi hb0 hd
    go_wp2_with fail
    clear hw1
    go_wp2_with fail
    refine ((C1 _ HB0.out).out).mono ?_
    rintro e w1 ⟨v, rfl, hv, hb1⟩
    have HB1 := Lib.hid (HB0.out.trans (hb1.mono HB0.out.size))
    have hsz1 := hb1.size
    replace y0 := cells_keep0 hb1 (by omega) y0
    have HV := Lib.hid hv
    clear hb1 hv C1
    cases v with
    | false =>
      go_wp2_with fail
      go_ret
      exact ⟨by first | rfl | simp, HBA.out.trans (HB1.out.mono HBA.out.size)⟩
    | true =>
      have HVV := Lib.hid (HV.out rfl)
      clear HV
      go_wp2_with fail
      refine ((C2 _ HB1.out).out).mono ?_
      rintro e w2 ⟨v2, rfl, hv2, hb2⟩
      have HB2 := Lib.hid (HB1.out.trans (hb2.mono HB1.out.size))
      have hsz2 := hb2.size
      replace y0 := cells_keep0 hb2 (by omega) y0
      have HV2 := Lib.hid hv2
      clear hb2 hv2 C2
      cases v2 with
      | false =>
        go_wp2_with fail
        go_ret
        exact ⟨by first | rfl | simp, HBA.out.trans (HB2.out.mono HBA.out.size)⟩
      | true =>
        have HZZ := Lib.hid (HV2.out rfl)
        clear HV2
        go_wp2_with fail
        refine ((HCB.out _ HB2.out)).mono ?_
        rintro e w3 ⟨Ab0, cb0, rfl, hcb0, hbyb, hb3⟩
        have HB3 := Lib.hid (HB2.out.trans (hb3.mono HB2.out.size))
        have hsz3 := hb3.size
        replace y0 := cells_keep0 hb3 (by omega) y0
        clear hb3 hbyb HCB
        by_cases hle : n ≤ ((joinD st).length : Int)
        · go_wp2_with fail
          go_ret
          exact ⟨by first | rfl | simp, HBA.out.trans (HB3.out.mono HBA.out.size)⟩
        · have HC3 := Lib.hid (HCI.out w3.drew HB3.out.drew HVV.out HZZ.out)
          have HC4 := Lib.hid fun (w' : World) (hb : Below wa.heap.size wa w') => HCR.out w' hb HVV.out HZZ.out
          have hall := runs_all (L := lastErr st) zs st n (by omega)
          have hRl := runs_length (limStep (rd (lastErr st))) zs (st, n)
          have HRS := Lib.hid (runs_lens (step := limStep (rd (lastErr st))) (limStep_len (lastErr st)) (t := (st, n)) HZZ.out)
          rw [hall] at HC3 hRl HRS
          have HLEN := Lib.hid (show (runs (rd (lastErr st)) zs st).1.length ≤ 281474976710656 by omega)
          have HRS' : Hid (∀ i, i < (runs (rd (lastErr st)) zs st).1.length → (dat (runs (rd (lastErr st)) zs st).1 i).length ≤ 281474976710656) := Lib.hid fun i hi => by have := HRS.out i hi; omega
          generalize (runs (rd (lastErr st)) zs st).1 = R at *
          have hle' : ¬ (n ≤ ((joinD st).length : Int)) := hle
          clear HCI HCR hRl HRS hall
          go_wp2_with fail
          go_region_held3 (fun w' => w'.cell? ⟨w0.heap.size, 0, none⟩ = some (.slice A0 st.length c0))
            (first
              | go_keep
              | exact y2
              | exact y3
              | exact y4)
            (first
              | (go_at_call 17; refine HC3.out.mono ?_; rintro e w4 ⟨Aa, ca, rfl, hca, hra, hb4⟩; have hB4 := HB3.out.drew.trans (hb4.mono HB3.out.size); have y2 := cells_keep0 hb4 (show w0.heap.size < w3.heap.size by omega) y0; have hsz4a : w3.heap.size ≤ w4.heap.size := hb4.size)
              | (go_at_call 21; refine (HC4.out w4 hB4).mono ?_; rintro e w5 ⟨Ab, cb, rfl, hcb, hrb, hb5⟩; have hB5 := hB4.trans (hb5.mono hB4.size); have y3 := cells_keep0 hb5 (show w0.heap.size < w4.heap.size by omega) y2; have hra4 := (hra.mono (S' := (· < w4.heap.size)) fun k hk _ => hk).below hb5; have hsz4 := hb5.size)
              | (go_at_call 16; refine (sameGots_eq ca cb HLEN.out HRS'.out hra4 hrb).mono ?_; rintro e w6 ⟨rfl, hb6⟩; have hB6 := hB5.trans (hb6.mono hB5.size); have y4 := cells_keep0 hb6 (show w0.heap.size < w5.heap.size by omega) y3))
          have HB6 := Lib.hid hB6
          clear hB4 hB5 hB6 hra hrb hra4 hb4 hb5 hb6 y0 y2 y3 y4
          go_wp2_with fail
          go_ret
          exact ⟨by first | rfl | simp, HBA.out.trans (HB6.out.mono HBA.out.size)⟩

end Go.Proofs.YtbddgkmkdjkloaaDoor
