/- FnReadFull, walked: it returns true, and changes nothing that was there. -/
import Derived.Test.YtoeihkmbbaggcaaDoorLExactReadFull
import Derived.Test.YtoeihkmbbaggcaaDoorDrawFull
set_option linter.unusedVariables false
set_option linter.unusedSimpArgs false
namespace Go.Proofs.YtoeihkmbbaggcaaDoor
open Go.RowKit

theorem cells_keep {w w' : World} {b : Nat} {v : Value} (hb : Below w.heap.size w w') (hlt : b < w.heap.size) (h : w.cell? ⟨b, 0, none⟩ = some v) : w'.cell? ⟨b, 0, none⟩ = some v := (hb.cell (p := ⟨b, 0, none⟩) hlt).trans h

set_option maxHeartbeats 1000000 in
set_option maxRecDepth 100000 in
theorem readFull_walk {B : Nat} {S : Nat → Prop} {w : World} {E : Nat → Addr} (hE : Errs B w E) (hBw : B ≤ w.heap.size) {A : Option Addr} {l : List Int} (c : Nat) (h : BytesAt S w A l) (hb : ∀ j, 0 ≤ nth l j ∧ nth l j ≤ 255) :
    Calls Tryd.prog 6 #[.slice A l.length c] w (LawPost w) := by
  by_cases hl : 1048576 < l.length
  · have hl' : (1048576 : Int) < (l.length : Int) := by omega
    clear hE h hb
    go_enter Tryd.func6, Tryd.ntmps6
    go_wp2_with fail
    go_ret
    exact ⟨rfl, Below.refl _ _⟩
  · have hl' : ¬ (1048576 : Int) < (l.length : Int) := by omega
    have C0 := Lib.hid (drawFull_any c h (by omega) (fun j _ => hb j))
    have HE := Lib.hid hE
    clear h hb hE hl
    generalize l.length = len at *
    go_enter Tryd.func6, Tryd.ntmps6
    go_wp2_with fail
    refine C0.out.mono ?_
    rintro e w0 ⟨st, A0, c0, zs, A1, c1, rfl, hn, hd, hzn, h, hz, hb0⟩
    have hsz0 := hb0.size
    generalize hw1 : w0.alloc (.cells #[.slice A0 st.length c0] 25) = wa
    have hba : Below w.heap.size w wa := by rw [← hw1]; exact hb0.alloc hsz0 _
    have hS : RecsAt (· < wa.heap.size) wa A0 st := by rw [← hw1]; exact (h.alloc _).mono fun k hk _ => hk
    have hZ : IntsAt (· < wa.heap.size) wa A1 zs := by rw [← hw1]; exact (hz.alloc _).mono fun k hk _ => hk
    have ya : wa.cell? ⟨w0.heap.size, 0, none⟩ = some (.slice A0 st.length c0) := by rw [← hw1]; simp
    have hya : w0.heap.size < wa.heap.size := by rw [← hw1]; simp
    have hEa := HE.out.below (hba.mono hBw)
    have hBa := Nat.le_trans hBw hba.size
    have C1 := fun (w' : World) (hb : Below wa.heap.size wa w') => Lib.hid (validSource_any c0 (by omega) (hS.below hb))
    have C2 := fun (w' : World) (hb : Below wa.heap.size wa w') => Lib.hid (validSizes_any c1 (by omega) (hZ.below hb))
    have C3 := fun (w' : World) (hb : Below wa.heap.size wa w') (hv : Valid (lastErr st) st) (hzs : SizesOK zs) => Lib.hid (implReadFull_any (L := lastErr st) (hEa.below (hb.mono hBa)) (Nat.le_trans hBa hb.size) c0 c1 (hS.below hb) (by omega) (fun i hi => by have := hd i hi; omega) hv (fun e => by subst e; rfl) (hZ.below hb) hzs (by omega))
    have C4 := fun (w' : World) (hb : Below wa.heap.size wa w') (hv : Valid (lastErr st) st) (hzs : SizesOK zs) => Lib.hid (specReadFull_any c0 c1 (hS.below hb) (by omega) (fun i hi => by have := hd i hi; omega) hv (hZ.below hb) hzs (by omega))
    have HBA := Lib.hid hba
    clear C0 HE hEa hBa hS hZ hba h hz hb0 hd
    go_wp2_with fail
    clear hw1
    refine (C1 _ (Below.refl _ _)).out.mono ?_
    rintro e w1 ⟨v, rfl, hv, hb1⟩
    have y0 := cells_keep hb1 hya ya
    have HB1 := Lib.hid hb1
    have HV := Lib.hid hv
    have hsz1 := hb1.size
    clear hb1 hv
    cases v with
    | false =>
      go_wp2_with fail
      go_ret
      exact ⟨rfl, HBA.out.trans (HB1.out.mono HBA.out.size)⟩
    | true =>
      go_wp2_with fail
      refine (C2 _ HB1.out).out.mono ?_
      rintro e w2 ⟨v2, rfl, hv2, hb2⟩
      have hB2 : Below wa.heap.size wa w2 := HB1.out.trans (hb2.mono HB1.out.size)
      have y1 := cells_keep hb2 (by omega) y0
      have HB2 := Lib.hid hB2
      have HV2 := Lib.hid hv2
      have hsz2 := hb2.size
      clear hb2 hB2 hv2 y0
      cases v2 with
      | false =>
        go_wp2_with fail
        go_ret
        exact ⟨rfl, HBA.out.trans (HB2.out.mono HBA.out.size)⟩
      | true =>
        have hval := HV.out (by simp)
        have hzs := HV2.out (by simp)
        have HC3 := Lib.hid (C3 w2.drew HB2.out.drew hval hzs)
        have HC4 := Lib.hid fun (w' : World) (hb : Below wa.heap.size wa w') => C4 w' hb hval hzs
        have hlen := readFulls_length (lastErr st) zs st
        have hsm : ∀ i, i < (readFulls (lastErr st) zs st).length → (dat (readFulls (lastErr st) zs st) i).length ≤ 281474976710656 := fun i hi => by
          rw [hlen] at hi
          have h1 := readFulls_small (lastErr st) zs st i hi
          have h2 := (hzs.1 i hi).2
          rw [nth_def] at h2
          omega
        have HSM := Lib.hid hsm
        have HLEN := Lib.hid (show (readFulls (lastErr st) zs st).length ≤ 281474976710656 by omega)
        generalize readFulls (lastErr st) zs st = R at *
        clear C1 C2 C3 C4 hval hzs hlen hsm HV HV2
        go_wp2_with fail
        go_region_held3 (fun w' => w'.cell? ⟨w0.heap.size, 0, none⟩ = some (.slice A0 st.length c0))
          (first
            | go_keep
            | exact y2
            | exact y3
            | exact y4)
          (first
            | (go_at_call 16; refine HC3.out.out.mono ?_; rintro e w3 ⟨Aa, ca, rfl, hca, hra, hb3⟩; have hB3 := HB2.out.drew.trans (hb3.mono HB2.out.size); have y2 := cells_keep hb3 (show w0.heap.size < w2.heap.size by omega) y1; have hsz3 : w2.heap.size ≤ w3.heap.size := hb3.size)
            | (go_at_call 17; refine (HC4.out w3 hB3).out.mono ?_; rintro e w4 ⟨Ab, cb, rfl, hcb, hrb, hb4⟩; have hB4 := hB3.trans (hb4.mono hB3.size); have y3 := cells_keep hb4 (show w0.heap.size < w3.heap.size by omega) y2; have hra4 := (hra.mono (S' := (· < w3.heap.size)) fun k hk _ => hk).below hb4; have hsz4 := hb4.size)
            | (go_at_call 15; refine (sameGots_eq ca cb HLEN.out HSM.out hra4 hrb).mono ?_; rintro e w5 ⟨rfl, hb5⟩; have hB5 := hB4.trans (hb5.mono hB4.size); have y4 := cells_keep hb5 (show w0.heap.size < w4.heap.size by omega) y3))
        have HB5 := Lib.hid (HBA.out.trans (hB5.mono HBA.out.size))
        clear hB3 hB4 hB5 hra hrb hra4 hb3 hb4 hb5 y1 y2 y3 y4
        go_wp2_with fail
        go_ret
        exact ⟨rfl, HB5.out⟩

end Go.Proofs.YtoeihkmbbaggcaaDoor
