/- FnExactReadFull, walked: it returns true, and changes nothing that was there. -/
import Derived.Test.YtoeihkmbbaggcaaDoorFullW
import Derived.Test.YtoeihkmbbaggcaaDoorSFull
import Derived.Test.YtoeihkmbbaggcaaDoorSame
import Derived.Test.YtoeihkmbbaggcaaDoorLaw
set_option linter.unusedVariables false
set_option linter.unusedSimpArgs false
namespace Go.Proofs.YtoeihkmbbaggcaaDoor
open Go.RowKit

theorem readFulls_small (L : Int) : ∀ (zs : List Int) (st : List (List Int × Int)) (i : Nat), i < zs.length → (dat (readFulls L zs st) i).length ≤ (nth zs i).toNat
  | [], _, _, h => by simp at h
  | z :: zs, st, 0, _ => atLeast_len L z.toNat z.toNat st
  | z :: zs, st, i + 1, h => readFulls_small L zs (atLeast L z.toNat z.toNat st).2 i (by simpa using h)

set_option maxHeartbeats 1000000 in
set_option maxRecDepth 100000 in
theorem exactReadFull_walk {B : Nat} {S S1 : Nat → Prop} {w : World} {E : Nat → Addr} (hE : Errs B w E) (hBw : B ≤ w.heap.size) {A A1 : Option Addr} {st : List (List Int × Int)} {zs : List Int} (c c1 : Nat) (h : RecsAt S w A st) (hz : IntsAt S1 w A1 zs)
    (hn : st.length ≤ 1048576) (hd : ∀ i, i < st.length → (dat st i).length ≤ 1048576) (hzn : zs.length ≤ 1048576) :
    Calls Tryd.prog 5 #[.agg #[.slice A st.length c], .slice A1 zs.length c1] w (LawPost w) := by
  have hS := h.mono (S' := (· < w.heap.size)) fun k hk _ => hk
  have hZ := hz.mono (S' := (· < w.heap.size)) fun k hk _ => hk
  have C1 := fun (w' : World) (hb : Below w.heap.size w w') => Lib.hid (validSource_any c (by omega) (hS.below hb))
  have C2 := fun (w' : World) (hb : Below w.heap.size w w') => Lib.hid (validSizes_any c1 (by omega) (hZ.below hb))
  have C3 := fun (w' : World) (hb : Below w.heap.size w w') (hv : Valid (lastErr st) st) (hzs : SizesOK zs) => Lib.hid (implReadFull_any (L := lastErr st) (hE.below (hb.mono hBw)) (Nat.le_trans hBw hb.size) c c1 (hS.below hb) (by omega) (fun i hi => by have := hd i hi; omega) hv (fun e => by subst e; rfl) (hZ.below hb) hzs (by omega))
  have C4 := fun (w' : World) (hb : Below w.heap.size w w') (hv : Valid (lastErr st) st) (hzs : SizesOK zs) => Lib.hid (specReadFull_any c c1 (hS.below hb) (by omega) (fun i hi => by have := hd i hi; omega) hv (hZ.below hb) hzs (by omega))
  clear hE h hz hS hZ hd
  go_enter Tryd.func5, Tryd.ntmps5
  go_wp2_with fail
  refine (C1 _ ?_).out.mono ?_
  · exact (Below.refl _ _).alloc (Nat.le_refl _) _
  rintro e w1 ⟨v, rfl, hv, hb1⟩
  have hB1 : Below w.heap.size w w1 := ((Below.refl _ _).alloc (Nat.le_refl _) _).trans (hb1.mono (by simp))
  have y0 : w1.cell? ⟨w.heap.size, 0, none⟩ = some (.slice A st.length c) := (hb1.cell (p := ⟨w.heap.size, 0, none⟩) (by simp)).trans (by simp)
  have HB1 := Lib.hid hB1
  have HV := Lib.hid hv
  have hsz1 := hb1.size
  simp at hsz1
  clear hb1 hB1 hv
  cases v with
  | false =>
    go_wp2_with fail
    go_ret
    exact ⟨rfl, HB1.out⟩
  | true =>
    go_wp2_with fail
    refine (C2 _ HB1.out).out.mono ?_
    rintro e w2 ⟨v2, rfl, hv2, hb2⟩
    have hB2 : Below w.heap.size w w2 := HB1.out.trans (hb2.mono HB1.out.size)
    have y1 : w2.cell? ⟨w.heap.size, 0, none⟩ = some (.slice A st.length c) := (hb2.cell (p := ⟨w.heap.size, 0, none⟩) (by simp; omega)).trans y0
    have HB2 := Lib.hid hB2
    have HV2 := Lib.hid hv2
    have hsz2 := hb2.size
    clear hb2 hB2 hv2 y0
    cases v2 with
    | false =>
      go_wp2_with fail
      go_ret
      exact ⟨rfl, HB2.out⟩
    | true =>
      have hval := HV.out (by simp)
      have hzs := HV2.out (by simp)
      have HC3 := Lib.hid (C3 w2.drew HB2.out.drew hval hzs)
      have HC4 := Lib.hid fun (w' : World) (hb : Below w.heap.size w w') => C4 w' hb hval hzs
      have hlen := readFulls_length (lastErr st) zs st
      have hsm : ∀ i, i < (readFulls (lastErr st) zs st).length → (dat (readFulls (lastErr st) zs st) i).length ≤ 281474976710656 := fun i hi => by
        rw [hlen] at hi
        have h1 := readFulls_small (lastErr st) zs st i hi
        have h2 := (hzs.1 i hi).2
        rw [nth_def] at h2
        omega
      have HSM := Lib.hid hsm
      have HLEN := Lib.hid (show (readFulls (lastErr st) zs st).length ≤ 281474976710656 by omega)
      generalize readFulls (lastErr st) zs st = R at *
      clear C1 C2 C3 C4 hval hzs hlen hsm HV HV2
      go_wp2_with fail
      go_region_held3 (fun w' => w'.cell? ⟨w.heap.size, 0, none⟩ = some (.slice A st.length c))
        (first
          | go_keep
          | exact y2
          | exact y3
          | exact y4)
        (first
          | (go_at_call 16; refine HC3.out.out.mono ?_; rintro e w3 ⟨Aa, ca, rfl, hca, hra, hb3⟩; have hB3 := HB2.out.drew.trans (hb3.mono HB2.out.size); have y2 := (hb3.cell (p := ⟨w.heap.size, 0, none⟩) (show w.heap.size < w2.heap.size by omega)).trans y1; have hsz3 : w2.heap.size ≤ w3.heap.size := hb3.size)
          | (go_at_call 17; refine (HC4.out w3 hB3).out.mono ?_; rintro e w4 ⟨Ab, cb, rfl, hcb, hrb, hb4⟩; have hB4 := hB3.trans (hb4.mono hB3.size); have y3 := (hb4.cell (p := ⟨w.heap.size, 0, none⟩) (show w.heap.size < w3.heap.size by omega)).trans y2; have hra4 := (hra.mono (S' := (· < w3.heap.size)) fun k hk _ => hk).below hb4; have hsz4 := hb4.size)
          | (go_at_call 15; refine (sameGots_eq ca cb HLEN.out HSM.out hra4 hrb).mono ?_; rintro e w5 ⟨rfl, hb5⟩; have hB5 := hB4.trans (hb5.mono hB4.size); have y4 := (hb5.cell (p := ⟨w.heap.size, 0, none⟩) (show w.heap.size < w4.heap.size by omega)).trans y3))
      have HB5 := Lib.hid hB5
      clear hB3 hB4 hB5 hra hrb hra4 hb3 hb4 hb5 y1 y2 y3 y4
      go_wp2_with fail
      go_ret
      exact ⟨rfl, HB5.out⟩

end Go.Proofs.YtoeihkmbbaggcaaDoor
