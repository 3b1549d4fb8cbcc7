/- FnTeeData, walked: it returns true, and changes nothing that was there. -/
import Derived.Test.YtbddgkmkdjkloaaDoorSTee
import Derived.Test.YtbddgkmkdjkloaaDoorTeeP
import Derived.Test.YtbddgkmkdjkloaaDoorSReads
import Derived.Test.YtbddgkmkdjkloaaDoorDrawTee
import Derived.Test.YtbddgkmkdjkloaaDoorSameG
import Derived.Test.YtbddgkmkdjkloaaDoorJoin
import Derived.Test.YtbddgkmkdjkloaaDoorLaw
import Derived.Deep.RegionHeld3
import Derived.Deep.QuietTactic
import Derived.BigQuiet
set_option linter.unusedVariables false
set_option linter.unusedSimpArgs false
namespace Go.Proofs.YtbddgkmkdjkloaaDoor
open Go.RowKit

set_option maxHeartbeats 1000000 in
set_option maxRecDepth 100000 in
theorem teeData_walk {B : Nat} {S : Nat → Prop} {w : World} {E : Nat → Addr} (hE : Errs B w E) (hBw : B ≤ w.heap.size) {A : Option Addr} {l : List Int} (c : Nat) (h : BytesAt S w A l) (hb : ∀ j, 0 ≤ nth l j ∧ nth l j ≤ 255) :
    Calls Tryd.prog 12 #[.slice A l.length c] w (LawPost w) := by
  by_cases hl : 1048576 < l.length
  · have hl' : (1048576 : Int) < (l.length : Int) := by omega
    clear hE h hb
    go_enter Tryd.func12, Tryd.ntmps12
    go_wp2_with fail
    go_ret
    exact ⟨rfl, Below.refl _ _⟩
  · have hl' : ¬ (1048576 : Int) < (l.length : Int) := by omega
    have C0 := Lib.hid (drawTee_any c h (by omega) (fun j _ => hb j))
    have HE := Lib.hid hE
    clear h hb hE hl
    generalize l.length = len at *
    go_enter Tryd.func12, Tryd.ntmps12
    go_wp2_with fail
    refine C0.out.mono ?_
    rintro e w0 ⟨st, A0, c0, lim, zs, A1, c1, rfl, hn, hd, hlim, hzl, h, hzi, hb0⟩
    clear C0
    have hsz0 := hb0.size
    have hj := joinD_bound hd
    generalize hw1 : (w0.alloc (.cells #[.slice A0 st.length c0] 24)).alloc (.cells #[.int .i64 lim] 46) = wa
    have hba : Below w.heap.size w wa := by rw [← hw1]; exact (hb0.alloc hsz0 _).alloc (by simp; omega) _
    have hS : RecsAt (· < wa.heap.size) wa A0 st := by rw [← hw1]; exact ((h.alloc _).alloc _).mono fun k hk _ => hk
    have hZ : IntsAt (· < wa.heap.size) wa A1 zs := by rw [← hw1]; exact ((hzi.alloc _).alloc _).mono fun k hk _ => hk
    have y0 : wa.cell? ⟨w0.heap.size, 0, none⟩ = some (.slice A0 st.length c0) := by rw [← hw1, World.cell?_alloc_lt _ _ _ (by simp)]; simp
    have z0 : wa.cell? ⟨w0.heap.size + 1, 0, none⟩ = some (.int .i64 lim) := by rw [← hw1]; simp
    have hya : w0.heap.size + 1 < wa.heap.size := by rw [← hw1]; simp
    have hEa := HE.out.below (hba.mono hBw)
    have hBa := Nat.le_trans hBw hba.size
    have C1 := fun (w' : World) (hb : Below wa.heap.size wa w') => Lib.hid (validSource_any c0 (by omega) (hS.below hb))
    have C2 := fun (w' : World) (hb : Below wa.heap.size wa w') => Lib.hid (validSizes_any c1 (by omega) (hZ.below hb))
    have HCI := Lib.hid fun (w' : World) (hb : Below wa.heap.size wa w') (hv : Valid (lastErr st) st) (hzs : SizesOK zs) (n : Nat) (hn2 : (n : Int) ≤ 9223372036854775807) => implTee_any (L := lastErr st) (hEa.below (hb.mono hBa)) (Nat.le_trans hBa hb.size) c0 c1 (hS.below hb) (by omega) (fun i hi => by have := hd i hi; omega) hv (fun e => by subst e; rfl) (hZ.below hb) hzs (by omega) n hn2 (by omega)
    have HCR := Lib.hid fun (w' : World) (hb : Below wa.heap.size wa w') (hzs : SizesOK zs) => specReads_any c0 c1 (hS.below hb) (by omega) (fun i hi => by have := hd i hi; omega) (hZ.below hb) hzs (by omega)
    have HCB := Lib.hid fun (w' : World) (hb : Below wa.heap.size wa w') => bytes_any c0 (by omega) (by omega) (hS.below hb)
    have HBA := Lib.hid hba
    have HB0 : Hid (Below wa.heap.size wa wa) := Lib.hid (Below.refl _ _)
    clear HE hEa hBa hS hZ hba h hzi hb0 hd
    go_wp2_with fail
    clear hw1
    go_wp2_with fail
    refine ((C1 _ HB0.out).out).mono ?_
    rintro e w1 ⟨v, rfl, hv, hb1⟩
    have HB1 := Lib.hid (HB0.out.trans (hb1.mono HB0.out.size))
    have hsz1 := hb1.size
    replace y0 := cells_keep0 hb1 (by omega) y0
    replace z0 := cells_keep0 hb1 (by omega) z0
    have HV := Lib.hid hv
    clear hb1 hv C1
    cases v with
    | false =>
      go_wp2_with fail
      go_ret
      exact ⟨by first | rfl | simp, HBA.out.trans (HB1.out.mono HBA.out.size)⟩
    | true =>
      have HVV := Lib.hid (HV.out rfl)
      clear HV
      go_wp2_with fail
      refine ((C2 _ HB1.out).out).mono ?_
      rintro e w2 ⟨v2, rfl, hv2, hb2⟩
      have HB2 := Lib.hid (HB1.out.trans (hb2.mono HB1.out.size))
      have hsz2 := hb2.size
      replace y0 := cells_keep0 hb2 (by omega) y0
      replace z0 := cells_keep0 hb2 (by omega) z0
      have HV2 := Lib.hid hv2
      clear hb2 hv2 C2
      cases v2 with
      | false =>
        go_wp2_with fail
        go_ret
        exact ⟨by first | rfl | simp, HBA.out.trans (HB2.out.mono HBA.out.size)⟩
      | true =>
        have HZZ := Lib.hid (HV2.out rfl)
        clear HV2
        by_cases hneg : lim < 0
        · go_wp2_with fail
          go_ret
          exact ⟨by first | rfl | simp, HBA.out.trans (HB2.out.mono HBA.out.size)⟩
        · obtain ⟨n, rfl⟩ : ∃ n : Nat, lim = (n : Int) := ⟨lim.toNat, by omega⟩
          have hn2 : (n : Int) ≤ 9223372036854775807 := by omega
          have HC3 := Lib.hid (HCB.out w2.drew HB2.out.drew)
          clear HCB
          go_wp2_with fail
          go_region_held3 (fun w' => w'.cell? ⟨w0.heap.size, 0, none⟩ = some (.slice A0 st.length c0) ∧ w'.cell? ⟨w0.heap.size + 1, 0, none⟩ = some (.int .i64 (n : Int)))
            (first
              | go_keep
              | exact ⟨y0, z0⟩
              | exact ⟨y3, z3⟩)
            (first
              | (go_at_call 20; refine HC3.out.mono ?_; rintro e w3 ⟨Aj, cj, rfl, hcj, hbyj, hb3⟩; have hB3 := HB2.out.drew.trans (hb3.mono HB2.out.size); have hsz3 : w2.heap.size ≤ w3.heap.size := hb3.size; have y3 := cells_keep0 hb3 (show w0.heap.size < w2.heap.size by omega) y0; have z3 := cells_keep0 hb3 (show w0.heap.size + 1 < w2.heap.size by omega) z0))
          have HB3 := Lib.hid hB3
          clear hB3 hb3 hbyj y0 z0
          by_cases hle : (n : Int) < ((joinD st).length : Int)
          · go_wp2_with fail
            go_ret
            exact ⟨by first | rfl | simp, HBA.out.trans (HB3.out.mono HBA.out.size)⟩
          · have hroom := tee_room (lastErr st) zs st n [] (by omega)
            have hRl := runs_length (teeStep (rd (lastErr st))) zs (st, n, [])
            have HRS := Lib.hid (runs_lens (step := teeStep (rd (lastErr st))) (teeStep_len (lastErr st)) (t := (st, n, [])) HZZ.out)
            have htk := tee_taken (lastErr st) zs st n []
            have hpj := congrArg List.length (rdruns_join (lastErr st) zs st)
            rw [List.length_append] at hpj
            rw [List.nil_append] at htk
            have HLEN := Lib.hid (show (runs (teeStep (rd (lastErr st))) zs (st, n, [])).1.length ≤ 281474976710656 by omega)
            have HRS' : Hid (∀ i, i < (runs (teeStep (rd (lastErr st))) zs (st, n, [])).1.length → (dat (runs (teeStep (rd (lastErr st))) zs (st, n, [])).1 i).length ≤ 281474976710656) := Lib.hid fun i hi => by have := HRS.out i hi; omega
            have htk' : (runs (teeStep (rd (lastErr st))) zs (st, n, [])).2.2.2 = joinD (runs (rd (lastErr st)) zs st).1 := by rw [htk, List.take_of_length_le (by omega)]
            have hC4 := HCI.out w3 HB3.out HVV.out HZZ.out n hn2
            have HC7 := Lib.hid fun (w' : World) (hb : Below wa.heap.size wa w') => HCR.out w' hb HZZ.out
            rw [hroom] at hRl HLEN HRS' hC4
            rw [htk'] at hC4
            have hpl : (joinD (runs (rd (lastErr st)) zs st).1).length ≤ 4200 := by omega
            clear htk htk' HRS hroom hpj
            generalize (runs (rd (lastErr st)) zs st).1 = R at *
            have HC4 := Lib.hid hC4
            have hRl' : R.length ≤ 281474976710656 := by omega
            clear HCI HCR hC4 hRl
            go_wp2_with fail
            refine (HC4.out).mono ?_
            rintro e w4 ⟨Aa, ca, Ax, cx, rfl, hca, hcx, hra, hxa, hb4⟩
            have HB4 := Lib.hid (HB3.out.trans (hb4.mono HB3.out.size))
            have hsz4 := hb4.size
            replace y3 := cells_keep0 hb4 (by omega) y3
            have HRA := Lib.hid (hra.mono (S' := (· < w4.heap.size)) fun k hk _ => hk)
            have HXA := Lib.hid (hxa.mono (S' := (· < w4.heap.size)) fun k hk _ => hk)
            have HCJ := Lib.hid (join_any ca (by omega) (by omega) hra)
            clear hb4 hra hxa HC4
            go_wp2_with fail
            refine (HCJ.out).mono ?_
            rintro e w5 ⟨Ab, cb, rfl, hcb, hyb, hb5⟩
            have HB5 := Lib.hid (HB4.out.trans (hb5.mono HB4.out.size))
            have hsz5 := hb5.size
            replace y3 := cells_keep0 hb5 (by omega) y3
            have CSB := Lib.hid (sameBytes_eq cb cx (by omega) hyb (HXA.out.below hb5))
            have HRA5 := Lib.hid ((HRA.out.below hb5).mono (S' := (· < w5.heap.size)) fun k hk _ => hk)
            clear hb5 hyb HCJ HXA HRA
            generalize (joinD R).length = jn at *
            have HC7' := fun n6 => Lib.hid (HC7.out (w5.drewN n6) (below_drewN HB5.out n6))
            go_wp2_with fail
            refine CSB.out.mono ?_
            rintro e w6 ⟨rfl, n6, rfl⟩
            replace y3 : (w5.drewN n6).cell? ⟨w0.heap.size, 0, none⟩ = some (.slice A0 st.length c0) := y3
            have HC7a := HC7' n6
            have HRA6 := Lib.hid (HRA5.out.drewN n6)
            have HB6 := Lib.hid (below_drewN HB5.out n6)
            have hsz6 : (w5.drewN n6).heap.size = w5.heap.size := rfl
            clear CSB HC7' HC7 HRA5
            generalize w5.drewN n6 = w6 at *
            go_wp2_with fail
            refine (HC7a.out).mono ?_
            rintro e w7 ⟨Ac, cc, rfl, hcc, hrc, hb7⟩
            have HB7 := Lib.hid (HB6.out.trans (hb7.mono HB6.out.size))
            have hsz7 := hb7.size
            replace y3 := cells_keep0 hb7 (by omega) y3
            have CSG := Lib.hid (sameGots_eq ca cc HLEN.out HRS'.out ((HRA6.out.mono (S' := (· < w6.heap.size)) fun k _ hk => by omega).below hb7) hrc)
            clear hb7 hrc HC7a
            generalize R.length = rn at *
            go_wp2_with fail
            refine (CSG.out).mono ?_
            rintro e w8 ⟨rfl, hb8⟩
            have HB8 := Lib.hid (HB7.out.trans (hb8.mono HB7.out.size))
            have hsz8 := hb8.size
            replace y3 := cells_keep0 hb8 (by omega) y3
            clear hb8
            go_wp2_with fail
            go_ret
            exact ⟨by first | rfl | simp, HBA.out.trans (HB8.out.mono HBA.out.size)⟩

end Go.Proofs.YtbddgkmkdjkloaaDoor
