/- FnReadFullIff, walked: it returns true, and changes nothing that was there. -/
import Derived.Test.YtoeihkmbbaggcaaDoorLReadFull
import Derived.Test.YtoeihkmbbaggcaaDoorIff
set_option linter.unusedVariables false
set_option linter.unusedSimpArgs false
namespace Go.Proofs.YtoeihkmbbaggcaaDoor
open Go.RowKit

set_option maxHeartbeats 1000000 in
set_option maxRecDepth 100000 in
theorem readFullIff_walk {B : Nat} {S : Nat → Prop} {w : World} {E : Nat → Addr} (hE : Errs B w E) (hBw : B ≤ w.heap.size) {A : Option Addr} {l : List Int} (c : Nat) (h : BytesAt S w A l) (hb : ∀ j, 0 ≤ nth l j ∧ nth l j ≤ 255) :
    Calls Tryd.prog 7 #[.slice A l.length c] w (LawPost w) := by
  by_cases hl : 1048576 < l.length
  · have hl' : (1048576 : Int) < (l.length : Int) := by omega
    clear hE h hb
    go_enter Tryd.func7, Tryd.ntmps7
    go_wp2_with fail
    go_ret
    exact ⟨rfl, Below.refl _ _⟩
  · have hl' : ¬ (1048576 : Int) < (l.length : Int) := by omega
    have C0 := Lib.hid (drawFull_any c h (by omega) (fun j _ => hb j))
    have HE := Lib.hid hE
    clear h hb hE hl
    generalize l.length = len at *
    go_enter Tryd.func7, Tryd.ntmps7
    go_wp2_with fail
    refine C0.out.mono ?_
    rintro e w0 ⟨st, A0, c0, zs, A1, c1, rfl, hn, hd, hzn, h, hz, hb0⟩
    have hsz0 := hb0.size
    generalize hw1 : w0.alloc (.cells #[.slice A0 st.length c0] 25) = wa
    have hba : Below w.heap.size w wa := by rw [← hw1]; exact hb0.alloc hsz0 _
    have hS : RecsAt (· < wa.heap.size) wa A0 st := by rw [← hw1]; exact (h.alloc _).mono fun k hk _ => hk
    have hZ : IntsAt (· < wa.heap.size) wa A1 zs := by rw [← hw1]; exact (hz.alloc _).mono fun k hk _ => hk
    have ya : wa.cell? ⟨w0.heap.size, 0, none⟩ = some (.slice A0 st.length c0) := by rw [← hw1]; simp
    have hya : w0.heap.size < wa.heap.size := by rw [← hw1]; simp
    have hEa := HE.out.below (hba.mono hBw)
    have hBa := Nat.le_trans hBw hba.size
    have C1 := fun (w' : World) (hb : Below wa.heap.size wa w') => Lib.hid (validSource_any c0 (by omega) (hS.below hb))
    have C2 := fun (w' : World) (hb : Below wa.heap.size wa w') => Lib.hid (validSizes_any c1 (by omega) (hZ.below hb))
    have C3 := fun (w' : World) (hb : Below wa.heap.size wa w') (hv : Valid (lastErr st) st) (hzs : SizesOK zs) => Lib.hid (implReadFull_any (L := lastErr st) (hEa.below (hb.mono hBa)) (Nat.le_trans hBa hb.size) c0 c1 (hS.below hb) (by omega) (fun i hi => by have := hd i hi; omega) hv (fun e => by subst e; rfl) (hZ.below hb) hzs (by omega))
    have HBA := Lib.hid hba
    have HZ := Lib.hid hZ
    clear C0 HE hEa hBa hS hZ hba h hz hb0 hd
    go_wp2_with fail
    clear hw1
    refine (C1 _ (Below.refl _ _)).out.mono ?_
    rintro e w1 ⟨v, rfl, hv, hb1⟩
    have y0 := cells_keep hb1 hya ya
    have HB1 := Lib.hid hb1
    have HV := Lib.hid hv
    have hsz1 := hb1.size
    clear hb1 hv
    cases v with
    | false =>
      go_wp2_with fail
      go_ret
      exact ⟨rfl, HBA.out.trans (HB1.out.mono HBA.out.size)⟩
    | true =>
      go_wp2_with fail
      refine (C2 _ HB1.out).out.mono ?_
      rintro e w2 ⟨v2, rfl, hv2, hb2⟩
      have hB2 : Below wa.heap.size wa w2 := HB1.out.trans (hb2.mono HB1.out.size)
      have y1 := cells_keep hb2 (by omega) y0
      have HB2 := Lib.hid hB2
      have HV2 := Lib.hid hv2
      have hsz2 := hb2.size
      clear hb2 hB2 hv2 y0
      cases v2 with
      | false =>
        go_wp2_with fail
        go_ret
        exact ⟨rfl, HBA.out.trans (HB2.out.mono HBA.out.size)⟩
      | true =>
        have hval := HV.out (by simp)
        have hzs := HV2.out (by simp)
        have HC3 := Lib.hid (C3 w2 HB2.out hval hzs)
        have HIFF := Lib.hid fun (i : Nat) (hi : i < zs.length) => readFulls_iff hval hi (hzs.1 i hi).1
        have hlen := readFulls_length (lastErr st) zs st
        have hsm : ∀ i, i < zs.length → (dat (readFulls (lastErr st) zs st) i).length ≤ 1048576 := fun i hi => by
          have h1 := readFulls_small (lastErr st) zs st i hi
          have h2 := (hzs.1 i hi).2
          rw [nth_def] at h2
          omega
        have HSM := Lib.hid hsm
        have HLEN := Lib.hid hlen
        generalize readFulls (lastErr st) zs st = R at *
        clear C1 C2 C3 hval hzs hlen hsm HV HV2
        go_wp2_with fail
        refine HC3.out.out.mono ?_
        rintro e w3 ⟨Aa, ca, rfl, hca, hra, hb3⟩
        have HB3 := Lib.hid (HB2.out.trans (hb3.mono HB2.out.size))
        have HRA := Lib.hid (hra.mono (S' := (· < w3.heap.size)) fun k hk _ => hk)
        have HZ3 := Lib.hid (HZ.out.below HB3.out)
        clear hb3 hra HC3 HB1 HB2 HZ y1 ya
        rw [HLEN.out] at hca ⊢
        generalize hzl : zs.length = zn at *
        have HZL := Lib.hid hzl
        clear hzl
        go_wp2_with fail
        go_loopg [6, 7] zn (fun f i y wr => ∃ k : Nat, k ≤ zn ∧ f = zn - k ∧ i = .int .i64 k ∧ Hid (Below w3.heap.size w3 wr))
        case atStart => exact ⟨0, Nat.zero_le _, by omega, rfl, Lib.hid (Below.refl _ _)⟩
        case round =>
          obtain ⟨k, hk, rfl, rfl, HBR⟩ := hrel
          by_cases hlt : k < zn
          · obtain ⟨ab, aoff, rfl, _, _, hcs⟩ := HRA.out.below HBR.out (by rw [HLEN.out]; omega)
            obtain ⟨Ai, ci, g1, g2, _, _⟩ := hcs k (by rw [HLEN.out]; omega)
            obtain ⟨zb, zoff, rfl, _, _, hzc⟩ := (HZ3.out.mono (S' := (· < w3.heap.size)) fun k hk _ => hk).below HBR.out (by have := HZL.out; omega)
            have g3 := hzc k (by have := HZL.out; omega)
            have hiff := HIFF.out k hlt
            have hsm := HSM.out k hlt
            clear hcs hzc
            generalize (dat R k).length = kk at *
            generalize err R k = x at *
            generalize nth zs k = z at *
            have hki : (0 : Int) ≤ (k : Int) := by omega
            have hki2 : (k : Int) < (zn : Int) := by omega
            rcases hiff with ⟨rfl, rfl⟩ | ⟨rfl, rfl, hne⟩ | ⟨rfl, h0, hne⟩ | ⟨rfl, hne⟩
            · go_wp2_with fail
              go_quiet (fail)
              go_wp2_with fail
              go_roundg (zn - (k + 1))
              case measure => omega
              case rel => exact ⟨k + 1, by omega, rfl, by go_num, Lib.hid (below_drewN HBR.out _)⟩
            · have b1 : (((0 : Nat) : Int) == z) = false := by simpa using hne
              have b2 : ((0 : Int) == z) = false := by simpa using hne
              clear hne
              go_wp2_with fail
              go_quiet (fail)
              go_wp2_with fail
              go_roundg (zn - (k + 1))
              case measure => omega
              case rel => exact ⟨k + 1, by omega, rfl, by go_num, Lib.hid (below_drewN HBR.out _)⟩
            · have b1 : ((kk : Int) == z) = false := by simpa using hne
              have b2 : ((kk : Int) == 0) = false := by simpa using h0
              clear hne h0
              go_wp2_with fail
              go_quiet (fail)
              go_wp2_with fail
              go_roundg (zn - (k + 1))
              case measure => omega
              case rel => exact ⟨k + 1, by omega, rfl, by go_num, Lib.hid (below_drewN HBR.out _)⟩
            · have b1 : ((kk : Int) == z) = false := by simpa using hne
              clear hne
              go_wp2_with fail
              go_quiet (fail)
              go_wp2_with fail
              go_roundg (zn - (k + 1))
              case measure => omega
              case rel => exact ⟨k + 1, by omega, rfl, by go_num, Lib.hid (below_drewN HBR.out _)⟩
          · go_wp2_with fail
            go_ret
            refine ⟨by simp, HBA.out.trans ((HB3.out.trans (HBR.out.mono HB3.out.size)).mono HBA.out.size)⟩

end Go.Proofs.YtoeihkmbbaggcaaDoor
