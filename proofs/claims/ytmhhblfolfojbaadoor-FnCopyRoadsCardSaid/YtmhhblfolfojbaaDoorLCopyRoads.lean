/- FnCopyRoads, walked: it returns true, and changes nothing that was there. -/
import Derived.Test.YtmhhblfolfojbaaDoorCopyN
import Derived.Test.YtmhhblfolfojbaaDoorDrawCopy
import Derived.Test.YtmhhblfolfojbaaDoorLit
import Derived.Test.YtmhhblfolfojbaaDoorLaw
set_option linter.unusedVariables false
set_option linter.unusedSimpArgs false
namespace Go.Proofs.YtmhhblfolfojbaaDoor
open Go.RowKit

set_option maxHeartbeats 1000000 in
set_option maxRecDepth 100000 in
theorem copyRoads_walk {B : Nat} {S : Nat → Prop} {w : World} {E : Nat → Addr} (hE : Errs B w E) (hBw : B ≤ w.heap.size) {A : Option Addr} {l : List Int} (c : Nat) (h : BytesAt S w A l) (hb : ∀ j, 0 ≤ nth l j ∧ nth l j ≤ 255) :
    Calls Tryd.prog 7 #[.slice A l.length c] w (LawPost w) := by
  by_cases hl : 1048576 < l.length
  · have hl' : (1048576 : Int) < (l.length : Int) := by omega
    clear hE h hb
    go_enter Tryd.func7, Tryd.ntmps7
    go_wp2_with fail
    go_ret
    exact ⟨rfl, Below.refl _ _⟩
  · have hl' : ¬ (1048576 : Int) < (l.length : Int) := by omega
    have C0 := Lib.hid (drawCopy_any c h (by omega) (fun j _ => hb j))
    have HE := Lib.hid hE
    clear h hb hE hl
    generalize l.length = len at *
    go_enter Tryd.func7, Tryd.ntmps7
    go_wp2_with fail
    refine C0.out.mono ?_
    rintro e w0 ⟨st, A0, c0, lim, nn, rfl, hn, hd, hlim, hnn, h, hb0⟩
    clear C0
    have hsz0 := hb0.size
    have hj := joinD_bound hd
    generalize hw1 : (w0.alloc (.cells #[.slice A0 st.length c0] 25)).alloc (.cells #[.int .i64 lim] 27) = wa
    have hba : Below w.heap.size w wa := by rw [← hw1]; exact (hb0.alloc hsz0 _).alloc (by simp; omega) _
    have hS : RecsAt (· < wa.heap.size) wa A0 st := by rw [← hw1]; exact ((h.alloc _).alloc _).mono fun k hk _ => hk
    have y0 : wa.cell? ⟨w0.heap.size, 0, none⟩ = some (.slice A0 st.length c0) := by rw [← hw1, World.cell?_alloc_lt _ _ _ (by simp)]; simp
    have z0 : wa.cell? ⟨w0.heap.size + 1, 0, none⟩ = some (.int .i64 lim) := by rw [← hw1]; simp
    have hya : w0.heap.size + 1 < wa.heap.size := by rw [← hw1]; simp
    have hEa := HE.out.below (hba.mono hBw)
    have hBa := Nat.le_trans hBw hba.size
    have C1 := fun (w' : World) (hb : Below wa.heap.size wa w') => Lib.hid (validSource_any c0 (by omega) (hS.below hb))
    have C3 := fun (w' : World) (hb : Below wa.heap.size wa w') (hv : Valid (lastErr st) st) (n m : Nat) (hn2 : (n : Int) ≤ 9223372036854775807) (hm2 : (m : Int) ≤ 9223372036854775807) => Lib.hid (implCopyN_any (L := lastErr st) (hEa.below (hb.mono hBa)) (Nat.le_trans hBa hb.size) c0 (hS.below hb) (by omega) (fun i hi => by have := hd i hi; omega) hv (fun e => by subst e; rfl) n m hn2 hm2 (by omega))
    have C2 := fun (w' : World) (hb : Below wa.heap.size wa w') (hv : Valid (lastErr st) st) (n : Nat) (hn2 : (n : Int) ≤ 9223372036854775807) => Lib.hid (implCopy_any (L := lastErr st) (hEa.below (hb.mono hBa)) (Nat.le_trans hBa hb.size) c0 (hS.below hb) (by omega) (fun i hi => by have := hd i hi; omega) hv (fun e => by subst e; rfl) n hn2 (by omega))
    have HC5 := Lib.hid fun (w' : World) (hb : Below wa.heap.size wa w') => bytes_any c0 (by omega) (by omega) (hS.below hb)
    have HC6 := Lib.hid fun (w' : World) (hb : Below wa.heap.size wa w') (hv : Valid (lastErr st) st) (A' : Option Addr) (t : Nat) (S' : Nat → Prop) (hi : IntsAt S' w' A' [(t : Int)]) (ht : t ≤ 1048576) => implReadFull_any (L := lastErr st) (hEa.below (hb.mono hBa)) (Nat.le_trans hBa hb.size) c0 1 (hS.below hb) (by omega) (fun i hi => by have := hd i hi; omega) hv (fun e => by subst e; rfl) hi (zs := [(t : Int)]) (sizes_one ht) (by simp)
    have HBA := Lib.hid hba
    have HB0 : Hid (Below wa.heap.size wa wa) := Lib.hid (Below.refl _ _)
    clear HE hEa hBa hS hba h hb0 hd
    go_wp2_with fail
    clear hw1
    go_wp2_with fail
    refine ((HC5.out _ HB0.out)).mono ?_
    rintro e w1 ⟨Ab, cb, rfl, hcb, hbyb, hb1⟩
    have HB1 := Lib.hid (HB0.out.trans (hb1.mono HB0.out.size))
    have hsz1 := hb1.size
    replace y0 := cells_keep0 hb1 (by omega) y0
    replace z0 := cells_keep0 hb1 (by omega) z0
    clear hb1 hbyb HC5
    go_wp2_with fail
    refine ((C1 _ HB1.out).out).mono ?_
    rintro e w2 ⟨v, rfl, hv, hb2⟩
    have HB2 := Lib.hid (HB1.out.trans (hb2.mono HB1.out.size))
    have hsz2 := hb2.size
    replace y0 := cells_keep0 hb2 (by omega) y0
    replace z0 := cells_keep0 hb2 (by omega) z0
    have HV := Lib.hid hv
    clear hb2 hv C1
    cases v with
    | false =>
      go_wp2_with fail
      go_ret
      exact ⟨by first | rfl | simp, HBA.out.trans (HB2.out.mono HBA.out.size)⟩
    | true =>
      have HVV := Lib.hid (HV.out rfl)
      clear HV
      by_cases hneg : lim < ((joinD st).length : Int)
      · go_wp2_with fail
        go_ret
        exact ⟨by first | rfl | simp, HBA.out.trans (HB2.out.mono HBA.out.size)⟩
      · have hbig : ¬ (65536 : Int) < ((joinD st).length : Int) := by omega
        obtain ⟨n, rfl⟩ : ∃ n : Nat, lim = (n : Int) := ⟨lim.toNat, by omega⟩
        have hends := HVV.out.ends
        obtain ⟨x1, x2, hx, hR1, hR2⟩ : ∃ x1 x2 : Int, ((x1 = 0 ∧ x2 = 1) ∨ (x1 = 2 ∧ x2 = 2)) ∧ copyR (lastErr st) st n = (joinD st, x1) ∧ copyNR (lastErr st) st n ((joinD st).length + 1) = (joinD st, x2) := by
          rcases hends with hL | hL
          · exact ⟨0, 1, .inl ⟨rfl, rfl⟩, by unfold copyR; rw [if_neg (by omega), hL]; rfl, by unfold copyNR; rw [if_neg (by omega), if_neg (by omega), hL]⟩
          · exact ⟨2, 2, .inr ⟨rfl, rfl⟩, by unfold copyR; rw [if_neg (by omega), hL]; rfl, by unfold copyNR; rw [if_neg (by omega), if_neg (by omega), hL]⟩
        have C2' := C2 w2 HB2.out HVV.out n (by omega)
        have HC3' := Lib.hid fun (w' : World) (hb : Below wa.heap.size wa w') => C3 w' hb HVV.out n ((joinD st).length + 1) (by omega) (by omega)
        rw [hR1] at C2'
        rw [hR2] at HC3'
        have hjt : (joinD st).take (joinD st).length = joinD st := List.take_length
        have C6' := Lib.hid fun (w' : World) (hb : Below wa.heap.size wa w') => HC6.out (w'.alloc (.cells #[.int .i64 ((joinD st).length : Int)] 3)) (hb.alloc hb.size _) HVV.out _ (joinD st).length _ (ints_one w' 3 ((joinD st).length : Int)) (by omega)
        have HJN := Lib.hid (readFulls_one (z := (joinD st).length) HVV.out)
        have HLN := Lib.hid (readFulls_length (lastErr st) [((joinD st).length : Int)] st)
        generalize readFulls (lastErr st) [((joinD st).length : Int)] st = RF at *
        rw [hjt] at HJN
        have C2h := Lib.hid C2'
        have hcast : (((joinD st).length + 1 : Nat) : Int) = ((joinD st).length : Int) + 1 := by omega
        rw [hcast] at HC3'
        generalize joinD st = js at *
        clear C2 C3 HC6 hR1 hR2 C2' hjt hcast
        go_wp2_with fail
        refine (C2h.out.out).mono ?_
        rintro e w3 ⟨A2, c2, rfl, hc2, hby2, hb3⟩
        have HB3 := Lib.hid (HB2.out.trans (hb3.mono HB2.out.size))
        have hsz3 := hb3.size
        replace y0 := cells_keep0 hb3 (by omega) y0
        replace z0 := cells_keep0 hb3 (by omega) z0
        have HBY2 := Lib.hid (hby2.mono (S' := (· < w3.heap.size)) fun k hk _ => hk)
        clear hb3 hby2 C2h
        go_wp2_with fail
        refine ((HC3'.out w3 HB3.out).out).mono ?_
        rintro e w4 ⟨A3, c3, rfl, hc3, hby3, hb4⟩
        have HB4 := Lib.hid (HB3.out.trans (hb4.mono HB3.out.size))
        have hsz4 := hb4.size
        replace y0 := cells_keep0 hb4 (by omega) y0
        replace z0 := cells_keep0 hb4 (by omega) z0
        have HBY2a := Lib.hid (HBY2.out.below hb4)
        have CS1 := Lib.hid (sameBytes_eq c2 c3 (by omega) HBY2a.out hby3)
        clear hb4 hby3 HC3' HBY2
        generalize hjl : js.length = jn at *
        have HJL := Lib.hid hjl
        clear hjl
        clear hends
        rcases hx with ⟨rfl, rfl⟩ | ⟨rfl, rfl⟩
        all_goals
          go_wp2_with fail
          refine CS1.out.mono ?_
          rintro e w5 ⟨rfl, n5, rfl⟩
          have C7 := Lib.hid (C6'.out (w4.drewN n5) (below_drewN HB4.out n5))
          have y9 : (w4.drewN n5).cell? ⟨w0.heap.size, 0, none⟩ = some (.slice A0 st.length c0) := y0
          go_wp2_with fail
          refine C7.out.mono ?_
          rintro e w6 ⟨A6, c6, rfl, hc6, hr6, hb6'⟩
          have hb6 : Below w4.heap.size w4 w6 := (below_drewN (Below.refl _ _) n5).trans ((((Below.refl _ _).alloc (Nat.le_refl _) _).trans (hb6'.mono (by simp))).mono (by simp))
          have HB6 := Lib.hid (HB4.out.trans (hb6.mono HB4.out.size))
          have HBY6 := Lib.hid ((HBY2a.out.mono (S' := (· < w4.heap.size)) fun k hk _ => hk).below hb6)
          have CJ := join_any (st := RF) c6 (by have := HLN.out; simp at this; omega) (by rw [HJN.out]; have := HJL.out; omega) hr6
          rw [HJN.out] at CJ
          have CJ' := Lib.hid CJ
          clear hb6 hb6' hr6 CJ C7
          go_wp2_with fail
          refine CJ'.out.mono ?_
          rintro e w7 ⟨A7, c7, rfl, hc7, hby7, hb7⟩
          have HB7 := Lib.hid (HB6.out.trans (hb7.mono HB6.out.size))
          have CS2 := Lib.hid (sameBytes_eq c2 c7 (by have := HJL.out; omega) ((HBY6.out.mono (S' := (· < w6.heap.size)) fun k hk _ => hk).below hb7) hby7)
          rw [HJL.out] at CS2 ⊢
          clear hb7 hby7 CJ'
          go_wp2_with fail
          refine CS2.out.mono ?_
          rintro e w8 ⟨rfl, n8, rfl⟩
          go_wp2_with fail
          go_ret
          exact ⟨by first | rfl | simp, HBA.out.trans ((below_drewN HB7.out n8).mono HBA.out.size)⟩

end Go.Proofs.YtmhhblfolfojbaaDoor
