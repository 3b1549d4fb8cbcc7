/- FnCopyNFull, walked: it returns true, and changes nothing that was there. -/
import Derived.Test.YtmhhblfolfojbaaDoorCopyN
import Derived.Test.YtmhhblfolfojbaaDoorDrawCopy
import Derived.Test.YtmhhblfolfojbaaDoorLit
import Derived.Test.YtmhhblfolfojbaaDoorLaw
set_option linter.unusedVariables false
set_option linter.unusedSimpArgs false
namespace Go.Proofs.YtmhhblfolfojbaaDoor
open Go.RowKit

set_option maxHeartbeats 1000000 in
set_option maxRecDepth 100000 in
theorem copyNFull_walk {B : Nat} {S : Nat → Prop} {w : World} {E : Nat → Addr} (hE : Errs B w E) (hBw : B ≤ w.heap.size) {A : Option Addr} {l : List Int} (c : Nat) (h : BytesAt S w A l) (hb : ∀ j, 0 ≤ nth l j ∧ nth l j ≤ 255) :
    Calls Tryd.prog 6 #[.slice A l.length c] w (LawPost w) := by
  by_cases hl : 1048576 < l.length
  · have hl' : (1048576 : Int) < (l.length : Int) := by omega
    clear hE h hb
    go_enter Tryd.func6, Tryd.ntmps6
    go_wp2_with fail
    go_ret
    exact ⟨rfl, Below.refl _ _⟩
  · have hl' : ¬ (1048576 : Int) < (l.length : Int) := by omega
    have HE := Lib.hid hE
    have hBy := h.mono (S' := (· < w.heap.size)) fun k hk _ => hk
    have C0 := Lib.hid fun (w' : World) (hb' : Below w.heap.size w w') => drawCopy_any c (hBy.below hb') (by omega) (fun j _ => hb j)
    have CL := Lib.hid (lit_full hE hBw)
    clear h hb hE hl hBy
    generalize l.length = len at *
    go_enter Tryd.func6, Tryd.ntmps6
    go_wp2_with fail
    refine CL.out.mono ?_
    rintro e wl ⟨AL, cL, rfl, hrL, hbL⟩
    have CJ := join_any (st := [([7], 0)]) cL (by simp) (by simp [joinD]) hrL
    have HBL := Lib.hid hbL
    have CJ' : Hid (Calls Tryd.prog 18 #[.slice AL 1 cL] wl (BytesPost [7] wl)) := Lib.hid (by simpa [joinD] using CJ)
    clear CL CJ hrL hbL
    go_wp2_with fail
    refine CJ'.out.mono ?_
    rintro e wj ⟨AJ, cJ, rfl, _, _, hbJ⟩
    have HBJ := Lib.hid (HBL.out.trans (hbJ.mono HBL.out.size))
    clear CJ' hbJ HBL
    simp only [List.length_cons, List.length_nil, Nat.zero_add]
    go_wp2_with fail
    refine (C0.out wj HBJ.out).mono ?_
    rintro e w0 ⟨st, A0, c0, lim, nn, rfl, hn, hd, hlim, hnn, h, hbj0⟩
    have hb0 := HBJ.out.trans (hbj0.mono HBJ.out.size)
    clear hbj0 C0
    have hsz0 := hb0.size
    have hj := joinD_bound hd
    generalize hw1 : (w0.alloc (.cells #[.slice A0 st.length c0] 25)).alloc (.cells #[.int .i64 lim] 27) = wa
    have hba : Below w.heap.size w wa := by rw [← hw1]; exact (hb0.alloc hsz0 _).alloc (by simp; omega) _
    have hS : RecsAt (· < wa.heap.size) wa A0 st := by rw [← hw1]; exact ((h.alloc _).alloc _).mono fun k hk _ => hk
    have y0 : wa.cell? ⟨w0.heap.size, 0, none⟩ = some (.slice A0 st.length c0) := by rw [← hw1, World.cell?_alloc_lt _ _ _ (by simp)]; simp
    have z0 : wa.cell? ⟨w0.heap.size + 1, 0, none⟩ = some (.int .i64 lim) := by rw [← hw1]; simp
    have hya : w0.heap.size + 1 < wa.heap.size := by rw [← hw1]; simp
    have hEa := HE.out.below (hba.mono hBw)
    have hBa := Nat.le_trans hBw hba.size
    have C1 := fun (w' : World) (hb : Below wa.heap.size wa w') => Lib.hid (validSource_any c0 (by omega) (hS.below hb))
    have C3 := fun (w' : World) (hb : Below wa.heap.size wa w') (hv : Valid (lastErr st) st) (n m : Nat) (hn2 : (n : Int) ≤ 9223372036854775807) (hm2 : (m : Int) ≤ 9223372036854775807) => Lib.hid (implCopyN_any (L := lastErr st) (hEa.below (hb.mono hBa)) (Nat.le_trans hBa hb.size) c0 (hS.below hb) (by omega) (fun i hi => by have := hd i hi; omega) hv (fun e => by subst e; rfl) n m hn2 hm2 (by omega))
    have HC6 := Lib.hid fun (w' : World) (hb : Below wa.heap.size wa w') (hv : Valid (lastErr st) st) (A' : Option Addr) (t : Nat) (S' : Nat → Prop) (hi : IntsAt S' w' A' [(t : Int)]) (ht : t ≤ 1048576) => implReadFull_any (L := lastErr st) (hEa.below (hb.mono hBa)) (Nat.le_trans hBa hb.size) c0 1 (hS.below hb) (by omega) (fun i hi => by have := hd i hi; omega) hv (fun e => by subst e; rfl) hi (zs := [(t : Int)]) (sizes_one ht) (by simp)
    have HBA := Lib.hid hba
    have HB0 : Hid (Below wa.heap.size wa wa) := Lib.hid (Below.refl _ _)
    clear HE hEa hBa hS hba h hb0 hd
    go_wp2_with fail
    clear hw1

    go_wp2_with fail
    refine ((C1 _ HB0.out).out).mono ?_
    rintro e w1 ⟨v, rfl, hv, hb1⟩
    have HB1 := Lib.hid (HB0.out.trans (hb1.mono HB0.out.size))
    have hsz1 := hb1.size
    replace y0 := cells_keep0 hb1 (by omega) y0
    replace z0 := cells_keep0 hb1 (by omega) z0
    have HV := Lib.hid hv
    clear hb1 hv C1
    cases v with
    | false =>
      go_wp2_with fail
      go_ret
      exact ⟨by first | rfl | simp, HBA.out.trans (HB1.out.mono HBA.out.size)⟩
    | true =>
      have HVV := Lib.hid (HV.out rfl)
      clear HV
      by_cases hneg : lim < 0
      · go_wp2_with fail
        go_ret
        exact ⟨by first | rfl | simp, HBA.out.trans (HB1.out.mono HBA.out.size)⟩
      · by_cases hneg2 : nn < 0
        · go_wp2_with fail
          go_ret
          exact ⟨by first | rfl | simp, HBA.out.trans (HB1.out.mono HBA.out.size)⟩
        · obtain ⟨n, rfl⟩ : ∃ n : Nat, lim = (n : Int) := ⟨lim.toNat, by omega⟩
          obtain ⟨m, rfl⟩ : ∃ m : Nat, nn = (m : Int) := ⟨nn.toNat, by omega⟩
          by_cases hbig : (65536 : Int) < (m : Int)
          · go_wp2_with fail
            go_ret
            exact ⟨by first | rfl | simp, HBA.out.trans (HB1.out.mono HBA.out.size)⟩
          · by_cases hroom : (n : Int) < (m : Int)
            · go_wp2_with fail
              go_ret
              exact ⟨by first | rfl | simp, HBA.out.trans (HB1.out.mono HBA.out.size)⟩
            · have hR : (copyNR (lastErr st) st n m).1 = (joinD st).take m := by
                unfold copyNR
                split
                · rfl
                · next h1 =>
                  rw [if_neg (by omega)]
                  simp only
                  rw [List.take_of_length_le (by omega)]
              have C3' := Lib.hid (C3 w1 HB1.out HVV.out n m (by omega) (by omega))
              have HR := Lib.hid hR
              have C6' := Lib.hid fun (w' : World) (hb : Below wa.heap.size wa w') => HC6.out (w'.alloc (.cells #[.int .i64 (m : Int)] 3)) (hb.alloc hb.size _) HVV.out _ m _ (ints_one w' 3 (m : Int)) (by omega)
              have HJN := Lib.hid (readFulls_one (z := m) HVV.out)
              have HLN := Lib.hid (readFulls_length (lastErr st) [(m : Int)] st)
              generalize readFulls (lastErr st) [(m : Int)] st = RF at *
              generalize copyNR (lastErr st) st n m = R at *
              obtain ⟨rl, rc⟩ := R
              simp only at *
              have hrl : rl.length ≤ 4200 := by rw [hR, List.length_take]; omega
              clear C3 HC6 hR
              go_wp2_with fail
              refine (C3'.out.out).mono ?_
              rintro e w2 ⟨A2, c2, rfl, hc2, hby2, hb2⟩
              have HB2 := Lib.hid (HB1.out.trans (hb2.mono HB1.out.size))
              have hsz2 := hb2.size
              replace y0 := cells_keep0 hb2 (by omega) y0
              replace z0 := cells_keep0 hb2 (by omega) z0
              have HBY2 := Lib.hid (hby2.mono (S' := (· < w2.heap.size)) fun k hk _ => hk)
              clear hb2 hby2 C3'
              have C7 := Lib.hid (C6'.out w2 HB2.out)
              go_wp2_with fail
              refine C7.out.mono ?_
              rintro e w3 ⟨A3, c3, rfl, hc3, hr3, hb3'⟩
              have hb3 : Below w2.heap.size w2 w3 := ((Below.refl _ _).alloc (Nat.le_refl _) _).trans (hb3'.mono (by simp))
              have HB3 := Lib.hid (HB2.out.trans (hb3.mono HB2.out.size))
              have HBY3 := Lib.hid (HBY2.out.below hb3)
              have CJ := join_any (st := RF) c3 (by have := HLN.out; simp at this; omega) (by rw [HJN.out, List.length_take]; omega) hr3
              rw [HJN.out, ← HR.out] at CJ
              have CJ' := Lib.hid CJ
              clear hb3 hb3' hr3 CJ C7 C6' HBY2
              go_wp2_with fail
              refine CJ'.out.mono ?_
              rintro e w4 ⟨A4, c4, rfl, hc4, hby4, hb4⟩
              have HB4 := Lib.hid (HB3.out.trans (hb4.mono HB3.out.size))
              have CS := Lib.hid (sameBytes_eq c2 c4 (by omega) ((HBY3.out.mono (S' := (· < w3.heap.size)) fun k hk _ => hk).below hb4) hby4)
              clear hb4 hby4 CJ'
              generalize rl.length = rn at *
              go_wp2_with fail
              refine CS.out.mono ?_
              rintro e w5 ⟨rfl, n5, rfl⟩
              go_wp2_with fail
              go_ret
              exact ⟨by first | rfl | simp, HBA.out.trans ((below_drewN HB4.out n5).mono HBA.out.size)⟩

end Go.Proofs.YtmhhblfolfojbaaDoor
