/- FnCopyN and FnCopyNIff, walked: each returns true, and changes nothing that was there. -/
import Derived.Test.YtmhhblfolfojbaaDoorSCopyN
import Derived.Test.YtmhhblfolfojbaaDoorDrawCopy
import Derived.Test.YtmhhblfolfojbaaDoorLaw
set_option linter.unusedVariables false
set_option linter.unusedSimpArgs false
namespace Go.Proofs.YtmhhblfolfojbaaDoor
open Go.RowKit

theorem cells_keep0 {w w' : World} {b : Nat} {v : Value} (hb : Below w.heap.size w w') (hlt : b < w.heap.size) (h : w.cell? ⟨b, 0, none⟩ = some v) : w'.cell? ⟨b, 0, none⟩ = some v := (hb.cell (p := ⟨b, 0, none⟩) hlt).trans h

set_option maxHeartbeats 1000000 in
set_option maxRecDepth 100000 in
theorem copyN_walk {B : Nat} {S : Nat → Prop} {w : World} {E : Nat → Addr} (hE : Errs B w E) (hBw : B ≤ w.heap.size) {A : Option Addr} {l : List Int} (c : Nat) (h : BytesAt S w A l) (hb : ∀ j, 0 ≤ nth l j ∧ nth l j ≤ 255) :
    Calls Tryd.prog 3 #[.slice A l.length c] w (LawPost w) := by
  by_cases hl : 1048576 < l.length
  · have hl' : (1048576 : Int) < (l.length : Int) := by omega
    clear hE h hb
    go_enter Tryd.func3, Tryd.ntmps3
    go_wp2_with fail
    go_ret
    exact ⟨rfl, Below.refl _ _⟩
  · have hl' : ¬ (1048576 : Int) < (l.length : Int) := by omega
    have C0 := Lib.hid (drawCopy_any c h (by omega) (fun j _ => hb j))
    have HE := Lib.hid hE
    clear h hb hE hl
    generalize l.length = len at *
    go_enter Tryd.func3, Tryd.ntmps3
    go_wp2_with fail
    refine C0.out.mono ?_
    rintro e w0 ⟨st, A0, c0, lim, nn, rfl, hn, hd, hlim, hnn, h, hb0⟩
    clear C0
    have hsz0 := hb0.size
    have hj := joinD_bound hd
    generalize hw1 : (w0.alloc (.cells #[.slice A0 st.length c0] 25)).alloc (.cells #[.int .i64 lim] 27) = wa
    have hba : Below w.heap.size w wa := by rw [← hw1]; exact (hb0.alloc hsz0 _).alloc (by simp; omega) _
    have hS : RecsAt (· < wa.heap.size) wa A0 st := by rw [← hw1]; exact ((h.alloc _).alloc _).mono fun k hk _ => hk
    have y0 : wa.cell? ⟨w0.heap.size, 0, none⟩ = some (.slice A0 st.length c0) := by rw [← hw1, World.cell?_alloc_lt _ _ _ (by simp)]; simp
    have z0 : wa.cell? ⟨w0.heap.size + 1, 0, none⟩ = some (.int .i64 lim) := by rw [← hw1]; simp
    have hya : w0.heap.size + 1 < wa.heap.size := by rw [← hw1]; simp
    have hEa := HE.out.below (hba.mono hBw)
    have hBa := Nat.le_trans hBw hba.size
    have C1 := fun (w' : World) (hb : Below wa.heap.size wa w') => Lib.hid (validSource_any c0 (by omega) (hS.below hb))
    have C3 := fun (w' : World) (hb : Below wa.heap.size wa w') (hv : Valid (lastErr st) st) (n m : Nat) (hn2 : (n : Int) ≤ 9223372036854775807) (hm2 : (m : Int) ≤ 9223372036854775807) => Lib.hid (implCopyN_any (L := lastErr st) (hEa.below (hb.mono hBa)) (Nat.le_trans hBa hb.size) c0 (hS.below hb) (by omega) (fun i hi => by have := hd i hi; omega) hv (fun e => by subst e; rfl) n m hn2 hm2 (by omega))
    have C4 := fun (w' : World) (hb : Below wa.heap.size wa w') (n m : Nat) => Lib.hid (specCopyN_any c0 (hS.below hb) (by omega) (by omega) n m)
    have HLE := Lib.hid fun n m => copyNR_len (lastErr st) st n m
    have HBA := Lib.hid hba
    have HB0 : Hid (Below wa.heap.size wa wa) := Lib.hid (Below.refl _ _)
    clear HE hEa hBa hS hba h hb0 hd
    go_wp2_with fail
    clear hw1
    go_wp2_with fail
    refine ((C1 _ HB0.out).out).mono ?_
    rintro e w1 ⟨v, rfl, hv, hb1⟩
    have HB1 := Lib.hid (HB0.out.trans (hb1.mono HB0.out.size))
    have hsz1 := hb1.size
    replace y0 := cells_keep0 hb1 (by omega) y0
    replace z0 := cells_keep0 hb1 (by omega) z0
    have HV := Lib.hid hv
    clear hb1 hv
    cases v with
    | false =>
      go_wp2_with fail
      go_ret
      exact ⟨by first | rfl | simp, HBA.out.trans (HB1.out.mono HBA.out.size)⟩
    | true =>
      by_cases hneg : lim < 0
      · go_wp2_with fail
        go_ret
        exact ⟨by first | rfl | simp, HBA.out.trans (HB1.out.mono HBA.out.size)⟩
      · by_cases hneg2 : nn < 0
        · go_wp2_with fail
          go_ret
          exact ⟨by first | rfl | simp, HBA.out.trans (HB1.out.mono HBA.out.size)⟩
        · obtain ⟨n, rfl⟩ : ∃ n : Nat, lim = (n : Int) := ⟨lim.toNat, by omega⟩
          obtain ⟨m, rfl⟩ : ∃ m : Nat, nn = (m : Int) := ⟨nn.toNat, by omega⟩
          have C3' := Lib.hid (C3 w1 HB1.out (HV.out rfl) n m (by omega) (by omega))
          have HC4 := Lib.hid fun (w' : World) (hb : Below wa.heap.size wa w') => C4 w' hb n m
          have hle := HLE.out n m
          generalize copyNR (lastErr st) st n m = R at *
          clear C1 C3 C4 HV HLE
          go_wp2_with fail
          refine (C3'.out.out).mono ?_
          rintro e w2 ⟨A2, c2, rfl, hc2, hby2, hb2⟩
          have HB2 := Lib.hid (HB1.out.trans (hb2.mono HB1.out.size))
          have hsz2 := hb2.size
          replace y0 := cells_keep0 hb2 (by omega) y0
          replace z0 := cells_keep0 hb2 (by omega) z0
          have HBY2 := Lib.hid (hby2.mono (S' := (· < w2.heap.size)) fun k hk _ => hk)
          clear hb2 hby2 C3'
          go_wp2_with fail
          refine ((HC4.out w2 HB2.out).out).mono ?_
          rintro e w3 ⟨A3, c3, rfl, hc3, hby3, hb3⟩
          have HB3 := Lib.hid (HB2.out.trans (hb3.mono HB2.out.size))
          have hsz3 := hb3.size
          replace y0 := cells_keep0 hb3 (by omega) y0
          replace z0 := cells_keep0 hb3 (by omega) z0
          have CS := Lib.hid (sameBytes_eq c2 c3 (by omega) (HBY2.out.below hb3) hby3)
          clear hb3 hby3 HC4
          generalize R.2 = rc at *
          generalize R.1 = rl at *
          generalize rl.length = rn at *
          go_wp2_with fail
          refine CS.out.mono ?_
          rintro e w4 ⟨rfl, n4, rfl⟩
          go_wp2_with fail
          go_ret
          exact ⟨by first | rfl | simp, HBA.out.trans ((below_drewN HB3.out n4).mono HBA.out.size)⟩

theorem copyNR_iff {L : Int} {st : List (List Int × Int)} (hv : Valid L st) (lim n : Nat) : ((copyNR L st lim n).1.length = n ↔ (copyNR L st lim n).2 = 0) ∧ (copyNR L st lim n).1.length ≤ lim := by
  have := hv.ends
  unfold copyNR
  split
  · next h => simp; omega
  · split
    · next h1 h2 => simp; omega
    · next h1 h2 => simp only; omega

set_option maxHeartbeats 1000000 in
set_option maxRecDepth 100000 in
theorem copyNIff_walk {B : Nat} {S : Nat → Prop} {w : World} {E : Nat → Addr} (hE : Errs B w E) (hBw : B ≤ w.heap.size) {A : Option Addr} {l : List Int} (c : Nat) (h : BytesAt S w A l) (hb : ∀ j, 0 ≤ nth l j ∧ nth l j ≤ 255) :
    Calls Tryd.prog 4 #[.slice A l.length c] w (LawPost w) := by
  by_cases hl : 1048576 < l.length
  · have hl' : (1048576 : Int) < (l.length : Int) := by omega
    clear hE h hb
    go_enter Tryd.func4, Tryd.ntmps4
    go_wp2_with fail
    go_ret
    exact ⟨rfl, Below.refl _ _⟩
  · have hl' : ¬ (1048576 : Int) < (l.length : Int) := by omega
    have C0 := Lib.hid (drawCopy_any c h (by omega) (fun j _ => hb j))
    have HE := Lib.hid hE
    clear h hb hE hl
    generalize l.length = len at *
    go_enter Tryd.func4, Tryd.ntmps4
    go_wp2_with fail
    refine C0.out.mono ?_
    rintro e w0 ⟨st, A0, c0, lim, nn, rfl, hn, hd, hlim, hnn, h, hb0⟩
    clear C0
    have hsz0 := hb0.size
    have hj := joinD_bound hd
    generalize hw1 : (w0.alloc (.cells #[.slice A0 st.length c0] 25)).alloc (.cells #[.int .i64 lim] 27) = wa
    have hba : Below w.heap.size w wa := by rw [← hw1]; exact (hb0.alloc hsz0 _).alloc (by simp; omega) _
    have hS : RecsAt (· < wa.heap.size) wa A0 st := by rw [← hw1]; exact ((h.alloc _).alloc _).mono fun k hk _ => hk
    have y0 : wa.cell? ⟨w0.heap.size, 0, none⟩ = some (.slice A0 st.length c0) := by rw [← hw1, World.cell?_alloc_lt _ _ _ (by simp)]; simp
    have z0 : wa.cell? ⟨w0.heap.size + 1, 0, none⟩ = some (.int .i64 lim) := by rw [← hw1]; simp
    have hya : w0.heap.size + 1 < wa.heap.size := by rw [← hw1]; simp
    have hEa := HE.out.below (hba.mono hBw)
    have hBa := Nat.le_trans hBw hba.size
    have C1 := fun (w' : World) (hb : Below wa.heap.size wa w') => Lib.hid (validSource_any c0 (by omega) (hS.below hb))
    have C3 := fun (w' : World) (hb : Below wa.heap.size wa w') (hv : Valid (lastErr st) st) (n m : Nat) (hn2 : (n : Int) ≤ 9223372036854775807) (hm2 : (m : Int) ≤ 9223372036854775807) => Lib.hid (implCopyN_any (L := lastErr st) (hEa.below (hb.mono hBa)) (Nat.le_trans hBa hb.size) c0 (hS.below hb) (by omega) (fun i hi => by have := hd i hi; omega) hv (fun e => by subst e; rfl) n m hn2 hm2 (by omega))
    have HIFF := Lib.hid fun (hv : Valid (lastErr st) st) n m => copyNR_iff hv n m
    have HBA := Lib.hid hba
    have HB0 : Hid (Below wa.heap.size wa wa) := Lib.hid (Below.refl _ _)
    clear HE hEa hBa hS hba h hb0 hd
    go_wp2_with fail
    clear hw1
    go_wp2_with fail
    refine ((C1 _ HB0.out).out).mono ?_
    rintro e w1 ⟨v, rfl, hv, hb1⟩
    have HB1 := Lib.hid (HB0.out.trans (hb1.mono HB0.out.size))
    have hsz1 := hb1.size
    replace y0 := cells_keep0 hb1 (by omega) y0
    replace z0 := cells_keep0 hb1 (by omega) z0
    have HV := Lib.hid hv
    clear hb1 hv
    cases v with
    | false =>
      go_wp2_with fail
      go_ret
      exact ⟨by first | rfl | simp, HBA.out.trans (HB1.out.mono HBA.out.size)⟩
    | true =>
      by_cases hneg : lim < 0
      · go_wp2_with fail
        go_ret
        exact ⟨by first | rfl | simp, HBA.out.trans (HB1.out.mono HBA.out.size)⟩
      · by_cases hneg2 : nn < 0
        · go_wp2_with fail
          go_ret
          exact ⟨by first | rfl | simp, HBA.out.trans (HB1.out.mono HBA.out.size)⟩
        · obtain ⟨n, rfl⟩ : ∃ n : Nat, lim = (n : Int) := ⟨lim.toNat, by omega⟩
          obtain ⟨m, rfl⟩ : ∃ m : Nat, nn = (m : Int) := ⟨nn.toNat, by omega⟩
          have C3' := Lib.hid (C3 w1 HB1.out (HV.out rfl) n m (by omega) (by omega))
          obtain ⟨hi1, hi2⟩ := HIFF.out (HV.out rfl) n m
          generalize copyNR (lastErr st) st n m = R at *
          have HI1 := Lib.hid hi1
          clear C1 C3 HV HIFF hi1
          go_wp2_with fail
          refine (C3'.out.out).mono ?_
          rintro e w2 ⟨A2, c2, rfl, hc2, hby2, hb2⟩
          have HB2 := Lib.hid (HB1.out.trans (hb2.mono HB1.out.size))
          have hsz2 := hb2.size
          replace y0 := cells_keep0 hb2 (by omega) y0
          replace z0 := cells_keep0 hb2 (by omega) z0
          clear hb2 hby2 C3'
          generalize R.2 = rc at *
          generalize R.1 = rl at *
          generalize rl.length = rn at *
          have hi2' : (rn : Int) ≤ (n : Int) := by omega
          by_cases heq : rn = m
          · have h0 := HI1.out.1 heq
            subst h0
            subst heq
            go_wp2_with fail
            go_ret
            exact ⟨by first | rfl | simp, HBA.out.trans (HB2.out.mono HBA.out.size)⟩
          · have hb1 : ((rn : Int) == (m : Int)) = false := by simp; omega
            have h0 : ¬ rc = 0 := fun e => heq (HI1.out.2 e)
            have hb2 : (rc == 0) = false := by simp [h0]
            clear h0 heq HI1
            go_wp2_with fail
            go_ret
            exact ⟨by first | rfl | simp, HBA.out.trans (HB2.out.mono HBA.out.size)⟩

end Go.Proofs.YtmhhblfolfojbaaDoor
