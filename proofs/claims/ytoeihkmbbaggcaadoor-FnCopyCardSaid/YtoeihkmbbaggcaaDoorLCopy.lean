/- FnCopy, walked: it returns true, and changes nothing that was there. -/
import Derived.Test.YtoeihkmbbaggcaaDoorLExactCopy
import Derived.Test.YtoeihkmbbaggcaaDoorDrawCopy
set_option linter.unusedVariables false
set_option linter.unusedSimpArgs false
namespace Go.Proofs.YtoeihkmbbaggcaaDoor
open Go.RowKit

set_option maxHeartbeats 1000000 in
set_option maxRecDepth 100000 in
theorem copy_walk {B : Nat} {S : Nat → Prop} {w : World} {E : Nat → Addr} (hE : Errs B w E) (hBw : B ≤ w.heap.size) {A : Option Addr} {l : List Int} (c : Nat) (h : BytesAt S w A l) (hb : ∀ j, 0 ≤ nth l j ∧ nth l j ≤ 255) :
    Calls Tryd.prog 3 #[.slice A l.length c] w (LawPost w) := by
  by_cases hl : 1048576 < l.length
  · have hl' : (1048576 : Int) < (l.length : Int) := by omega
    clear hE h hb
    go_enter Tryd.func3, Tryd.ntmps3
    go_wp2_with fail
    go_ret
    exact ⟨rfl, Below.refl _ _⟩
  · have hl' : ¬ (1048576 : Int) < (l.length : Int) := by omega
    have C0 := Lib.hid (drawCopy_any c h (by omega) (fun j _ => hb j))
    have HE := Lib.hid hE
    clear h hb hE hl
    generalize l.length = len at *
    go_enter Tryd.func3, Tryd.ntmps3
    go_wp2_with fail
    refine C0.out.mono ?_
    rintro e w0 ⟨st, A0, c0, lim, nn, rfl, hn, hd, hlim, _, h, hb0⟩
    have hsz0 := hb0.size
    have hj := joinD_bound hd
    generalize hw1 : (w0.alloc (.cells #[.slice A0 st.length c0] 25)).alloc (.cells #[.int .i64 lim] 27) = wa
    have hba : Below w.heap.size w wa := by rw [← hw1]; exact (hb0.alloc hsz0 _).alloc (by simp; omega) _
    have hS : RecsAt (· < wa.heap.size) wa A0 st := by rw [← hw1]; exact ((h.alloc _).alloc _).mono fun k hk _ => hk
    have ya : wa.cell? ⟨w0.heap.size, 0, none⟩ = some (.slice A0 st.length c0) := by rw [← hw1, World.cell?_alloc_lt _ _ _ (by simp)]; simp
    have za : wa.cell? ⟨w0.heap.size + 1, 0, none⟩ = some (.int .i64 lim) := by rw [← hw1]; simp
    have hya : w0.heap.size + 1 < wa.heap.size := by rw [← hw1]; simp
    have hEa := HE.out.below (hba.mono hBw)
    have hBa := Nat.le_trans hBw hba.size
    have C1 := fun (w' : World) (hb : Below wa.heap.size wa w') => Lib.hid (validSource_any c0 (by omega) (hS.below hb))
    have C3 := fun (w' : World) (hb : Below wa.heap.size wa w') (hv : Valid (lastErr st) st) (n : Nat) (hn2 : (n : Int) ≤ 9223372036854775807) => Lib.hid (implCopy_any (L := lastErr st) (hEa.below (hb.mono hBa)) (Nat.le_trans hBa hb.size) c0 (hS.below hb) (by omega) (fun i hi => by have := hd i hi; omega) hv (fun e => by subst e; rfl) n hn2 (by omega))
    have C4 := fun (w' : World) (hb : Below wa.heap.size wa w') (n : Nat) => Lib.hid (specCopy_any c0 (hS.below hb) (by omega) (by omega) n)
    have HLE := Lib.hid fun n => copyR_len (lastErr st) st n
    have HBA := Lib.hid hba
    clear C0 HE hEa hBa hS hba h hb0 hd
    go_wp2_with fail
    clear hw1
    refine (C1 _ (Below.refl _ _)).out.mono ?_
    rintro e w1 ⟨v, rfl, hv, hb1⟩
    have y0 := cells_keep0 hb1 (by omega) ya
    have z0 := cells_keep0 hb1 (by omega) za
    have HB1 := Lib.hid hb1
    have HV := Lib.hid hv
    have hsz1 := hb1.size
    clear hb1 hv ya za
    cases v with
    | false =>
      go_wp2_with fail
      go_ret
      exact ⟨rfl, HBA.out.trans (HB1.out.mono HBA.out.size)⟩
    | true =>
      by_cases hneg : lim < 0
      · go_wp2_with fail
        go_ret
        exact ⟨rfl, HBA.out.trans (HB1.out.mono HBA.out.size)⟩
      · obtain ⟨n, rfl⟩ : ∃ n : Nat, lim = (n : Int) := ⟨lim.toNat, by omega⟩
        have C3' := Lib.hid (C3 w1 HB1.out (HV.out rfl) n (by omega))
        have HC4 := Lib.hid fun (w' : World) (hb : Below wa.heap.size wa w') => C4 w' hb n
        have hle := HLE.out n
        generalize copyR (lastErr st) st n = R at *
        clear C1 C3 C4 HV HLE
        go_wp2_with fail
        refine C3'.out.out.mono ?_
        rintro e w2 ⟨A2, c2, rfl, hc2, hby2, hb2⟩
        have hB2 := HB1.out.trans (hb2.mono HB1.out.size)
        have y1 := cells_keep0 hb2 (by omega) y0
        have z1 := cells_keep0 hb2 (by omega) z0
        have HB2 := Lib.hid hB2
        have C4' := Lib.hid (HC4.out w2 hB2)
        have HBY2 := Lib.hid (hby2.mono (S' := (· < w2.heap.size)) fun k hk _ => hk)
        have hsz2 := hb2.size
        clear hb2 hB2 hby2 y0 z0 C3'
        go_wp2_with fail
        refine C4'.out.out.mono ?_
        rintro e w3 ⟨A3, c3, rfl, hc3, hby3, hb3⟩
        have HB3 := Lib.hid (HB2.out.trans (hb3.mono HB2.out.size))
        have CS := Lib.hid (sameBytes_eq c2 c3 (by omega) (HBY2.out.below hb3) hby3)
        clear hb3 hby3 C4'
        generalize R.2 = rc at *
        generalize R.1 = rl at *
        generalize rl.length = rn at *
        go_wp2_with fail
        refine CS.out.mono ?_
        rintro e w4 ⟨rfl, n4, rfl⟩
        go_wp2_with fail
        go_ret
        exact ⟨rfl, HBA.out.trans ((below_drewN HB3.out n4).mono HBA.out.size)⟩

end Go.Proofs.YtoeihkmbbaggcaaDoor
