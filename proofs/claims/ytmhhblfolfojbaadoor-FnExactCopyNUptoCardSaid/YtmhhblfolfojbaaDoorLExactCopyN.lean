/- FnExactCopyN, walked: it returns true, and changes nothing that was there. -/
import Derived.Test.YtmhhblfolfojbaaDoorLCopyN
set_option linter.unusedVariables false
set_option linter.unusedSimpArgs false
namespace Go.Proofs.YtmhhblfolfojbaaDoor
open Go.RowKit

set_option maxHeartbeats 1000000 in
set_option maxRecDepth 100000 in
theorem exactCopyN_walk {B : Nat} {S : Nat → Prop} {w : World} {E : Nat → Addr} (hE : Errs B w E) (hBw : B ≤ w.heap.size) {A : Option Addr} {st : List (List Int × Int)} (c : Nat) (h : RecsAt S w A st) (lim nn : Int)
    (hn : st.length ≤ 1048576) (hd : ∀ i, i < st.length → (dat st i).length ≤ 1048576) (hj : (joinD st).length ≤ 70368744177664) (hlim : lim ≤ 9223372036854775807) (hnn : nn ≤ 9223372036854775807) :
    Calls Tryd.prog 5 #[.agg #[.slice A st.length c], .agg #[.int .i64 lim], .int .i64 nn] w (LawPost w) := by
  have hS := h.mono (S' := (· < w.heap.size)) fun k hk _ => hk
  have C1 := fun (w' : World) (hb : Below w.heap.size w w') => Lib.hid (validSource_any c (by omega) (hS.below hb))
  have C3 := fun (w' : World) (hb : Below w.heap.size w w') (hv : Valid (lastErr st) st) (n m : Nat) (hn2 : (n : Int) ≤ 9223372036854775807) (hm2 : (m : Int) ≤ 9223372036854775807) => Lib.hid (implCopyN_any (L := lastErr st) (hE.below (hb.mono hBw)) (Nat.le_trans hBw hb.size) c (hS.below hb) (by omega) (fun i hi => by have := hd i hi; omega) hv (fun e => by subst e; rfl) n m hn2 hm2 hj)
  have C4 := fun (w' : World) (hb : Below w.heap.size w w') (n m : Nat) => Lib.hid (specCopyN_any c (hS.below hb) (by omega) hj n m)
  have HLE := Lib.hid fun n m => copyNR_len (lastErr st) st n m
  clear hE h hS hd
  go_enter Tryd.func5, Tryd.ntmps5
  go_wp2_with fail
  refine (C1 _ ?_).out.mono ?_
  · exact ((Below.refl _ _).alloc (Nat.le_refl _) _).alloc (by simp) _
  rintro e w1 ⟨v, rfl, hv, hb1⟩
  have hB1 : Below w.heap.size w w1 := (((Below.refl _ _).alloc (Nat.le_refl _) _).alloc (by simp) _).trans (hb1.mono (by simp; omega))
  have y0 : w1.cell? ⟨w.heap.size, 0, none⟩ = some (.slice A st.length c) := (hb1.cell (p := ⟨w.heap.size, 0, none⟩) (by simp; omega)).trans (by simp)
  have z0 : w1.cell? ⟨w.heap.size + 1, 0, none⟩ = some (.int .i64 lim) := (hb1.cell (p := ⟨w.heap.size + 1, 0, none⟩) (by simp)).trans (by simp)
  have HB1 := Lib.hid hB1
  have HV := Lib.hid hv
  have hsz1 := hb1.size
  simp at hsz1
  have HBA : Hid (Below w.heap.size w w) := Lib.hid (Below.refl _ _)
  clear hb1 hB1 hv
  cases v with
  | false =>
    go_wp2_with fail
    go_ret
    exact ⟨by first | rfl | simp, HBA.out.trans (HB1.out.mono HBA.out.size)⟩
  | true =>
    by_cases hneg : lim < 0
    · go_wp2_with fail
      go_ret
      exact ⟨by first | rfl | simp, HBA.out.trans (HB1.out.mono HBA.out.size)⟩
    · by_cases hneg2 : nn < 0
      · go_wp2_with fail
        go_ret
        exact ⟨by first | rfl | simp, HBA.out.trans (HB1.out.mono HBA.out.size)⟩
      · obtain ⟨n, rfl⟩ : ∃ n : Nat, lim = (n : Int) := ⟨lim.toNat, by omega⟩
        obtain ⟨m, rfl⟩ : ∃ m : Nat, nn = (m : Int) := ⟨nn.toNat, by omega⟩
        have C3' := Lib.hid (C3 w1 HB1.out (HV.out rfl) n m hlim hnn)
        have HC4 := Lib.hid fun (w' : World) (hb : Below w.heap.size w w') => C4 w' hb n m
        have hle := HLE.out n m
        generalize copyNR (lastErr st) st n m = R at *
        clear C1 C3 C4 HV HLE
        go_wp2_with fail
        refine (C3'.out.out).mono ?_
        rintro e w2 ⟨A2, c2, rfl, hc2, hby2, hb2⟩
        have HB2 := Lib.hid (HB1.out.trans (hb2.mono HB1.out.size))
        have hsz2 := hb2.size
        replace y0 := cells_keep0 hb2 (by omega) y0
        replace z0 := cells_keep0 hb2 (by omega) z0
        have HBY2 := Lib.hid (hby2.mono (S' := (· < w2.heap.size)) fun k hk _ => hk)
        clear hb2 hby2 C3'
        go_wp2_with fail
        refine ((HC4.out w2 HB2.out).out).mono ?_
        rintro e w3 ⟨A3, c3, rfl, hc3, hby3, hb3⟩
        have HB3 := Lib.hid (HB2.out.trans (hb3.mono HB2.out.size))
        have hsz3 := hb3.size
        replace y0 := cells_keep0 hb3 (by omega) y0
        replace z0 := cells_keep0 hb3 (by omega) z0
        have CS := Lib.hid (sameBytes_eq c2 c3 (by omega) (HBY2.out.below hb3) hby3)
        clear hb3 hby3 HC4
        generalize R.2 = rc at *
        generalize R.1 = rl at *
        generalize rl.length = rn at *
        go_wp2_with fail
        refine CS.out.mono ?_
        rintro e w4 ⟨rfl, n4, rfl⟩
        go_wp2_with fail
        go_ret
        exact ⟨by first | rfl | simp, HBA.out.trans ((below_drewN HB3.out n4).mono HBA.out.size)⟩

end Go.Proofs.YtmhhblfolfojbaaDoor
