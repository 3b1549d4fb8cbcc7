/- FnExactReadAtLeast, walked: it returns true, and changes nothing that was there. -/
import Derived.Test.YteljcdlnfjeaaaaDoorRalW
set_option linter.unusedVariables false
set_option linter.unusedSimpArgs false
namespace Go.Proofs.YteljcdlnfjeaaaaDoor
open Go.RowKit

set_option maxHeartbeats 1000000 in
set_option maxRecDepth 100000 in
theorem exactReadAtLeast_walk {B : Nat} {S : Nat → Prop} {w : World} {E : Nat → Addr} (hE : Errs B w E) (hBw : B ≤ w.heap.size) {A : Option Addr} {st : List (List Int × Int)} (c0 : Nat) (h : RecsAt S w A st) (size least thn : Int)
    (hn : st.length * 32 ≤ 140737488355328) (hd : ∀ i, i < st.length → (dat st i).length ≤ 140737488355328) :
    Calls Tryd.prog 6 #[.agg #[.slice A st.length c0], .int .i64 size, .int .i64 least, .int .i64 thn] w (LawPost w) := by
  obtain ⟨w0, hw0⟩ : ∃ w0, w0 = w := ⟨_, rfl⟩
  obtain ⟨A0, hA0⟩ : ∃ A0, A0 = A := ⟨_, rfl⟩
  have hsz0 : w.heap.size ≤ w0.heap.size := by rw [hw0]; exact Nat.le_refl _
  have HE := Lib.hid hE
  have hba : Below w.heap.size w (w.alloc (.cells #[.slice A st.length c0] 25)) := (Below.refl _ _).alloc (Nat.le_refl _) _
  have hS : RecsAt (· < (w.alloc (.cells #[.slice A st.length c0] 25)).heap.size) (w.alloc (.cells #[.slice A st.length c0] 25)) A st := (h.alloc _).mono fun k hk _ => hk
  have y0 : (w.alloc (.cells #[.slice A st.length c0] 25)).cell? ⟨w.heap.size, 0, none⟩ = some (.slice A st.length c0) := by simp
  subst hw0
  subst hA0
  generalize hw1 : w0.alloc (.cells #[.slice A0 st.length c0] 25) = wa at *
  have hya : w0.heap.size < wa.heap.size := by rw [← hw1]; simp
  have hEa := HE.out.below (hba.mono hBw)
  have hBa := Nat.le_trans hBw hba.size
  have C1 := fun (w' : World) (hb : Below wa.heap.size wa w') => Lib.hid (validSource_any c0 (by omega) (hS.below hb))
  have HC3 := Lib.hid fun (w' : World) (hb : Below wa.heap.size wa w') (hv : Valid (lastErr st) st) (a b d : Nat) (ha : a ≤ 1048576) (hd' : d ≤ 1048576) => implReadAtLeast_any (L := lastErr st) (hEa.below (hb.mono hBa)) (Nat.le_trans hBa hb.size) c0 (hS.below hb) (by omega) (fun i hi => by have := hd i hi; omega) hv (fun e => by subst e; rfl) a b d ha hd'
  have HC4 := Lib.hid fun (w' : World) (hb : Below wa.heap.size wa w') (hv : Valid (lastErr st) st) (a b d : Nat) (ha : a ≤ 1048576) (hd' : d ≤ 1048576) => specReadAtLeast_any c0 (hS.below hb) (by omega) (fun i hi => by have := hd i hi; omega) hv a b d ha hd'
  have HBA := Lib.hid hba
  have HB0 : Hid (Below wa.heap.size wa wa) := Lib.hid (Below.refl _ _)
  clear HE hEa hBa hS hba h hd hE
  go_enter Tryd.func6, Tryd.ntmps6
  go_wp2_with fail
  clear hw1
  go_wp2_with fail
  refine ((C1 _ HB0.out).out).mono ?_
  rintro e w1 ⟨v, rfl, hv, hb1⟩
  have HB1 := Lib.hid (HB0.out.trans (hb1.mono HB0.out.size))
  have hsz1 := hb1.size
  replace y0 := cells_keep0 hb1 (by omega) y0
  have HV := Lib.hid hv
  clear hb1 hv C1
  cases v with
  | false =>
    go_wp2_with fail
    go_ret
    exact ⟨by first | rfl | simp, HBA.out.trans (HB1.out.mono HBA.out.size)⟩
  | true =>
    have HVV := Lib.hid (HV.out rfl)
    clear HV
    go_wp2_with fail
    refine ((validSizes_two _ _ _)).mono ?_
    rintro e w2 ⟨v2, rfl, hv2, hb2⟩
    have HB2 := Lib.hid (HB1.out.trans (hb2.mono HB1.out.size))
    have hsz2 := hb2.size
    replace y0 := cells_keep0 hb2 (by omega) y0
    have HV2 := Lib.hid hv2
    clear hb2 hv2
    cases v2 with
    | false =>
      go_wp2_with fail
      go_ret
      exact ⟨by first | rfl | simp, HBA.out.trans (HB2.out.mono HBA.out.size)⟩
    | true =>
      have hso := HV2.out rfl
      have hso1 := hso.1 0 (by simp)
      have hso2 := hso.1 1 (by simp)
      simp at hso1 hso2
      clear hso HV2
      by_cases hneg : least < 0
      · go_wp2_with fail
        go_ret
        exact ⟨by first | rfl | simp, HBA.out.trans (HB2.out.mono HBA.out.size)⟩
      · obtain ⟨zn, rfl⟩ : ∃ n : Nat, size = (n : Int) := ⟨size.toNat, by omega⟩
        obtain ⟨ln, rfl⟩ : ∃ n : Nat, least = (n : Int) := ⟨least.toNat, by omega⟩
        obtain ⟨tn, rfl⟩ : ∃ n : Nat, thn = (n : Int) := ⟨thn.toNat, by omega⟩
        have hz1 : zn ≤ 1048576 := by omega
        have hz2 : tn ≤ 1048576 := by omega
        clear hso1 hso2
        have hal1 := atLeast_len (lastErr st) zn ln st
        have hal2 := atLeast_len (lastErr st) tn tn (atLeast (lastErr st) zn ln st).2
        have HC4' := Lib.hid fun (w' : World) (hb : Below wa.heap.size wa w') => HC4.out w' hb HVV.out zn ln tn hz1 hz2
        clear HC4
        have C3' := Lib.hid (HC3.out w2 HB2.out HVV.out zn ln tn hz1 hz2)

        generalize (atLeast (lastErr st) tn tn (atLeast (lastErr st) zn ln st).2).1 = R2 at *
        generalize (atLeast (lastErr st) zn ln st).1 = R1 at *
        obtain ⟨r1, e1⟩ := R1
        obtain ⟨r2, e2⟩ := R2
        simp only at *
        clear HC3
        go_wp2_with fail
        refine (C3'.out).mono ?_
        rintro e w3 ⟨A1, c1, A2, c2, rfl, hc1, hc2, hby1, hby2, hb3⟩
        have HB3 := Lib.hid (HB2.out.trans (hb3.mono HB2.out.size))
        have hsz3 := hb3.size
        replace y0 := cells_keep0 hb3 (by omega) y0
        have HBY1 := Lib.hid (((hby1.mono (S' := (· < w3.heap.size)) fun k hk _ => hk).alloc (.cells #[.slice A1 r1.length c1, .int .i64 e1] 39)).alloc (.cells #[.slice A2 r2.length c2, .int .i64 e2] 39))
        have HBY2 := Lib.hid (((hby2.mono (S' := (· < w3.heap.size)) fun k hk _ => hk).alloc (.cells #[.slice A1 r1.length c1, .int .i64 e1] 39)).alloc (.cells #[.slice A2 r2.length c2, .int .i64 e2] 39))
        clear hb3 hby1 hby2 C3'
        generalize hwb : (w3.alloc (.cells #[.slice A1 r1.length c1, .int .i64 e1] 39)).alloc (.cells #[.slice A2 r2.length c2, .int .i64 e2] 39) = wb at *
        have hzb : wb.heap.size = w3.heap.size + 2 := by rw [← hwb]; simp
        have HBb : Hid (Below wa.heap.size wa wb) := Lib.hid (by rw [← hwb]; exact (HB3.out.alloc HB3.out.size _).alloc (by simp; omega) _)
        have p1 : Blk wb w3.heap.size 39 #[.slice A1 r1.length c1, .int .i64 e1] := by rw [← hwb]; exact (Blk.new w3 _ _).alloc _
        have p2 : Blk wb (w3.heap.size + 1) 39 #[.slice A2 r2.length c2, .int .i64 e2] := by rw [← hwb]; exact blk_new2 w3 _ _ _ rfl
        replace y0 : wb.cell? ⟨w0.heap.size, 0, none⟩ = some (.slice A0 st.length c0) := by rw [← hwb, World.cell?_alloc_lt _ _ _ (by simp; omega), World.cell?_alloc_lt _ _ _ (by simp; omega)]; exact y0
        have q10 := p1.cell 0
        have q11 := p1.cell 1
        have q20 := p2.cell 0
        have q21 := p2.cell 1
        simp at q10 q11 q20 q21
        go_wp2_with fail
        clear hwb
        refine (HC4'.out wb HBb.out).mono ?_
        rintro e w4 ⟨A3, c3, A4, c4, rfl, hc3, hc4, hby3, hby4, hb4⟩
        have HB4 := Lib.hid (HBb.out.trans (hb4.mono HBb.out.size))
        have hsz4 := hb4.size
        replace q10 := cells_keepR hb4 (by omega) q10
        replace q11 := cells_keepR hb4 (by omega) q11
        replace q20 := cells_keepR hb4 (by omega) q20
        replace q21 := cells_keepR hb4 (by omega) q21
        have HB1Y := Lib.hid ((HBY1.out.mono (S' := (· < wb.heap.size)) fun k hk _ => hk).below hb4)
        have HB2Y := Lib.hid ((HBY2.out.mono (S' := (· < wb.heap.size)) fun k hk _ => hk).below hb4)
        have CS1 := fun (w5 : World) (hb5 : Below w4.heap.size w4 w5) => Lib.hid (sameGot_eq e1 c1 c3 (by omega) ((HB1Y.out.mono (S' := (· < w4.heap.size)) fun k hk _ => hk).below hb5) ((hby3.mono (S' := (· < w4.heap.size)) fun k hk _ => hk).below hb5))
        have CS2 := fun (w5 : World) (hb5 : Below w4.heap.size w4 w5) => Lib.hid (sameGot_eq e2 c2 c4 (by omega) ((HB2Y.out.mono (S' := (· < w4.heap.size)) fun k hk _ => hk).below hb5) ((hby4.mono (S' := (· < w4.heap.size)) fun k hk _ => hk).below hb5))
        have HCS1 := Lib.hid CS1
        have HCS2 := Lib.hid CS2
        clear hb4 hby3 hby4 CS1 CS2 p1 p2 HC4'
        generalize hwd : (w4.alloc (.cells #[.slice A3 r1.length c3, .int .i64 e1] 39)).alloc (.cells #[.slice A4 r2.length c4, .int .i64 e2] 39) = wd at *
        have hBd : Below w4.heap.size w4 wd := by rw [← hwd]; exact ((Below.refl _ _).alloc (Nat.le_refl _) _).alloc (by simp) _
        have hzd : wd.heap.size = w4.heap.size + 2 := by rw [← hwd]; simp
        have p3 : Blk wd w4.heap.size 39 #[.slice A3 r1.length c3, .int .i64 e1] := by rw [← hwd]; exact (Blk.new w4 _ _).alloc _
        have p4 : Blk wd (w4.heap.size + 1) 39 #[.slice A4 r2.length c4, .int .i64 e2] := by rw [← hwd]; exact blk_new2 w4 _ _ _ rfl
        have q30 := p3.cell 0
        have q31 := p3.cell 1
        have q40 := p4.cell 0
        have q41 := p4.cell 1
        simp at q30 q31 q40 q41
        replace q10 := cells_keepR hBd (by omega) q10
        replace q11 := cells_keepR hBd (by omega) q11
        replace q20 := cells_keepR hBd (by omega) q20
        replace q21 := cells_keepR hBd (by omega) q21
        have HBD := Lib.hid hBd
        have C5 := Lib.hid (HCS1.out wd hBd)
        clear hBd p3 p4
        go_wp2_with fail
        clear hwd
        refine C5.out.out.mono ?_
        rintro e w5 ⟨rfl, hb5⟩
        have hsz5 := hb5.size
        replace q20 := cells_keepR hb5 (by omega) q20
        replace q21 := cells_keepR hb5 (by omega) q21
        replace q40 := cells_keepR hb5 (by omega) q40
        replace q41 := cells_keepR hb5 (by omega) q41
        have HBE := Lib.hid (HBD.out.trans (hb5.mono HBD.out.size))
        have C6 := Lib.hid (HCS2.out w5 HBE.out)
        clear hb5 C5
        go_wp2_with fail
        refine C6.out.out.mono ?_
        rintro e w6 ⟨rfl, hb6⟩
        have HB6 := Lib.hid (HB4.out.trans ((HBE.out.trans (hb6.mono HBE.out.size)).mono HB4.out.size))
        clear hb6 C6
        go_wp2_with fail
        go_ret
        exact ⟨by first | rfl | simp, HBA.out.trans (HB6.out.mono HBA.out.size)⟩

end Go.Proofs.YteljcdlnfjeaaaaDoor
