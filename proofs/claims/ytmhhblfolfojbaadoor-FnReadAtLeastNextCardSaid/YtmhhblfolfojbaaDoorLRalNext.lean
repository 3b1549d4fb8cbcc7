/- FnReadAtLeastNext, walked: it returns true, and changes nothing that was there. -/
import Derived.Test.YtmhhblfolfojbaaDoorRalW
import Derived.Test.YtmhhblfolfojbaaDoorLit
import Derived.Test.YtmhhblfolfojbaaDoorIff
import Derived.Deep.QuietTactic
import Derived.BigQuiet
set_option linter.unusedVariables false
set_option linter.unusedSimpArgs false
namespace Go.Proofs.YtmhhblfolfojbaaDoor
open Go.RowKit

theorem atLeast_two {L : Int} {size least thn : Nat} (st : List (List Int × Int)) : (atLeast L size least st).1.1.length + (atLeast L thn thn (atLeast L size least st).2).1.1.length ≤ (joinD st).length ∧
    ((joinD st).drop (atLeast L size least st).1.1.length).take (atLeast L thn thn (atLeast L size least st).2).1.1.length = (atLeast L thn thn (atLeast L size least st).2).1.1 := by
  have h := atLeast_join (L := L) (size := size) (least := least) st
  have h2 := atLeast_join (L := L) (size := thn) (least := thn) (atLeast L size least st).2
  rw [← h, List.length_append, List.drop_left' rfl, ← h2, List.length_append]
  exact ⟨by omega, List.take_left' rfl⟩

set_option maxHeartbeats 1000000 in
set_option maxRecDepth 100000 in
theorem readAtLeastNext_walk {B : Nat} {S : Nat → Prop} {w : World} {E : Nat → Addr} (hE : Errs B w E) (hBw : B ≤ w.heap.size) {A : Option Addr} {l : List Int} (c : Nat) (h : BytesAt S w A l) (hb : ∀ j, 0 ≤ nth l j ∧ nth l j ≤ 255) :
    Calls Tryd.prog 12 #[.slice A l.length c] w (LawPost w) := by
  by_cases hl : 1048576 < l.length
  · have hl' : (1048576 : Int) < (l.length : Int) := by omega
    clear hE h hb
    go_enter Tryd.func12, Tryd.ntmps12
    go_wp2_with fail
    go_ret
    exact ⟨rfl, Below.refl _ _⟩
  · have hl' : ¬ (1048576 : Int) < (l.length : Int) := by omega
    have HE := Lib.hid hE
    have hBy := h.mono (S' := (· < w.heap.size)) fun k hk _ => hk
    have C0 := Lib.hid fun (w' : World) (hb' : Below w.heap.size w w') => drawAL_any c (hBy.below hb') (by omega) (fun j _ => hb j)
    have CL := Lib.hid (lit_full hE hBw)
    clear h hb hE hl hBy
    generalize l.length = len at *
    go_enter Tryd.func12, Tryd.ntmps12
    go_wp2_with fail
    refine CL.out.mono ?_
    rintro e wl ⟨AL, cL, rfl, hrL, hbL⟩
    have CJ := join_any (st := [([7], 0)]) cL (by simp) (by simp [joinD]) hrL
    have HBL := Lib.hid hbL
    have CJ' : Hid (Calls Tryd.prog 18 #[.slice AL 1 cL] wl (BytesPost [7] wl)) := Lib.hid (by simpa [joinD] using CJ)
    clear CL CJ hrL hbL
    go_wp2_with fail
    refine CJ'.out.mono ?_
    rintro e wj ⟨AJ, cJ, rfl, _, _, hbJ⟩
    have HBJ := Lib.hid (HBL.out.trans (hbJ.mono HBL.out.size))
    clear CJ' hbJ HBL
    simp only [List.length_cons, List.length_nil, Nat.zero_add]
    go_wp2_with fail
    refine (C0.out wj HBJ.out).mono ?_
    rintro e w0 ⟨st, A0, c0, size, least, thn, rfl, hn, hd, hsz, hlst, hthn, h, hbj0⟩
    have hb0 := HBJ.out.trans (hbj0.mono HBJ.out.size)
    clear hbj0 C0
    have hsz0 := hb0.size
    have hj := joinD_bound hd
    generalize hw1 : w0.alloc (.cells #[.slice A0 st.length c0] 25) = wa
    have hba : Below w.heap.size w wa := by rw [← hw1]; exact hb0.alloc hsz0 _
    have hS : RecsAt (· < wa.heap.size) wa A0 st := by rw [← hw1]; exact (h.alloc _).mono fun k hk _ => hk
    have y0 : wa.cell? ⟨w0.heap.size, 0, none⟩ = some (.slice A0 st.length c0) := by rw [← hw1]; simp
    have hya : w0.heap.size < wa.heap.size := by rw [← hw1]; simp
    have hEa := HE.out.below (hba.mono hBw)
    have hBa := Nat.le_trans hBw hba.size
    have C1 := fun (w' : World) (hb : Below wa.heap.size wa w') => Lib.hid (validSource_any c0 (by omega) (hS.below hb))
    have HC3 := Lib.hid fun (w' : World) (hb : Below wa.heap.size wa w') (hv : Valid (lastErr st) st) (a b d : Nat) (ha : a ≤ 1048576) (hd' : d ≤ 1048576) => implReadAtLeast_any (L := lastErr st) (hEa.below (hb.mono hBa)) (Nat.le_trans hBa hb.size) c0 (hS.below hb) (by omega) (fun i hi => by have := hd i hi; omega) hv (fun e => by subst e; rfl) a b d ha hd'
    have HC5 := Lib.hid fun (w' : World) (hb : Below wa.heap.size wa w') => bytes_any c0 (by omega) (by omega) (hS.below hb)
    have HBA := Lib.hid hba
    have HB0 : Hid (Below wa.heap.size wa wa) := Lib.hid (Below.refl _ _)
    clear HE hEa hBa hS hba h hb0 hd
    go_wp2_with fail
    clear hw1
    go_wp2_with fail
    refine ((C1 _ HB0.out).out).mono ?_
    rintro e w1 ⟨v, rfl, hv, hb1⟩
    have HB1 := Lib.hid (HB0.out.trans (hb1.mono HB0.out.size))
    have hsz1 := hb1.size
    replace y0 := cells_keep0 hb1 (by omega) y0
    have HV := Lib.hid hv
    clear hb1 hv C1
    cases v with
    | false =>
      go_wp2_with fail
      go_ret
      exact ⟨by first | rfl | simp, HBA.out.trans (HB1.out.mono HBA.out.size)⟩
    | true =>
      have HVV := Lib.hid (HV.out rfl)
      clear HV
      go_wp2_with fail
      refine ((validSizes_two _ _ _)).mono ?_
      rintro e w2 ⟨v2, rfl, hv2, hb2⟩
      have HB2 := Lib.hid (HB1.out.trans (hb2.mono HB1.out.size))
      have hsz2 := hb2.size
      replace y0 := cells_keep0 hb2 (by omega) y0
      have HV2 := Lib.hid hv2
      clear hb2 hv2
      cases v2 with
      | false =>
        go_wp2_with fail
        go_ret
        exact ⟨by first | rfl | simp, HBA.out.trans (HB2.out.mono HBA.out.size)⟩
      | true =>
        have hso := HV2.out rfl
        have hso1 := hso.1 0 (by simp)
        have hso2 := hso.1 1 (by simp)
        simp at hso1 hso2
        clear hso HV2
        by_cases hneg : least < 0
        · go_wp2_with fail
          go_ret
          exact ⟨by first | rfl | simp, HBA.out.trans (HB2.out.mono HBA.out.size)⟩
        · obtain ⟨zn, rfl⟩ : ∃ n : Nat, size = (n : Int) := ⟨size.toNat, by omega⟩
          obtain ⟨ln, rfl⟩ : ∃ n : Nat, least = (n : Int) := ⟨least.toNat, by omega⟩
          obtain ⟨tn, rfl⟩ : ∃ n : Nat, thn = (n : Int) := ⟨thn.toNat, by omega⟩
          have hz1 : zn ≤ 1048576 := by omega
          have hz2 : tn ≤ 1048576 := by omega
          clear hso1 hso2
          have hal1 := atLeast_len (lastErr st) zn ln st
          have hal2 := atLeast_len (lastErr st) tn tn (atLeast (lastErr st) zn ln st).2
          obtain ⟨hpl, hpt⟩ := atLeast_two (L := lastErr st) (size := zn) (least := ln) (thn := tn) st
          have HPT := Lib.hid hpt
          clear hpt
          have C3' := Lib.hid (HC3.out w2 HB2.out HVV.out zn ln tn hz1 hz2)

          generalize (atLeast (lastErr st) tn tn (atLeast (lastErr st) zn ln st).2).1 = R2 at *
          generalize (atLeast (lastErr st) zn ln st).1 = R1 at *
          obtain ⟨r1, e1⟩ := R1
          obtain ⟨r2, e2⟩ := R2
          simp only at *
          clear HC3
          go_wp2_with fail
          refine (C3'.out).mono ?_
          rintro e w3 ⟨A1, c1, A2, c2, rfl, hc1, hc2, hby1, hby2, hb3⟩
          have HB3 := Lib.hid (HB2.out.trans (hb3.mono HB2.out.size))
          have hsz3 := hb3.size
          replace y0 := cells_keep0 hb3 (by omega) y0
          have HBY1 := Lib.hid (((hby1.mono (S' := (· < w3.heap.size)) fun k hk _ => hk).alloc (.cells #[.slice A1 r1.length c1, .int .i64 e1] 45)).alloc (.cells #[.slice A2 r2.length c2, .int .i64 e2] 45))
          have HBY2 := Lib.hid (((hby2.mono (S' := (· < w3.heap.size)) fun k hk _ => hk).alloc (.cells #[.slice A1 r1.length c1, .int .i64 e1] 45)).alloc (.cells #[.slice A2 r2.length c2, .int .i64 e2] 45))
          clear hb3 hby1 hby2 C3'
          generalize hwb : (w3.alloc (.cells #[.slice A1 r1.length c1, .int .i64 e1] 45)).alloc (.cells #[.slice A2 r2.length c2, .int .i64 e2] 45) = wb at *
          have hzb : wb.heap.size = w3.heap.size + 2 := by rw [← hwb]; simp
          have HBb : Hid (Below wa.heap.size wa wb) := Lib.hid (by rw [← hwb]; exact (HB3.out.alloc HB3.out.size _).alloc (by simp; omega) _)
          have p1 : Blk wb w3.heap.size 45 #[.slice A1 r1.length c1, .int .i64 e1] := by rw [← hwb]; exact (Blk.new w3 _ _).alloc _
          have p2 : Blk wb (w3.heap.size + 1) 45 #[.slice A2 r2.length c2, .int .i64 e2] := by rw [← hwb]; exact blk_new2 w3 _ _ _ rfl
          replace y0 : wb.cell? ⟨w0.heap.size, 0, none⟩ = some (.slice A0 st.length c0) := by rw [← hwb, World.cell?_alloc_lt _ _ _ (by simp; omega), World.cell?_alloc_lt _ _ _ (by simp; omega)]; exact y0
          have q10 := p1.cell 0
          have q11 := p1.cell 1
          have q20 := p2.cell 0
          have q21 := p2.cell 1
          simp at q10 q11 q20 q21
          go_wp2_with fail
          clear hwb
          refine (HC5.out wb HBb.out).mono ?_
          rintro e w4 ⟨Ab, cb, rfl, hcb, hbyb, hb4⟩
          have HB4 := Lib.hid (HBb.out.trans (hb4.mono HBb.out.size))
          have hsz4 := hb4.size
          replace q10 := cells_keepR hb4 (by omega) q10
          replace q11 := cells_keepR hb4 (by omega) q11
          replace q20 := cells_keepR hb4 (by omega) q20
          replace q21 := cells_keepR hb4 (by omega) q21
          have HB1Y := Lib.hid ((HBY1.out.mono (S' := (· < wb.heap.size)) fun k hk _ => hk).below hb4)
          have HB2Y := Lib.hid ((HBY2.out.mono (S' := (· < wb.heap.size)) fun k hk _ => hk).below hb4)
          have HBYB := Lib.hid hbyb
          clear hb4 hbyb p1 p2 HC5 HBY1 HBY2
          generalize joinD st = js at *
          obtain ⟨Am, hsm, hAm⟩ := slice_bytes_mid Ab js.length cb r1.length r2.length (by omega)
          have HCS : Hid (∀ n, Calls Tryd.prog 17 #[.slice A2 r2.length c2, .slice Am r2.length (cb - r1.length)] (w4.drewN n) fun e w' => e = .returned (.bool true) ∧ ∃ m, w' = (w4.drewN n).drewN m) := Lib.hid fun n => sameBytes_eq c2 (cb - r1.length) (by omega) (HB2Y.out.drewN n) (by
            have := ((HBYB.out.drop r1.length).take r2.length).drewN n
            rw [HPT.out] at this
            exact this.addr fun hp => hAm (by omega))
          have h4 : decide (r1.length + r2.length ≤ js.length) = true := by simp; omega
          have h4' : decide ((r1.length : Int) + (r2.length : Int) ≤ (js.length : Int)) = true := by simp; omega
          have hb1 : (r1.length : Int) + (r2.length : Int) ≤ 9223372036854775807 := by omega
          have s1 : IntKind.i64.wrap ((r1.length : Int) + (r2.length : Int)) = (r1.length : Int) + (r2.length : Int) := IntWalk.i64_in _ (by omega)
          have s2 : ((r1.length : Int) + (r2.length : Int)).toNat = r1.length + r2.length := by omega
          clear HPT hAm
          generalize r1.length = k1 at *
          generalize r2.length = k2 at *
          go_wp2_with fail
          go_quiet ((go_at_call 17; exact Calls.quiet_of (HCS.out _)))
          clear s1 s2
          go_wp2_with fail
          go_ret
          exact ⟨by first | rfl | simp, HBA.out.trans ((below_drewN HB4.out _).mono HBA.out.size)⟩

end Go.Proofs.YtmhhblfolfojbaaDoor
