/- FnReadAtLeastIff, walked: it returns true, and changes nothing that was there. -/
import Derived.Test.YtmhhblfolfojbaaDoorRalW
import Derived.Test.YtmhhblfolfojbaaDoorLit
import Derived.Test.YtmhhblfolfojbaaDoorIff
import Derived.Deep.QuietTactic
import Derived.BigQuiet
set_option linter.unusedVariables false
set_option linter.unusedSimpArgs false
namespace Go.Proofs.YtmhhblfolfojbaaDoor
open Go.RowKit

theorem atLeast_prefix {L : Int} {size least : Nat} (st : List (List Int × Int)) : (atLeast L size least st).1.1.length ≤ (joinD st).length ∧ (joinD st).take (atLeast L size least st).1.1.length = (atLeast L size least st).1.1 := by
  have h := atLeast_join (L := L) (size := size) (least := least) st
  rw [← h]
  exact ⟨by simp, List.take_left' rfl⟩

set_option maxHeartbeats 1000000 in
set_option maxRecDepth 100000 in
theorem readAtLeastIff_walk {B : Nat} {S : Nat → Prop} {w : World} {E : Nat → Addr} (hE : Errs B w E) (hBw : B ≤ w.heap.size) {A : Option Addr} {l : List Int} (c : Nat) (h : BytesAt S w A l) (hb : ∀ j, 0 ≤ nth l j ∧ nth l j ≤ 255) :
    Calls Tryd.prog 10 #[.slice A l.length c] w (LawPost w) := by
  by_cases hl : 1048576 < l.length
  · have hl' : (1048576 : Int) < (l.length : Int) := by omega
    clear hE h hb
    go_enter Tryd.func10, Tryd.ntmps10
    go_wp2_with fail
    go_ret
    exact ⟨rfl, Below.refl _ _⟩
  · have hl' : ¬ (1048576 : Int) < (l.length : Int) := by omega
    have C0 := Lib.hid (drawAL_any c h (by omega) (fun j _ => hb j))
    have HE := Lib.hid hE
    clear h hb hE hl
    generalize l.length = len at *
    go_enter Tryd.func10, Tryd.ntmps10
    go_wp2_with fail
    refine C0.out.mono ?_
    rintro e w0 ⟨st, A0, c0, size, least, thn, rfl, hn, hd, hsz, hlst, hthn, h, hb0⟩
    clear C0
    have hsz0 := hb0.size
    have hj := joinD_bound hd
    generalize hw1 : w0.alloc (.cells #[.slice A0 st.length c0] 25) = wa
    have hba : Below w.heap.size w wa := by rw [← hw1]; exact hb0.alloc hsz0 _
    have hS : RecsAt (· < wa.heap.size) wa A0 st := by rw [← hw1]; exact (h.alloc _).mono fun k hk _ => hk
    have y0 : wa.cell? ⟨w0.heap.size, 0, none⟩ = some (.slice A0 st.length c0) := by rw [← hw1]; simp
    have hya : w0.heap.size < wa.heap.size := by rw [← hw1]; simp
    have hEa := HE.out.below (hba.mono hBw)
    have hBa := Nat.le_trans hBw hba.size
    have C1 := fun (w' : World) (hb : Below wa.heap.size wa w') => Lib.hid (validSource_any c0 (by omega) (hS.below hb))
    have HC3 := Lib.hid fun (w' : World) (hb : Below wa.heap.size wa w') (hv : Valid (lastErr st) st) (a b d : Nat) (ha : a ≤ 1048576) (hd' : d ≤ 1048576) => implReadAtLeast_any (L := lastErr st) (hEa.below (hb.mono hBa)) (Nat.le_trans hBa hb.size) c0 (hS.below hb) (by omega) (fun i hi => by have := hd i hi; omega) hv (fun e => by subst e; rfl) a b d ha hd'
    have HC5 := Lib.hid fun (w' : World) (hb : Below wa.heap.size wa w') => bytes_any c0 (by omega) (by omega) (hS.below hb)
    have HBA := Lib.hid hba
    have HB0 : Hid (Below wa.heap.size wa wa) := Lib.hid (Below.refl _ _)
    clear HE hEa hBa hS hba h hb0 hd
    go_wp2_with fail
    clear hw1
    go_wp2_with fail
    refine ((C1 _ HB0.out).out).mono ?_
    rintro e w1 ⟨v, rfl, hv, hb1⟩
    have HB1 := Lib.hid (HB0.out.trans (hb1.mono HB0.out.size))
    have hsz1 := hb1.size
    replace y0 := cells_keep0 hb1 (by omega) y0
    have HV := Lib.hid hv
    clear hb1 hv C1
    cases v with
    | false =>
      go_wp2_with fail
      go_ret
      exact ⟨by first | rfl | simp, HBA.out.trans (HB1.out.mono HBA.out.size)⟩
    | true =>
      have HVV := Lib.hid (HV.out rfl)
      clear HV
      go_wp2_with fail
      refine ((validSizes_two _ _ _)).mono ?_
      rintro e w2 ⟨v2, rfl, hv2, hb2⟩
      have HB2 := Lib.hid (HB1.out.trans (hb2.mono HB1.out.size))
      have hsz2 := hb2.size
      replace y0 := cells_keep0 hb2 (by omega) y0
      have HV2 := Lib.hid hv2
      clear hb2 hv2
      cases v2 with
      | false =>
        go_wp2_with fail
        go_ret
        exact ⟨by first | rfl | simp, HBA.out.trans (HB2.out.mono HBA.out.size)⟩
      | true =>
        have hso := HV2.out rfl
        have hso1 := hso.1 0 (by simp)
        have hso2 := hso.1 1 (by simp)
        simp at hso1 hso2
        clear hso HV2
        by_cases hneg : least < 0
        · go_wp2_with fail
          go_ret
          exact ⟨by first | rfl | simp, HBA.out.trans (HB2.out.mono HBA.out.size)⟩
        · obtain ⟨zn, rfl⟩ : ∃ n : Nat, size = (n : Int) := ⟨size.toNat, by omega⟩
          obtain ⟨ln, rfl⟩ : ∃ n : Nat, least = (n : Int) := ⟨least.toNat, by omega⟩
          obtain ⟨tn, rfl⟩ : ∃ n : Nat, thn = (n : Int) := ⟨thn.toNat, by omega⟩
          have hz1 : zn ≤ 1048576 := by omega
          have hz2 : tn ≤ 1048576 := by omega
          clear hso1 hso2
          have hal1 := atLeast_len (lastErr st) zn ln st
          have hal2 := atLeast_len (lastErr st) tn tn (atLeast (lastErr st) zn ln st).2
          obtain ⟨hpl, hpt⟩ := atLeast_prefix (L := lastErr st) (size := zn) (least := ln) st
          have HPT := Lib.hid hpt
          have HIF := Lib.hid fun (hle : ln ≤ zn) => atLeast_iff (least := ln) (size := zn) HVV.out hle
          have HSH := Lib.hid fun (hle : zn < ln) => congrArg Prod.fst (atLeast_short (L := lastErr st) (st := st) hle)
          clear hpt
          have C3' := Lib.hid (HC3.out w2 HB2.out HVV.out zn ln tn hz1 hz2)

          generalize (atLeast (lastErr st) tn tn (atLeast (lastErr st) zn ln st).2).1 = R2 at *
          generalize (atLeast (lastErr st) zn ln st).1 = R1 at *
          obtain ⟨r1, e1⟩ := R1
          obtain ⟨r2, e2⟩ := R2
          simp only at *
          clear HC3
          go_wp2_with fail
          refine (C3'.out).mono ?_
          rintro e w3 ⟨A1, c1, A2, c2, rfl, hc1, hc2, hby1, hby2, hb3⟩
          have HB3 := Lib.hid (HB2.out.trans (hb3.mono HB2.out.size))
          have hsz3 := hb3.size
          replace y0 := cells_keep0 hb3 (by omega) y0
          have HBY1 := Lib.hid (((hby1.mono (S' := (· < w3.heap.size)) fun k hk _ => hk).alloc (.cells #[.slice A1 r1.length c1, .int .i64 e1] 45)).alloc (.cells #[.slice A2 r2.length c2, .int .i64 e2] 45))
          have HBY2 := Lib.hid (((hby2.mono (S' := (· < w3.heap.size)) fun k hk _ => hk).alloc (.cells #[.slice A1 r1.length c1, .int .i64 e1] 45)).alloc (.cells #[.slice A2 r2.length c2, .int .i64 e2] 45))
          clear hb3 hby1 hby2 C3'
          generalize hwb : (w3.alloc (.cells #[.slice A1 r1.length c1, .int .i64 e1] 45)).alloc (.cells #[.slice A2 r2.length c2, .int .i64 e2] 45) = wb at *
          have hzb : wb.heap.size = w3.heap.size + 2 := by rw [← hwb]; simp
          have HBb : Hid (Below wa.heap.size wa wb) := Lib.hid (by rw [← hwb]; exact (HB3.out.alloc HB3.out.size _).alloc (by simp; omega) _)
          have p1 : Blk wb w3.heap.size 45 #[.slice A1 r1.length c1, .int .i64 e1] := by rw [← hwb]; exact (Blk.new w3 _ _).alloc _
          have p2 : Blk wb (w3.heap.size + 1) 45 #[.slice A2 r2.length c2, .int .i64 e2] := by rw [← hwb]; exact blk_new2 w3 _ _ _ rfl
          replace y0 : wb.cell? ⟨w0.heap.size, 0, none⟩ = some (.slice A0 st.length c0) := by rw [← hwb, World.cell?_alloc_lt _ _ _ (by simp; omega), World.cell?_alloc_lt _ _ _ (by simp; omega)]; exact y0
          have q10 := p1.cell 0
          have q11 := p1.cell 1
          have q20 := p2.cell 0
          have q21 := p2.cell 1
          simp at q10 q11 q20 q21
          go_wp2_with fail
          clear hwb
          refine (HC5.out wb HBb.out).mono ?_
          rintro e w4 ⟨Ab, cb, rfl, hcb, hbyb, hb4⟩
          have HB4 := Lib.hid (HBb.out.trans (hb4.mono HBb.out.size))
          have hsz4 := hb4.size
          replace q10 := cells_keepR hb4 (by omega) q10
          replace q11 := cells_keepR hb4 (by omega) q11
          replace q20 := cells_keepR hb4 (by omega) q20
          replace q21 := cells_keepR hb4 (by omega) q21
          have HB1Y := Lib.hid ((HBY1.out.mono (S' := (· < wb.heap.size)) fun k hk _ => hk).below hb4)
          have HB2Y := Lib.hid ((HBY2.out.mono (S' := (· < wb.heap.size)) fun k hk _ => hk).below hb4)
          have HBYB := Lib.hid hbyb
          clear hb4 hbyb p1 p2 HC5 HBY1 HBY2
          generalize joinD st = js at *
          have HCS : Hid (∀ n, Calls Tryd.prog 17 #[.slice A1 r1.length c1, .slice Ab r1.length cb] (w4.drewN n) fun e w' => e = .returned (.bool true) ∧ ∃ m, w' = (w4.drewN n).drewN m) := Lib.hid fun n => sameBytes_eq c1 cb (by omega) (HB1Y.out.drewN n) (by have := (HBYB.out.take r1.length).drewN n; rw [HPT.out] at this; exact this)
          have hsl := fun w' : World => slice_bytes_to Ab js.length cb r1.length (by omega) w'
          by_cases hgt : zn < ln
          · have hsh := HSH.out hgt
            simp only [Prod.mk.injEq] at hsh
            obtain ⟨rfl, rfl⟩ := hsh
            have hgt' : (zn : Int) < (ln : Int) := by omega
            clear HIF HSH HCS HPT hsl
            simp only [List.length_nil] at *
            go_wp2_with fail
            go_ret
            exact ⟨by first | rfl | simp, HBA.out.trans (HB4.out.mono HBA.out.size)⟩
          · have hgt' : ¬ (zn : Int) < (ln : Int) := by omega
            obtain ⟨i1, i2, i3, i4⟩ := HIF.out (by omega)
            have h3 : decide (r1.length ≤ zn) = true := by simp; omega
            have h4 : decide (r1.length ≤ js.length) = true := by simp; omega
            have h3' : decide ((r1.length : Int) ≤ (zn : Int)) = true := by simp; omega
            have h4' : decide ((r1.length : Int) ≤ (js.length : Int)) = true := by simp; omega
            clear HIF HSH HPT
            generalize r1.length = kk at *
            have HI1 := Lib.hid i1
            have HI2 := Lib.hid i2
            have HI3 := Lib.hid i3
            clear i1 i2 i3
            rcases i4 with rfl | rfl | rfl | rfl
            · have hk : ln ≤ kk := HI1.out.2 rfl
              have h1 : decide (ln ≤ kk) = true := by simp [hk]
              have h1' : decide ((ln : Int) ≤ (kk : Int)) = true := by simp; omega
              clear hk HI1 HI2 HI3
              go_wp2_with fail
              go_quiet ((go_at_call 17; exact Calls.quiet_of (HCS.out _)))
              go_wp2_with fail
              go_ret
              exact ⟨by first | rfl | simp, HBA.out.trans ((below_drewN HB4.out _).mono HBA.out.size)⟩
            · have hk : ¬ ln ≤ kk := fun h => by have := HI1.out.1 h; omega
              obtain rfl : kk = 0 := HI2.out rfl
              have h1 : decide (ln ≤ 0) = false := by simp; omega
              have h1' : decide ((ln : Int) ≤ 0) = false := by simp; omega
              have h1'' : decide ((ln : Int) ≤ ((0 : Nat) : Int)) = false := by simp; omega
              have h1d : decide (ln = 0) = false := by simp; omega
              have h1e : decide ((ln : Int) = 0) = false := by simp; omega
              have h1f : ¬ ln = 0 := by omega
              clear hk HI1 HI2 HI3
              go_wp2_with fail
              go_quiet ((go_at_call 17; exact Calls.quiet_of (HCS.out _)))
              go_wp2_with fail
              go_ret
              exact ⟨by first | rfl | simp, HBA.out.trans ((below_drewN HB4.out _).mono HBA.out.size)⟩
            · have hk : ¬ ln ≤ kk := fun h => by have := HI1.out.1 h; omega
              have h1 : decide (ln ≤ kk) = false := by simp; omega
              have h1' : decide ((ln : Int) ≤ (kk : Int)) = false := by simp; omega
              clear hk HI1 HI2 HI3
              go_wp2_with fail
              go_quiet ((go_at_call 17; exact Calls.quiet_of (HCS.out _)))
              go_wp2_with fail
              go_ret
              exact ⟨by first | rfl | simp, HBA.out.trans ((below_drewN HB4.out _).mono HBA.out.size)⟩
            · have hk : ¬ ln ≤ kk := fun h => by have := HI1.out.1 h; omega
              have hk0 : kk ≠ 0 := HI3.out rfl
              have h1 : decide (ln ≤ kk) = false := by simp; omega
              have h1' : decide ((ln : Int) ≤ (kk : Int)) = false := by simp; omega
              have h2 : decide (0 < kk) = true := by simp; omega
              have h2' : decide ((0 : Int) < (kk : Int)) = true := by simp; omega
              clear hk hk0 HI1 HI2 HI3
              go_wp2_with fail
              go_quiet ((go_at_call 17; exact Calls.quiet_of (HCS.out _)))
              go_wp2_with fail
              go_ret
              exact ⟨by first | rfl | simp, HBA.out.trans ((below_drewN HB4.out _).mono HBA.out.size)⟩

end Go.Proofs.YtmhhblfolfojbaaDoor
