/- FnReadAtLeastFull, walked: it returns true, and changes nothing that was there. -/
import Derived.Test.YtmhhblfolfojbaaDoorRalW
import Derived.Test.YtmhhblfolfojbaaDoorLit
import Derived.Test.YtmhhblfolfojbaaDoorSameG
import Derived.Deep.RegionHeld3
set_option linter.unusedVariables false
set_option linter.unusedSimpArgs false
namespace Go.Proofs.YtmhhblfolfojbaaDoor
open Go.RowKit

theorem ints_blk {w : World} {g : Nat} {t : TypeId} {z : Int} (h : Blk w g t #[.int .i64 z]) : IntsAt (· = g) w (some ⟨g, 0, none⟩) [z] := fun _ => by
  refine ⟨g, 0, rfl, rfl, h.lt, fun j hj => ?_⟩
  obtain rfl : j = 0 := by simpa using hj
  rw [h.cell]
  rfl

theorem recs_blk {S : Nat → Prop} {w : World} {g : Nat} {t : TypeId} {A : Option Addr} {r : List Int} {e : Int} {c : Nat} (h : Blk w g t #[.slice A r.length c, .int .i64 e]) (hc : r.length ≤ c) (hb : BytesAt S w A r) : RecsAt (fun _ => True) w (some ⟨g, 0, none⟩) [(r, e)] := fun _ => by
  refine ⟨g, 0, rfl, trivial, h.lt, fun i hi => ?_⟩
  obtain rfl : i = 0 := by simpa using hi
  have h0 := h.cell 0
  have h1 := h.cell 1
  simp at h0 h1
  exact ⟨A, c, by simpa [dat] using h0, by simpa [err] using h1, by simpa [dat] using hc, by simpa [dat] using hb.mono fun _ _ _ => trivial⟩

/-- what one ReadFull leaves -/
def RF1 (R : List (List Int × Int)) (w : World) (e : Ending) (w' : World) : Prop :=
  ∃ A c, e = .returned (.slice A 1 c) ∧ RecsAt (fun _ => True) w' A R ∧ Below w.heap.size w w'

set_option maxHeartbeats 1000000 in
set_option maxRecDepth 100000 in
theorem readAtLeastFull_walk {B : Nat} {S : Nat → Prop} {w : World} {E : Nat → Addr} (hE : Errs B w E) (hBw : B ≤ w.heap.size) {A : Option Addr} {l : List Int} (c : Nat) (h : BytesAt S w A l) (hb : ∀ j, 0 ≤ nth l j ∧ nth l j ≤ 255) :
    Calls Tryd.prog 11 #[.slice A l.length c] w (LawPost w) := by
  by_cases hl : 1048576 < l.length
  · have hl' : (1048576 : Int) < (l.length : Int) := by omega
    clear hE h hb
    go_enter Tryd.func11, Tryd.ntmps11
    go_wp2_with fail
    go_ret
    exact ⟨rfl, Below.refl _ _⟩
  · have hl' : ¬ (1048576 : Int) < (l.length : Int) := by omega
    have C0 := Lib.hid (drawAL_any c h (by omega) (fun j _ => hb j))
    have HE := Lib.hid hE
    clear h hb hE hl
    generalize l.length = len at *
    go_enter Tryd.func11, Tryd.ntmps11
    go_wp2_with fail
    refine C0.out.mono ?_
    rintro e w0 ⟨st, A0, c0, size, least, thn, rfl, hn, hd, hsz, hlst, hthn, h, hb0⟩
    clear C0
    have hsz0 := hb0.size
    have hj := joinD_bound hd
    generalize hw1 : w0.alloc (.cells #[.slice A0 st.length c0] 25) = wa
    have hba : Below w.heap.size w wa := by rw [← hw1]; exact hb0.alloc hsz0 _
    have hS : RecsAt (· < wa.heap.size) wa A0 st := by rw [← hw1]; exact (h.alloc _).mono fun k hk _ => hk
    have y0 : wa.cell? ⟨w0.heap.size, 0, none⟩ = some (.slice A0 st.length c0) := by rw [← hw1]; simp
    have hya : w0.heap.size < wa.heap.size := by rw [← hw1]; simp
    have hEa := HE.out.below (hba.mono hBw)
    have hBa := Nat.le_trans hBw hba.size
    have C1 := fun (w' : World) (hb : Below wa.heap.size wa w') => Lib.hid (validSource_any c0 (by omega) (hS.below hb))
    have HC3 := Lib.hid fun (w' : World) (hb : Below wa.heap.size wa w') (hv : Valid (lastErr st) st) (a b d : Nat) (ha : a ≤ 1048576) (hd' : d ≤ 1048576) => implReadAtLeast_any (L := lastErr st) (hEa.below (hb.mono hBa)) (Nat.le_trans hBa hb.size) c0 (hS.below hb) (by omega) (fun i hi => by have := hd i hi; omega) hv (fun e => by subst e; rfl) a b d ha hd'
    have HC6 := Lib.hid fun (w' : World) (hb : Below wa.heap.size wa w') (hv : Valid (lastErr st) st) (A' : Option Addr) (t : Nat) (S' : Nat → Prop) (hi : IntsAt S' w' A' [(t : Int)]) (ht : t ≤ 1048576) => implReadFull_any (L := lastErr st) (hEa.below (hb.mono hBa)) (Nat.le_trans hBa hb.size) c0 1 (hS.below hb) (by omega) (fun i hi => by have := hd i hi; omega) hv (fun e => by subst e; rfl) hi (zs := [(t : Int)]) (sizes_one ht) (by simp)
    have HBA := Lib.hid hba
    have HB0 : Hid (Below wa.heap.size wa wa) := Lib.hid (Below.refl _ _)
    clear HE hEa hBa hS hba h hb0 hd
    go_wp2_with fail
    clear hw1
    go_wp2_with fail
    refine ((C1 _ HB0.out).out).mono ?_
    rintro e w1 ⟨v, rfl, hv, hb1⟩
    have HB1 := Lib.hid (HB0.out.trans (hb1.mono HB0.out.size))
    have hsz1 := hb1.size
    replace y0 := cells_keep0 hb1 (by omega) y0
    have HV := Lib.hid hv
    clear hb1 hv C1
    cases v with
    | false =>
      go_wp2_with fail
      go_ret
      exact ⟨by first | rfl | simp, HBA.out.trans (HB1.out.mono HBA.out.size)⟩
    | true =>
      have HVV := Lib.hid (HV.out rfl)
      clear HV
      go_wp2_with fail
      refine ((validSizes_two _ _ _)).mono ?_
      rintro e w2 ⟨v2, rfl, hv2, hb2⟩
      have HB2 := Lib.hid (HB1.out.trans (hb2.mono HB1.out.size))
      have hsz2 := hb2.size
      replace y0 := cells_keep0 hb2 (by omega) y0
      have HV2 := Lib.hid hv2
      clear hb2 hv2
      cases v2 with
      | false =>
        go_wp2_with fail
        go_ret
        exact ⟨by first | rfl | simp, HBA.out.trans (HB2.out.mono HBA.out.size)⟩
      | true =>
        have hso := HV2.out rfl
        have hso1 := hso.1 0 (by simp)
        have hso2 := hso.1 1 (by simp)
        simp at hso1 hso2
        clear hso HV2
        by_cases hneg : least < 0
        · go_wp2_with fail
          go_ret
          exact ⟨by first | rfl | simp, HBA.out.trans (HB2.out.mono HBA.out.size)⟩
        · obtain ⟨zn, rfl⟩ : ∃ n : Nat, size = (n : Int) := ⟨size.toNat, by omega⟩
          obtain ⟨ln, rfl⟩ : ∃ n : Nat, least = (n : Int) := ⟨least.toNat, by omega⟩
          obtain ⟨tn, rfl⟩ : ∃ n : Nat, thn = (n : Int) := ⟨thn.toNat, by omega⟩
          have hz1 : zn ≤ 1048576 := by omega
          have hz2 : tn ≤ 1048576 := by omega
          clear hso1 hso2
          have hal1 := atLeast_len (lastErr st) zn zn st
          have hal2 := atLeast_len (lastErr st) 0 0 (atLeast (lastErr st) zn zn st).2
          have HRF := Lib.hid (show readFulls (lastErr st) [(zn : Int)] st = [(atLeast (lastErr st) zn zn st).1] by simp [readFulls])
          have C3' := Lib.hid (HC3.out w2 HB2.out HVV.out zn zn 0 hz1 (by omega))

          generalize (atLeast (lastErr st) 0 0 (atLeast (lastErr st) zn zn st).2).1 = R2 at *
          generalize (atLeast (lastErr st) zn zn st).1 = R1 at *
          obtain ⟨r1, e1⟩ := R1
          obtain ⟨r2, e2⟩ := R2
          simp only at *
          clear HC3
          go_wp2_with fail
          refine (C3'.out).mono ?_
          rintro e w3 ⟨A1, c1, A2, c2, rfl, hc1, hc2, hby1, hby2, hb3⟩
          have HB3 := Lib.hid (HB2.out.trans (hb3.mono HB2.out.size))
          have hsz3 := hb3.size
          replace y0 := cells_keep0 hb3 (by omega) y0
          have HBY1 := Lib.hid (((hby1.mono (S' := (· < w3.heap.size)) fun k hk _ => hk).alloc (.cells #[.slice A1 r1.length c1, .int .i64 e1] 45)).alloc (.cells #[.slice A2 r2.length c2, .int .i64 e2] 45))
          have HBY2 := Lib.hid (((hby2.mono (S' := (· < w3.heap.size)) fun k hk _ => hk).alloc (.cells #[.slice A1 r1.length c1, .int .i64 e1] 45)).alloc (.cells #[.slice A2 r2.length c2, .int .i64 e2] 45))
          clear hb3 hby1 hby2 C3'
          generalize hwb : (w3.alloc (.cells #[.slice A1 r1.length c1, .int .i64 e1] 45)).alloc (.cells #[.slice A2 r2.length c2, .int .i64 e2] 45) = wb at *
          have hzb : wb.heap.size = w3.heap.size + 2 := by rw [← hwb]; simp
          have HBb : Hid (Below wa.heap.size wa wb) := Lib.hid (by rw [← hwb]; exact (HB3.out.alloc HB3.out.size _).alloc (by simp; omega) _)
          have p1 : Blk wb w3.heap.size 45 #[.slice A1 r1.length c1, .int .i64 e1] := by rw [← hwb]; exact (Blk.new w3 _ _).alloc _
          have p2 : Blk wb (w3.heap.size + 1) 45 #[.slice A2 r2.length c2, .int .i64 e2] := by rw [← hwb]; exact blk_new2 w3 _ _ _ rfl
          replace y0 : wb.cell? ⟨w0.heap.size, 0, none⟩ = some (.slice A0 st.length c0) := by rw [← hwb, World.cell?_alloc_lt _ _ _ (by simp; omega), World.cell?_alloc_lt _ _ _ (by simp; omega)]; exact y0
          have hzb1 : w3.heap.size + 2 ≤ wb.heap.size := by omega
          clear hzb
          have q10 := p1.cell 0
          have q11 := p1.cell 1
          simp at q10 q11
          have HFX : Hid (∀ (w' : World) (gb : Nat), Below wa.heap.size wa w' → Blk w' gb 3 #[.int .i64 zn] → Calls Tryd.prog 19 #[.agg #[.slice A0 st.length c0], .slice (some ⟨gb, 0, none⟩) 1 1] w' (RF1 [(r1, e1)] w')) := Lib.hid fun w' gb hb hk => by
            have C := HC6.out w' hb HVV.out (some ⟨gb, 0, none⟩) zn _ (ints_blk hk) hz1
            rw [HRF.out] at C
            refine Calls.mono C ?_
            rintro e w5 ⟨Ab, cb, he, _, hr, hb5⟩
            exact ⟨Ab, cb, he, hr.mono fun _ _ _ => trivial, hb5⟩
          have HLE : Hid (∀ i, i < [(r1, e1)].length → (dat [(r1, e1)] i).length ≤ 281474976710656) := Lib.hid fun i hi => by
            obtain rfl : i = 0 := by simpa using hi
            simp [dat]
            omega
          have HSG : Hid (∀ (w' : World) (gb : Nat) (Ab : Option Addr) (cb : Nat), Blk w' gb 45 #[.slice A1 r1.length c1, .int .i64 e1] → BytesAt (fun _ => True) w' A1 r1 → RecsAt (fun _ => True) w' Ab [(r1, e1)] → Calls Tryd.prog 27 #[.slice (some ⟨gb, 0, none⟩) 1 1, .slice Ab 1 cb] w' fun e w6 => e = .returned (.bool true) ∧ Below w'.heap.size w' w6) := Lib.hid fun w' gb Ab cb h1 h2 h3 => sameGots_eq (l := [(r1, e1)]) 1 cb (by simp) HLE.out (recs_blk h1 hc1 h2) h3
          have HBYW := Lib.hid (HBY1.out.mono (S' := (· < wb.heap.size)) fun k hk _ => hk)
          have HKS : Hid (∀ (w' w'' : World), wb.heap.size ≤ w'.heap.size → Below w'.heap.size w' w'' → w'.cell? ⟨w0.heap.size, 0, none⟩ = some (.slice A0 st.length c0) ∧ w'.cell? ⟨w3.heap.size, 0, none⟩ = some (.slice A1 r1.length c1) ∧ w'.cell? ⟨w3.heap.size, 1, none⟩ = some (.int .i64 e1) →
              w''.cell? ⟨w0.heap.size, 0, none⟩ = some (.slice A0 st.length c0) ∧ w''.cell? ⟨w3.heap.size, 0, none⟩ = some (.slice A1 r1.length c1) ∧ w''.cell? ⟨w3.heap.size, 1, none⟩ = some (.int .i64 e1)) := Lib.hid fun w' w'' hw hb ⟨a, b, c⟩ =>
            ⟨(hb.cell (p := ⟨w0.heap.size, 0, none⟩) (show w0.heap.size < w'.heap.size by omega)).trans a, (hb.cell (p := ⟨w3.heap.size, 0, none⟩) (show w3.heap.size < w'.heap.size by omega)).trans b, (hb.cell (p := ⟨w3.heap.size, 1, none⟩) (show w3.heap.size < w'.heap.size by omega)).trans c⟩
          have hS0 : wb.cell? ⟨w0.heap.size, 0, none⟩ = some (.slice A0 st.length c0) ∧ wb.cell? ⟨w3.heap.size, 0, none⟩ = some (.slice A1 r1.length c1) ∧ wb.cell? ⟨w3.heap.size, 1, none⟩ = some (.int .i64 e1) := ⟨y0, q10, q11⟩
          have hS1 := fun o : Obj => HKS.out wb (wb.alloc o) (Nat.le_refl _) ((Below.refl _ _).alloc (Nat.le_refl _) o) hS0
          have hS2 := fun o o' : Obj => HKS.out wb ((wb.alloc o).alloc o') (Nat.le_refl _) (((Below.refl _ _).alloc (Nat.le_refl _) o).alloc (by simp) o') hS0
          clear HC6 HBY1 HBY2 p1 p2 hal1 hal2
          generalize hgr : r1.length = k1 at *
          have HK1 := Lib.hid hgr
          clear hgr
          have HWA : Hid (Below wb.heap.size wb (((wb.alloc (.cells #[.slice A1 k1 c1, .int .i64 e1] 45)).alloc (.cells #[.int .i64 zn] 3)).drew)) := Lib.hid (((Below.refl _ _).alloc (Nat.le_refl _) _).alloc (by simp) _).drew
          have HFA : Hid (Calls Tryd.prog 19 #[.agg #[.slice A0 st.length c0], .slice (some ⟨wb.heap.size + 1, 0, none⟩) 1 1] (((wb.alloc (.cells #[.slice A1 k1 c1, .int .i64 e1] 45)).alloc (.cells #[.int .i64 zn] 3)).drew) fun e w5 => ∃ Ab cb, e = .returned (.slice Ab 1 cb) ∧ RecsAt (fun _ => True) w5 Ab [(r1, e1)] ∧ BytesAt (fun _ => True) w5 A1 r1 ∧ Blk w5 (wb.heap.size) 45 #[.slice A1 k1 c1, .int .i64 e1] ∧ Below wb.heap.size wb w5) := Lib.hid (by
            refine Calls.mono (HFX.out (((wb.alloc (.cells #[.slice A1 k1 c1, .int .i64 e1] 45)).alloc (.cells #[.int .i64 zn] 3)).drew) (wb.heap.size + 1) (HBb.out.trans (HWA.out.mono HBb.out.size)) (blk_new2 wb _ _ _ rfl)) ?_
            rintro e w5 ⟨Ab, cb, he, hr, hb⟩
            have hB : Below wb.heap.size wb w5 := HWA.out.trans (hb.mono HWA.out.size)
            exact ⟨Ab, cb, he, hr, (HBYW.out.below hB).mono fun _ _ _ => trivial, Blk.keep ((Blk.new wb _ _).alloc _) (hb.block _ (by first | (simp; done) | (simp; omega))), hB⟩)
          have HWB : Hid (Below wb.heap.size wb (((wb.alloc (.cells #[.int .i64 zn] 3)).alloc (.cells #[.slice A1 k1 c1, .int .i64 e1] 45)).drew)) := Lib.hid (((Below.refl _ _).alloc (Nat.le_refl _) _).alloc (by simp) _).drew
          have HFB : Hid (Calls Tryd.prog 19 #[.agg #[.slice A0 st.length c0], .slice (some ⟨wb.heap.size, 0, none⟩) 1 1] (((wb.alloc (.cells #[.int .i64 zn] 3)).alloc (.cells #[.slice A1 k1 c1, .int .i64 e1] 45)).drew) fun e w5 => ∃ Ab cb, e = .returned (.slice Ab 1 cb) ∧ RecsAt (fun _ => True) w5 Ab [(r1, e1)] ∧ BytesAt (fun _ => True) w5 A1 r1 ∧ Blk w5 (wb.heap.size + 1) 45 #[.slice A1 k1 c1, .int .i64 e1] ∧ Below wb.heap.size wb w5) := Lib.hid (by
            refine Calls.mono (HFX.out (((wb.alloc (.cells #[.int .i64 zn] 3)).alloc (.cells #[.slice A1 k1 c1, .int .i64 e1] 45)).drew) (wb.heap.size) (HBb.out.trans (HWB.out.mono HBb.out.size)) ((Blk.new wb _ _).alloc _)) ?_
            rintro e w5 ⟨Ab, cb, he, hr, hb⟩
            have hB : Below wb.heap.size wb w5 := HWB.out.trans (hb.mono HWB.out.size)
            exact ⟨Ab, cb, he, hr, (HBYW.out.below hB).mono fun _ _ _ => trivial, Blk.keep (blk_new2 wb _ _ _ rfl) (hb.block _ (by first | (simp; done) | (simp; omega))), hB⟩)
          have HWC : Hid (Below wb.heap.size wb ((wb.alloc (.cells #[.int .i64 zn] 3)).drew)) := Lib.hid ((Below.refl _ _).alloc (Nat.le_refl _) _).drew
          have HFC : Hid (Calls Tryd.prog 19 #[.agg #[.slice A0 st.length c0], .slice (some ⟨wb.heap.size, 0, none⟩) 1 1] ((wb.alloc (.cells #[.int .i64 zn] 3)).drew) fun e w5 => ∃ Ab cb, e = .returned (.slice Ab 1 cb) ∧ RecsAt (fun _ => True) w5 Ab [(r1, e1)] ∧ BytesAt (fun _ => True) w5 A1 r1 ∧ Below wb.heap.size wb w5) := Lib.hid (by
            refine Calls.mono (HFX.out ((wb.alloc (.cells #[.int .i64 zn] 3)).drew) (wb.heap.size) (HBb.out.trans (HWC.out.mono HBb.out.size)) (Blk.new wb _ _)) ?_
            rintro e w5 ⟨Ab, cb, he, hr, hb⟩
            have hB : Below wb.heap.size wb w5 := HWC.out.trans (hb.mono HWC.out.size)
            exact ⟨Ab, cb, he, hr, (HBYW.out.below hB).mono fun _ _ _ => trivial, hB⟩)
          clear HFX HWA HWB HWC
          go_wp2_with fail
          clear hwb
          go_region_held3 (fun w' => w'.cell? ⟨w0.heap.size, 0, none⟩ = some (.slice A0 st.length c0) ∧ w'.cell? ⟨w3.heap.size, 0, none⟩ = some (.slice A1 k1 c1) ∧ w'.cell? ⟨w3.heap.size, 1, none⟩ = some (.int .i64 e1))
            (first
              | go_keep
              | exact hS0
              | exact hS1 _
              | exact hS2 _ _
              | exact hS5
              | exact hS6 _
              | exact hS7)
            (first
              | (go_at_call 19; (with_reducible refine HFA.out.mono ?_); rintro e w5 ⟨Ab, cb, rfl, hrb, hby5, hg5, hBw5⟩; have hS5 := HKS.out wb w5 (Nat.le_refl _) hBw5 hS0; have C6 := HSG.out w5 wb.heap.size Ab cb hg5 hby5 hrb; have hBx := hBw5)
              | (go_at_call 19; (with_reducible refine HFB.out.mono ?_); rintro e w5 ⟨Ab, cb, rfl, hrb, hby5, hg5, hBw5⟩; have hS5 := HKS.out wb w5 (Nat.le_refl _) hBw5 hS0; have C6 := HSG.out w5 (wb.heap.size + 1) Ab cb hg5 hby5 hrb; have hBx := hBw5)
              | (go_at_call 19; (with_reducible refine HFC.out.mono ?_); rintro e w5 ⟨Ab, cb, rfl, hrb, hby5, hBw5⟩; have hS5 := HKS.out wb w5 (Nat.le_refl _) hBw5 hS0; have hBx := hBw5.alloc hBw5.size (.cells #[.slice A1 k1 c1, .int .i64 e1] 45); have hS6 := HKS.out wb _ (Nat.le_refl _) hBx hS0; have C6 := HSG.out (w5.alloc (.cells #[.slice A1 k1 c1, .int .i64 e1] 45)) w5.heap.size Ab cb (Blk.new w5 _ _) (hby5.alloc _) (hrb.alloc _))
              | (go_at_call 27; (with_reducible refine C6.mono ?_); rintro e w6 ⟨rfl, hb6⟩; have hBw6 := hBx.trans (hb6.mono hBx.size); have hS7 := HKS.out wb w6 (Nat.le_refl _) hBw6 hS0))
          all_goals
            have HB7 := Lib.hid (HBb.out.trans (hBw6.mono HBb.out.size))
            clear hBw6 hBw5 hb6 hrb hby5 hS5 hS7 hS0 hS1 hS2 C6
            go_wp2_with fail
            go_ret
            exact ⟨by first | rfl | simp, HBA.out.trans (HB7.out.mono HBA.out.size)⟩

end Go.Proofs.YtmhhblfolfojbaaDoor
