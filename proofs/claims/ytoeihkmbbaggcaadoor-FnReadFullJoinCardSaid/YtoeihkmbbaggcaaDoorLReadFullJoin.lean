/- FnReadFullJoin, walked: it returns true, and changes nothing that was there. -/
import Derived.Test.YtoeihkmbbaggcaaDoorLReadFull
import Derived.Test.YtoeihkmbbaggcaaDoorJoinP
import Derived.Test.YtoeihkmbbaggcaaDoorJoin
set_option linter.unusedVariables false
set_option linter.unusedSimpArgs false
namespace Go.Proofs.YtoeihkmbbaggcaaDoor
open Go.RowKit

theorem sum_nonneg : ∀ {l : List Int}, (∀ z ∈ l, 0 ≤ z) → 0 ≤ l.sum
  | [], _ => by simp
  | a :: r, h => by
    have h1 := h a (by simp)
    have h2 := sum_nonneg (l := r) fun z hz => h z (by simp [hz])
    rw [List.sum_cons]; omega
theorem sizes_mem {zs : List Int} (h : SizesOK zs) : ∀ z ∈ zs, 0 ≤ z := fun z hz => by
  obtain ⟨i, hi, rfl⟩ := List.getElem_of_mem hz
  have := (h.1 i hi).1
  simpa [hi] using this
theorem sizesOK_one {t : Nat} (h : t ≤ 1048576) : SizesOK [(t : Int)] := by
  refine ⟨fun i hi => ?_, by simp; omega⟩
  obtain rfl : i = 0 := by simpa using hi
  simp
  omega
theorem sum_take_le {zs : List Int} (h : ∀ z ∈ zs, 0 ≤ z) (k : Nat) : 0 ≤ (zs.take k).sum ∧ (zs.take k).sum ≤ zs.sum := by
  have e : zs.sum = (zs.take k).sum + (zs.drop k).sum := by rw [← List.sum_append, List.take_append_drop]
  have h1 := sum_nonneg (l := zs.take k) fun z hz => h z (List.mem_of_mem_take hz)
  have h2 := sum_nonneg (l := zs.drop k) fun z hz => h z (List.mem_of_mem_drop hz)
  omega

set_option maxHeartbeats 1000000 in
set_option maxRecDepth 100000 in
theorem readFullJoin_walk {B : Nat} {S : Nat → Prop} {w : World} {E : Nat → Addr} (hE : Errs B w E) (hBw : B ≤ w.heap.size) {A : Option Addr} {l : List Int} (c : Nat) (h : BytesAt S w A l) (hb : ∀ j, 0 ≤ nth l j ∧ nth l j ≤ 255) :
    Calls Tryd.prog 8 #[.slice A l.length c] w (LawPost w) := by
  by_cases hl : 1048576 < l.length
  · have hl' : (1048576 : Int) < (l.length : Int) := by omega
    clear hE h hb
    go_enter Tryd.func8, Tryd.ntmps8
    go_wp2_with fail
    go_ret
    exact ⟨rfl, Below.refl _ _⟩
  · have hl' : ¬ (1048576 : Int) < (l.length : Int) := by omega
    have C0 := Lib.hid (drawFull_any c h (by omega) (fun j _ => hb j))
    have HE := Lib.hid hE
    clear h hb hE hl
    generalize l.length = len at *
    go_enter Tryd.func8, Tryd.ntmps8
    go_wp2_with fail
    refine C0.out.mono ?_
    rintro e w0 ⟨st, A0, c0, zs, A1, c1, rfl, hn, hd, hzn, h, hz, hb0⟩
    have hsz0 := hb0.size
    generalize hw1 : w0.alloc (.cells #[.slice A0 st.length c0] 25) = wa
    have hba : Below w.heap.size w wa := by rw [← hw1]; exact hb0.alloc hsz0 _
    have hS : RecsAt (· < wa.heap.size) wa A0 st := by rw [← hw1]; exact (h.alloc _).mono fun k hk _ => hk
    have hZ : IntsAt (· < wa.heap.size) wa A1 zs := by rw [← hw1]; exact (hz.alloc _).mono fun k hk _ => hk
    have ya : wa.cell? ⟨w0.heap.size, 0, none⟩ = some (.slice A0 st.length c0) := by rw [← hw1]; simp
    have hya : w0.heap.size < wa.heap.size := by rw [← hw1]; simp
    have hEa := HE.out.below (hba.mono hBw)
    have hBa := Nat.le_trans hBw hba.size
    have C1 := fun (w' : World) (hb : Below wa.heap.size wa w') => Lib.hid (validSource_any c0 (by omega) (hS.below hb))
    have C2 := fun (w' : World) (hb : Below wa.heap.size wa w') => Lib.hid (validSizes_any c1 (by omega) (hZ.below hb))
    have C3 := fun (w' : World) (hb : Below wa.heap.size wa w') (hv : Valid (lastErr st) st) (hzs : SizesOK zs) => Lib.hid (implReadFull_any (L := lastErr st) (hEa.below (hb.mono hBa)) (Nat.le_trans hBa hb.size) c0 c1 (hS.below hb) (by omega) (fun i hi => by have := hd i hi; omega) hv (fun e => by subst e; rfl) (hZ.below hb) hzs (by omega))
    have C4 := fun (w' : World) (hb : Below wa.heap.size wa w') => Lib.hid (bytes_any c0 (by omega) (by have := joinD_len_le hd; omega) (hS.below hb))
    have C5 := fun (w' : World) (hb : Below wa.heap.size wa w') (hv : Valid (lastErr st) st) (A' : Option Addr) (t : Nat) (S' : Nat → Prop) (hi : IntsAt S' w' A' [(t : Int)]) (ht : t ≤ 1048576) => Lib.hid (implReadFull_any (L := lastErr st) (hEa.below (hb.mono hBa)) (Nat.le_trans hBa hb.size) c0 1 (hS.below hb) (by omega) (fun i hi => by have := hd i hi; omega) hv (fun e => by subst e; rfl) hi (zs := [(t : Int)]) (sizesOK_one ht) (by simp))
    have HBA := Lib.hid hba
    have HZ := Lib.hid hZ
    clear C0 HE hEa hBa hS hZ hba h hz hb0 hd
    go_wp2_with fail
    clear hw1
    refine (C1 _ (Below.refl _ _)).out.mono ?_
    rintro e w1 ⟨v, rfl, hv, hb1⟩
    have y0 := cells_keep hb1 hya ya
    have HB1 := Lib.hid hb1
    have HV := Lib.hid hv
    have hsz1 := hb1.size
    clear hb1 hv
    cases v with
    | false =>
      go_wp2_with fail
      go_ret
      exact ⟨rfl, HBA.out.trans (HB1.out.mono HBA.out.size)⟩
    | true =>
      go_wp2_with fail
      refine (C2 _ HB1.out).out.mono ?_
      rintro e w2 ⟨v2, rfl, hv2, hb2⟩
      have hB2 : Below wa.heap.size wa w2 := HB1.out.trans (hb2.mono HB1.out.size)
      have y1 := cells_keep hb2 (by omega) y0
      have HB2 := Lib.hid hB2
      have HV2 := Lib.hid hv2
      have hsz2 := hb2.size
      clear hb2 hB2 hv2 y0
      cases v2 with
      | false =>
        go_wp2_with fail
        go_ret
        exact ⟨rfl, HBA.out.trans (HB2.out.mono HBA.out.size)⟩
      | true =>
        have hval := HV.out (by simp)
        have hzs := HV2.out (by simp)
        have hmem := sizes_mem hzs
        have HC3 := Lib.hid fun (w' : World) (hb : Below wa.heap.size wa w') => C3 w' hb hval hzs
        have HC5 := Lib.hid fun (w' : World) (hb : Below wa.heap.size wa w') (A' : Option Addr) (t : Nat) (S' : Nat → Prop) (hi : IntsAt S' w' A' [(t : Int)]) (ht : t ≤ 1048576) => C5 w' hb hval A' t S' hi ht
        have HC4 := Lib.hid fun (w' : World) (hb : Below wa.heap.size wa w') => C4 w' hb
        have HJP := Lib.hid fun (hs : zs.sum ≤ ((joinD st).length : Int)) => readFulls_join hval hmem hs
        have HJ1 := Lib.hid fun (t : Nat) (hs : (t : Int) ≤ ((joinD st).length : Int)) => readFulls_join (zs := [(t : Int)]) hval (by simp) (by simpa using hs)
        have HSB := Lib.hid fun (k : Nat) => (sum_take_le hmem k)
        have hsum := hzs.2
        have hlen := readFulls_length (lastErr st) zs st
        have HLEN := Lib.hid hlen
        have HLEN1 := Lib.hid fun t : Nat => readFulls_length (lastErr st) [(t : Int)] st
        clear C1 C2 C3 C4 C5 hval hzs hlen hmem HV HV2
        generalize readFulls (lastErr st) zs st = R at *
        generalize joinD st = js at *
        generalize hzl : zs.length = zn at *
        have HZL := Lib.hid hzl
        clear hzl
        go_wp2_with fail
        go_loopg [5, 6] zn (fun f t i wr => ∃ (k : Nat) (x : Int), k ≤ zn ∧ f = zn - k ∧ i = .int .i64 k ∧ t = .int .i64 x ∧ 0 ≤ x ∧ x ≤ 1048576 ∧ Hid (x = (zs.take k).sum) ∧ wr = w2)
        case atStart => exact ⟨0, 0, Nat.zero_le _, by omega, rfl, rfl, by omega, by omega, Lib.hid (by simp), rfl⟩
        case round =>
          obtain ⟨k, x, hk, rfl, rfl, rfl, hx0, hx1, HX, rfl⟩ := hrel
          by_cases hlt : k < zn
          · obtain ⟨zb, zoff, rfl, _, _, hzc⟩ := HZ.out.below HB2.out (by have := HZL.out; omega)
            have g3 := hzc k (by have := HZL.out; omega)
            have hst := sum_take (zs := zs) (k := k) (by rw [HZL.out]; exact hlt)
            have hsb := HSB.out (k + 1)
            rw [hst, ← HX.out] at hsb
            have HST := Lib.hid hst
            clear hzc hst
            generalize nth zs k = z at *
            have hki : (0 : Int) ≤ (k : Int) := by omega
            have hki2 : (k : Int) < (zn : Int) := by omega
            have hz1 : 0 ≤ x + z := hsb.1
            have hz2 : x + z ≤ 1048576 := by omega
            clear hsb
            go_wp2_with fail
            go_roundg (zn - (k + 1))
            case measure => omega
            case rel => exact ⟨k + 1, x + z, by omega, rfl, by go_num, by go_num, hz1, hz2, Lib.hid (by rw [HST.out, HX.out]), rfl⟩
          · have hx : x = zs.sum := by rw [HX.out, List.take_of_length_le (by rw [HZL.out]; omega)]
            obtain ⟨t, rfl⟩ : ∃ t : Nat, x = (t : Int) := ⟨x.toNat, by omega⟩
            rw [← hx] at HJP
            have ht1 : t ≤ 1048576 := by omega
            have hki3 : ¬ (k : Int) < (zn : Int) := by omega
            clear hx HX HSB hx0 hx1 hsum
            go_wp2_with fail
            refine (HC4.out _ HB2.out).out.mono ?_
            rintro e w3 ⟨Ab, cb, rfl, hcb, hbb, hb3⟩
            have HB3 := Lib.hid (HB2.out.trans (hb3.mono HB2.out.size))
            have HBB := Lib.hid (hbb.mono (S' := (· < w3.heap.size)) fun k hk _ => hk)
            have y3 := cells_keep hb3 (by omega) y1
            have hsz3 := hb3.size
            clear hb3 hbb y1
            by_cases hgt : (js.length : Int) < (t : Int)
            · go_wp2_with fail
              go_ret
              exact ⟨rfl, HBA.out.trans (HB3.out.mono HBA.out.size)⟩
            · have hjp := HJP.out (by omega)
              have hj1 := HJ1.out t (by omega)
              have hs1 : [(t : Int)].sum.toNat = t := by simp
              rw [hs1] at hj1
              rw [Int.toNat_natCast] at hjp
              have htl : (js.take t).length = t := by rw [List.length_take]; omega
              have hsl := fun w' : World => slice_bytes_to Ab js.length cb t (by omega) w'
              have HJS := Lib.hid fun (w' : World) (A' : Option Addr) (S' : Nat → Prop) (c' : Nat) (hr : RecsAt S' w' A' R) => join_any (st := R) c' (by have := HLEN.out; omega) (by rw [hjp, htl]; omega) hr
              have HJ2 := Lib.hid fun (w' : World) (A' : Option Addr) (S' : Nat → Prop) (c' : Nat) (hr : RecsAt S' w' A' (readFulls (lastErr st) [(t : Int)] st)) => join_any (st := readFulls (lastErr st) [(t : Int)] st) c' (by rw [HLEN1.out]; simp) (by rw [hj1, htl]; omega) hr
              have hl1 : (readFulls (lastErr st) [(t : Int)] st).length = 1 := by rw [HLEN1.out]; rfl
              rw [hjp] at HJS
              rw [hj1] at HJ2
              have HC3' := Lib.hid (HC3.out w3 HB3.out)
              have HLR := Lib.hid (show R.length = zn from HLEN.out)
              have HC6 := Lib.hid fun (w' : World) (hb : Below wa.heap.size wa w') (A' : Option Addr) (S' : Nat → Prop) (hi : IntsAt S' w' A' [(t : Int)]) => (HC5.out w' hb A' t S' hi ht1).out
              clear HC5
              generalize readFulls (lastErr st) [(t : Int)] st = R1 at *
              have hbt := HBB.out.take t
              generalize js.take t = jt at *
              have HBT := Lib.hid hbt
              have HTL := Lib.hid htl
              have HL1 := Lib.hid hl1
              clear hbt hjp hj1 HJP HJ1 htl hs1 hl1
              go_wp2_with fail
              refine HC3'.out.out.mono ?_
              rintro e w4 ⟨Aa, ca, rfl, hca, hra, hb4⟩
              have HB4 := Lib.hid (HB3.out.trans (hb4.mono HB3.out.size))
              have HJ4 := Lib.hid (HJS.out w4 Aa _ ca hra)
              have y4 := cells_keep hb4 (by omega) y3
              have HBT4 := Lib.hid (HBT.out.below hb4)
              have hsz4 := hb4.size
              clear hb4 hra y3 HBT HJS HC3 HC3'
              go_wp2_with fail
              refine HJ4.out.mono ?_
              rintro e w5 ⟨Ap, cp, rfl, hcp, hbp, hb5⟩
              have HB5 := Lib.hid (HB4.out.trans (hb5.mono HB4.out.size))
              have y5 := cells_keep hb5 (by omega) y4
              have HBT5 := Lib.hid ((HBT4.out.mono (S' := (· < w4.heap.size)) fun k hk _ => hk).below hb5)
              have HBP := Lib.hid hbp
              have hsz5 := hb5.size
              clear hb5 hbp y4 HBT4 HJ4
              have CS := Lib.hid (sameBytes_eq cp cb (by rw [HTL.out]; omega) HBP.out HBT5.out)
              rw [HTL.out] at CS hcp ⊢
              go_wp2_with fail
              refine CS.out.mono ?_
              rintro e w6 ⟨rfl, n6, rfl⟩
              clear CS
              have hBn : Below wa.heap.size wa ((w5.drewN n6).alloc (.cells #[.int .i64 (t : Int)] 3)) := (below_drewN HB5.out n6).alloc HB5.out.size _
              have hin := ints_new (w5.drewN n6) 3 [(t : Int)]
              have HC7 := Lib.hid (HC6.out _ hBn _ _ hin)
              have HBN := Lib.hid hBn
              have y6 : (w5.drewN n6).cell? ⟨w0.heap.size, 0, none⟩ = some (.slice A0 st.length c0) := y5
              clear hBn hin HC6
              go_wp2_with fail
              refine HC7.out.mono ?_
              rintro e w7 ⟨A7, c7, rfl, hc7, hr7, hb7⟩
              have HB7 := Lib.hid (HBN.out.trans (hb7.mono HBN.out.size))
              have HJ7 := Lib.hid (HJ2.out w7 A7 _ c7 hr7)
              have hsz7 : w5.heap.size + 1 ≤ w7.heap.size := by have := hb7.size; simp at this; exact this
              have HBP7 : Hid (BytesAt (fun j => w4.heap.size ≤ j ∧ j < w5.heap.size) w7 Ap jt) := Lib.hid (((((HBP.out.mono (S' := fun j => w4.heap.size ≤ j ∧ j < w5.heap.size) fun k hk h => ⟨h, hk⟩).drewN n6).alloc (.cells #[.int .i64 (t : Int)] 3))).keep hb7.size fun k hk hS => hb7.block k hk)
              clear hb7 hr7 HC7 HBN HBP HBT5 y5 y6 HJ2
              rw [HL1.out] at HJ7 ⊢
              go_wp2_with fail
              refine HJ7.out.mono ?_
              rintro e w8 ⟨A8, c8, rfl, hc8, hb8, hbl8⟩
              have HB8 := Lib.hid (HB7.out.trans (hbl8.mono HB7.out.size))
              have HBP8 := Lib.hid ((HBP7.out.mono (S' := (· < w7.heap.size)) fun k hk _ => hk).below hbl8)
              have CS := Lib.hid (sameBytes_eq c8 cp (by rw [HTL.out]; omega) hb8 HBP8.out)
              clear hbl8 hb8 HJ7 HBP7
              rw [HTL.out] at CS ⊢
              go_wp2_with fail
              refine CS.out.mono ?_
              rintro e w9 ⟨rfl, n9, rfl⟩
              clear CS
              go_wp2_with fail
              go_ret
              exact ⟨rfl, HBA.out.trans ((below_drewN HB8.out n9).mono HBA.out.size)⟩

end Go.Proofs.YtoeihkmbbaggcaaDoor
