/- FnLimitData, walked: it returns true, and changes nothing that was there. -/
import Derived.Test.YtbddgkmkdjkloaaDoorLimit
import Derived.Test.YtbddgkmkdjkloaaDoorSLimit
import Derived.Test.YtbddgkmkdjkloaaDoorLimP
import Derived.Test.YtbddgkmkdjkloaaDoorDrawLimit
import Derived.Test.YtbddgkmkdjkloaaDoorSameG
import Derived.Test.YtbddgkmkdjkloaaDoorJoin
import Derived.Test.YtbddgkmkdjkloaaDoorLaw
import Derived.Deep.RegionHeld3
set_option linter.unusedVariables false
set_option linter.unusedSimpArgs false
namespace Go.Proofs.YtbddgkmkdjkloaaDoor
open Go.RowKit

theorem ints_one (w : World) (t : TypeId) (z : Int) : IntsAt (fun j => w.heap.size ≤ j) (w.alloc (.cells #[.int .i64 z] t)) (some ⟨w.heap.size, 0, none⟩) [z] := fun _ => by
  refine ⟨w.heap.size, 0, rfl, Nat.le_refl _, by simp, fun j hj => ?_⟩
  obtain rfl : j = 0 := by simpa using hj
  rw [(Blk.new w t _).cell]
  rfl

/-- the source with one byte that stands in the text -/
theorem lit_recs (w : World) : RecsAt (fun j => w.heap.size ≤ j) ((w.alloc (.cells #[.int .u8 7] 5)).alloc (.cells #[.slice (some ⟨w.heap.size, 0, none⟩) 1 1, .int .i64 0] 39)) (some ⟨w.heap.size + 1, 0, none⟩) [([7], 0)] := fun _ => by
  refine ⟨w.heap.size + 1, 0, rfl, by omega, by simp, fun i hi => ?_⟩
  obtain rfl : i = 0 := by simpa using hi
  have b := Blk.new (w.alloc (.cells #[.int .u8 7] 5)) 39 #[.slice (some ⟨w.heap.size, 0, none⟩) 1 1, .int .i64 0]
  simp at b
  refine ⟨some ⟨w.heap.size, 0, none⟩, 1, by simp [dat], by simp [err], by simp [dat], fun _ => ⟨w.heap.size, 0, rfl, by omega, by simp; omega, fun j hj => ?_⟩⟩
  obtain rfl : j = 0 := by simpa [dat] using hj
  have b0 := (Blk.new w 5 #[.int .u8 7]).alloc (.cells #[.slice (some ⟨w.heap.size, 0, none⟩) 1 1, .int .i64 0] 39)
  exact (b0.cell 0)

theorem lit_sizes : SizesOK [(1 : Int)] := by
  refine ⟨fun i hi => ?_, by simp⟩
  obtain rfl : i = 0 := by simpa using hi
  simp

theorem lit_limit {B : Nat} {w : World} {E : Nat → Addr} (hE : Errs B w E) (hBw : B ≤ w.heap.size) :
    Calls Tryd.prog 17 #[.agg #[.slice (some ⟨w.heap.size + 1, 0, none⟩) 1 1], .int .i64 1, .slice (some ⟨w.heap.size + 2, 0, none⟩) 1 1]
      (((w.alloc (.cells #[.int .u8 7] 5)).alloc (.cells #[.slice (some ⟨w.heap.size, 0, none⟩) 1 1, .int .i64 0] 39)).alloc (.cells #[.int .i64 1] 3))
      fun e w' => ∃ A c, e = .returned (.slice A 1 c) ∧ Below w.heap.size w w' := by
  have hb : Below w.heap.size w (((w.alloc (.cells #[.int .u8 7] 5)).alloc (.cells #[.slice (some ⟨w.heap.size, 0, none⟩) 1 1, .int .i64 0] 39)).alloc (.cells #[.int .i64 1] 3)) :=
    (((Below.refl _ _).alloc (Nat.le_refl _) _).alloc (by simp) _).alloc (by simp; omega) _
  have hz := ints_one ((w.alloc (.cells #[.int .u8 7] 5)).alloc (.cells #[.slice (some ⟨w.heap.size, 0, none⟩) 1 1, .int .i64 0] 39)) 3 1
  simp only [World.size_alloc] at hz
  have C := implLimit_any (L := 1) (st := [([7], 0)]) (zs := [(1 : Int)]) (hE.below (hb.mono hBw)) (Nat.le_trans hBw hb.size) 1 1 ((lit_recs w).alloc (.cells #[.int .i64 1] 3)) (by simp) (fun i hi => by
    have : i = 0 := by simpa using hi
    subst this
    simp [dat]) (.inl ⟨rfl, rfl⟩) (fun h => by cases h) hz lit_sizes (by simp) 1 (by omega) (by omega)
  refine Calls.mono C ?_
  rintro e w' ⟨A, c, he, _, _, hb'⟩
  rw [runs_length] at he
  exact ⟨A, c, he, hb.trans (hb'.mono (by simp; omega))⟩

set_option maxHeartbeats 1000000 in
set_option maxRecDepth 100000 in
theorem limitData_walk {B : Nat} {S : Nat → Prop} {w : World} {E : Nat → Addr} (hE : Errs B w E) (hBw : B ≤ w.heap.size) {A : Option Addr} {l : List Int} (c : Nat) (h : BytesAt S w A l) (hb : ∀ j, 0 ≤ nth l j ∧ nth l j ≤ 255) :
    Calls Tryd.prog 6 #[.slice A l.length c] w (LawPost w) := by
  by_cases hl : 1048576 < l.length
  · have hl' : (1048576 : Int) < (l.length : Int) := by omega
    clear hE h hb
    go_enter Tryd.func6, Tryd.ntmps6
    go_wp2_with fail
    go_ret
    exact ⟨rfl, Below.refl _ _⟩
  · have hl' : ¬ (1048576 : Int) < (l.length : Int) := by omega
    have HE := Lib.hid hE
    have hBy := h.mono (S' := (· < w.heap.size)) fun k hk _ => hk
    have C0 := Lib.hid fun (w' : World) (hb' : Below w.heap.size w w') => drawLimit_any c (hBy.below hb') (by omega) (fun j _ => hb j)
    have CL := Lib.hid (lit_limit hE hBw)
    clear h hb hE hl hBy
    generalize l.length = len at *
    go_enter Tryd.func6, Tryd.ntmps6
    go_wp2_with fail
    refine CL.out.mono ?_
    rintro e wl ⟨AL, cL, rfl, hbL⟩
    have HBJ := Lib.hid hbL
    clear CL hbL
    go_wp2_with fail
    refine (C0.out wl HBJ.out).mono ?_
    rintro e w0 ⟨st, A0, c0, n, zs, A1, c1, rfl, hn, hd, hnb, hzl, h, hzi, hbj0⟩
    have hb0 := HBJ.out.trans (hbj0.mono HBJ.out.size)
    clear hbj0 C0
    have hsz0 := hb0.size
    have hj := joinD_bound hd
    generalize hw1 : w0.alloc (.cells #[.slice A0 st.length c0] 24) = wa
    have hba : Below w.heap.size w wa := by rw [← hw1]; exact hb0.alloc hsz0 _
    have hS : RecsAt (· < wa.heap.size) wa A0 st := by rw [← hw1]; exact (h.alloc _).mono fun k hk _ => hk
    have hZ : IntsAt (· < wa.heap.size) wa A1 zs := by rw [← hw1]; exact (hzi.alloc _).mono fun k hk _ => hk
    have y0 : wa.cell? ⟨w0.heap.size, 0, none⟩ = some (.slice A0 st.length c0) := by rw [← hw1]; simp
    have hya : w0.heap.size < wa.heap.size := by rw [← hw1]; simp
    have hEa := HE.out.below (hba.mono hBw)
    have hBa := Nat.le_trans hBw hba.size
    have C1 := fun (w' : World) (hb : Below wa.heap.size wa w') => Lib.hid (validSource_any c0 (by omega) (hS.below hb))
    have C2 := fun (w' : World) (hb : Below wa.heap.size wa w') => Lib.hid (validSizes_any c1 (by omega) (hZ.below hb))
    have HCI := Lib.hid fun (w' : World) (hb : Below wa.heap.size wa w') (hv : Valid (lastErr st) st) (hzs : SizesOK zs) => implLimit_any (L := lastErr st) (hEa.below (hb.mono hBa)) (Nat.le_trans hBa hb.size) c0 c1 (hS.below hb) (by omega) (fun i hi => by have := hd i hi; omega) hv (fun e => by subst e; rfl) (hZ.below hb) hzs (by omega) n (by omega) (by omega)
    have HCB := Lib.hid fun (w' : World) (hb : Below wa.heap.size wa w') => bytes_any c0 (by omega) (by omega) (hS.below hb)
    have HBA := Lib.hid hba
    have HB0 : Hid (Below wa.heap.size wa wa) := Lib.hid (Below.refl _ _)
    clear HE hEa hBa hS hZ hba h hzi hb0 hd
    go_wp2_with fail
    clear hw1
    go_wp2_with fail
    refine ((C1 _ HB0.out).out).mono ?_
    rintro e w1 ⟨v, rfl, hv, hb1⟩
    have HB1 := Lib.hid (HB0.out.trans (hb1.mono HB0.out.size))
    have hsz1 := hb1.size
    replace y0 := cells_keep0 hb1 (by omega) y0
    have HV := Lib.hid hv
    clear hb1 hv C1
    cases v with
    | false =>
      go_wp2_with fail
      go_ret
      exact ⟨by first | rfl | simp, HBA.out.trans (HB1.out.mono HBA.out.size)⟩
    | true =>
      have HVV := Lib.hid (HV.out rfl)
      clear HV
      go_wp2_with fail
      refine ((C2 _ HB1.out).out).mono ?_
      rintro e w2 ⟨v2, rfl, hv2, hb2⟩
      have HB2 := Lib.hid (HB1.out.trans (hb2.mono HB1.out.size))
      have hsz2 := hb2.size
      replace y0 := cells_keep0 hb2 (by omega) y0
      have HV2 := Lib.hid hv2
      clear hb2 hv2 C2
      cases v2 with
      | false =>
        go_wp2_with fail
        go_ret
        exact ⟨by first | rfl | simp, HBA.out.trans (HB2.out.mono HBA.out.size)⟩
      | true =>
        have HZZ := Lib.hid (HV2.out rfl)
        clear HV2
        go_wp2_with fail
        refine ((HCB.out _ HB2.out)).mono ?_
        rintro e w3 ⟨Ab, cb, rfl, hcb, hbyb, hb3⟩
        have HB3 := Lib.hid (HB2.out.trans (hb3.mono HB2.out.size))
        have hsz3 := hb3.size
        replace y0 := cells_keep0 hb3 (by omega) y0
        have HBYB := Lib.hid (hbyb.mono (S' := (· < w3.heap.size)) fun k hk _ => hk)
        clear hb3 hbyb HCB
        have hrj := runs_join (lastErr st) zs (st, n)
        have hrl := runs_le (lastErr st) zs (st, n)
        have hRl := runs_length (limStep (rd (lastErr st))) zs (st, n)
        have hpl : (joinD (runs (limStep (rd (lastErr st))) zs (st, n)).1).length ≤ (joinD st).length := by rw [← hrj, List.length_append]; omega
        have HPT := Lib.hid (show (joinD st).take (joinD (runs (limStep (rd (lastErr st))) zs (st, n)).1).length = joinD (runs (limStep (rd (lastErr st))) zs (st, n)).1 by
          rw [← hrj]
          exact List.take_left' rfl)
        simp only at hrl
        have hC3 := HCI.out w3 HB3.out HVV.out HZZ.out
        generalize (runs (limStep (rd (lastErr st))) zs (st, n)).1 = R at *
        have HC3 := Lib.hid hC3
        have hRl' : R.length ≤ 281474976710656 := by omega
        clear HCI hrj hC3 hRl
        go_wp2_with fail
        refine (HC3.out).mono ?_
        rintro e w4 ⟨Aa, ca, rfl, hca, hra, hb4⟩
        have HB4 := Lib.hid (HB3.out.trans (hb4.mono HB3.out.size))
        have hsz4 := hb4.size
        replace y0 := cells_keep0 hb4 (by omega) y0
        have HCJ := Lib.hid (join_any ca (by omega) (by omega) hra)
        have HBYB4 := Lib.hid (HBYB.out.below hb4)
        clear hb4 hra HC3 HBYB
        go_wp2_with fail
        refine (HCJ.out).mono ?_
        rintro e w5 ⟨Aj, cj, rfl, hcj, hbyj, hb5⟩
        have HB5 := Lib.hid (HB4.out.trans (hb5.mono HB4.out.size))
        have hsz5 := hb5.size
        replace y0 := cells_keep0 hb5 (by omega) y0
        have CSB := Lib.hid (sameBytes_eq cj cb (by omega) hbyj (by have := ((HBYB4.out.mono (S' := (· < w4.heap.size)) fun k hk _ => hk).below hb5).take (joinD R).length; rw [HPT.out] at this; exact this))
        clear hb5 hbyj HCJ HPT
        generalize (joinD R).length = kk at *
        generalize (joinD st).length = jn at *
        have hsl := fun w' : World => slice_bytes_to Ab jn cb kk (by omega) w'
        have hpl' : (kk : Int) ≤ (jn : Int) := by omega
        have hmx : (if (n : Int) < 0 then (0 : Int) else n) = (n.toNat : Int) := by split <;> omega
        have hmx2 : (if (0 : Int) < n then n else (0 : Int)) = (n.toNat : Int) := by split <;> omega
        have hmx3 : (if (n : Int) ≤ 0 then (0 : Int) else n) = (n.toNat : Int) := by split <;> omega
        have hle1 : decide ((kk : Int) ≤ (n.toNat : Int)) = true := by simp; omega
        have hle3 : decide ((kk : Int) ≤ max n 0) = true := by simp; omega
        have hle2 : decide (kk ≤ n.toNat) = true := by simp; omega
        go_wp2_with fail
        refine CSB.out.mono ?_
        rintro e w6 ⟨rfl, n6, rfl⟩
        go_wp2_with fail
        go_ret
        exact ⟨by first | rfl | simp, HBA.out.trans ((below_drewN HB5.out n6).mono HBA.out.size)⟩

end Go.Proofs.YtbddgkmkdjkloaaDoor
