/- FnLimitEnd, walked: it returns true, and changes nothing that was there. -/
import Derived.Test.YtbddgkmkdjkloaaDoorLimit
import Derived.Test.YtbddgkmkdjkloaaDoorSLimit
import Derived.Test.YtbddgkmkdjkloaaDoorLimP
import Derived.Test.YtbddgkmkdjkloaaDoorDrawLimit
import Derived.Test.YtbddgkmkdjkloaaDoorSameG
import Derived.Test.YtbddgkmkdjkloaaDoorJoin
import Derived.Test.YtbddgkmkdjkloaaDoorLaw
import Derived.Deep.RegionHeld3
set_option linter.unusedVariables false
set_option linter.unusedSimpArgs false
namespace Go.Proofs.YtbddgkmkdjkloaaDoor
open Go.RowKit

set_option maxHeartbeats 1000000 in
set_option maxRecDepth 100000 in
theorem limitEnd_walk {B : Nat} {S : Nat → Prop} {w : World} {E : Nat → Addr} (hE : Errs B w E) (hBw : B ≤ w.heap.size) {A : Option Addr} {l : List Int} (c : Nat) (h : BytesAt S w A l) (hb : ∀ j, 0 ≤ nth l j ∧ nth l j ≤ 255) :
    Calls Tryd.prog 7 #[.slice A l.length c] w (LawPost w) := by
  by_cases hl : 1048576 < l.length
  · have hl' : (1048576 : Int) < (l.length : Int) := by omega
    clear hE h hb
    go_enter Tryd.func7, Tryd.ntmps7
    go_wp2_with fail
    go_ret
    exact ⟨rfl, Below.refl _ _⟩
  · have hl' : ¬ (1048576 : Int) < (l.length : Int) := by omega
    have C0 := Lib.hid (drawLimit_any c h (by omega) (fun j _ => hb j))
    have HE := Lib.hid hE
    clear h hb hE hl
    generalize l.length = len at *
    go_enter Tryd.func7, Tryd.ntmps7
    go_wp2_with fail
    refine C0.out.mono ?_
    rintro e w0 ⟨st, A0, c0, n, zs, A1, c1, rfl, hn, hd, hnb, hzl, h, hzi, hb0⟩
    clear C0
    have hsz0 := hb0.size
    have hj := joinD_bound hd
    generalize hw1 : w0.alloc (.cells #[.slice A0 st.length c0] 24) = wa
    have hba : Below w.heap.size w wa := by rw [← hw1]; exact hb0.alloc hsz0 _
    have hS : RecsAt (· < wa.heap.size) wa A0 st := by rw [← hw1]; exact (h.alloc _).mono fun k hk _ => hk
    have hZ : IntsAt (· < wa.heap.size) wa A1 zs := by rw [← hw1]; exact (hzi.alloc _).mono fun k hk _ => hk
    have y0 : wa.cell? ⟨w0.heap.size, 0, none⟩ = some (.slice A0 st.length c0) := by rw [← hw1]; simp
    have hya : w0.heap.size < wa.heap.size := by rw [← hw1]; simp
    have hEa := HE.out.below (hba.mono hBw)
    have hBa := Nat.le_trans hBw hba.size
    have C1 := fun (w' : World) (hb : Below wa.heap.size wa w') => Lib.hid (validSource_any c0 (by omega) (hS.below hb))
    have C2 := fun (w' : World) (hb : Below wa.heap.size wa w') => Lib.hid (validSizes_any c1 (by omega) (hZ.below hb))
    have HCI := Lib.hid fun (w' : World) (hb : Below wa.heap.size wa w') (hv : Valid (lastErr st) st) (hzs : SizesOK zs) => implLimit_any (L := lastErr st) (hEa.below (hb.mono hBa)) (Nat.le_trans hBa hb.size) c0 c1 (hS.below hb) (by omega) (fun i hi => by have := hd i hi; omega) hv (fun e => by subst e; rfl) (hZ.below hb) hzs (by omega) n (by omega) (by omega)
    have HBA := Lib.hid hba
    have HB0 : Hid (Below wa.heap.size wa wa) := Lib.hid (Below.refl _ _)
    clear HE hEa hBa hS hZ hba h hzi hb0 hd
    go_wp2_with fail
    clear hw1
    go_wp2_with fail
    refine ((C1 _ HB0.out).out).mono ?_
    rintro e w1 ⟨v, rfl, hv, hb1⟩
    have HB1 := Lib.hid (HB0.out.trans (hb1.mono HB0.out.size))
    have hsz1 := hb1.size
    replace y0 := cells_keep0 hb1 (by omega) y0
    have HV := Lib.hid hv
    clear hb1 hv C1
    cases v with
    | false =>
      go_wp2_with fail
      go_ret
      exact ⟨by first | rfl | simp, HBA.out.trans (HB1.out.mono HBA.out.size)⟩
    | true =>
      have HVV := Lib.hid (HV.out rfl)
      clear HV
      go_wp2_with fail
      refine ((C2 _ HB1.out).out).mono ?_
      rintro e w2 ⟨v2, rfl, hv2, hb2⟩
      have HB2 := Lib.hid (HB1.out.trans (hb2.mono HB1.out.size))
      have hsz2 := hb2.size
      replace y0 := cells_keep0 hb2 (by omega) y0
      have HV2 := Lib.hid hv2
      clear hb2 hv2 C2
      cases v2 with
      | false =>
        go_wp2_with fail
        go_ret
        exact ⟨by first | rfl | simp, HBA.out.trans (HB2.out.mono HBA.out.size)⟩
      | true =>
        have HZZ := Lib.hid (HV2.out rfl)
        clear HV2
        have HCX := Lib.hid (HCI.out w2 HB2.out HVV.out HZZ.out)
        have hRl := runs_length (limStep (rd (lastErr st))) zs (st, n)
        have HEN := Lib.hid (runs_end (lastErr st) zs (st, n))
        have HRS := Lib.hid (runs_lens (step := limStep (rd (lastErr st))) (limStep_len (lastErr st)) (t := (st, n)) HZZ.out)
        have hrj := runs_join (lastErr st) zs (st, n)
        have hpl : (joinD (runs (limStep (rd (lastErr st))) zs (st, n)).1).length ≤ (joinD st).length := by
          have := congrArg List.length hrj
          rw [List.length_append] at this
          simp only at this
          omega
        simp only at HEN
        generalize (runs (limStep (rd (lastErr st))) zs (st, n)).1 = R at *
        clear HCI hrj
        go_wp2_with fail
        refine (HCX.out).mono ?_
        rintro e w3 ⟨Aa, ca, rfl, hca, hra, hb3⟩
        have HB3 := Lib.hid (HB2.out.trans (hb3.mono HB2.out.size))
        have hsz3 := hb3.size
        replace y0 := cells_keep0 hb3 (by omega) y0
        have HRA := Lib.hid hra
        clear hb3 hra HCX
        generalize hrn : R.length = rn at *
        have HRN := Lib.hid hrn
        obtain rfl : rn = zs.length := by omega
        clear hrn hRl
        generalize zs.length = zn at *
        go_wp2_with fail
        go_loopg [7, 8] zn (fun f y i wr => ∃ (k : Nat) (x : Int), k ≤ zn ∧ f = zn - k ∧ i = .int .i64 k ∧ y = .int .i64 x ∧ Hid (x = n - ((joinD (R.take k)).length : Int)) ∧ wr = w3)
        case atStart => exact ⟨0, n, Nat.zero_le _, by omega, rfl, rfl, Lib.hid (by simp [joinD]), rfl⟩
        case round =>
          obtain ⟨k, x, hk, rfl, rfl, rfl, HX, rfl⟩ := hrel
          by_cases hlt : k < zn
          · obtain ⟨rb, roff, rfl, _, _, hrc⟩ := HRA.out (by rw [HRN.out]; omega)
            obtain ⟨Ai, ci, g1, g2, _, _⟩ := hrc k (by rw [HRN.out]; omega)
            have hjt := joinD_take' (l := R) (k := k) (by rw [HRN.out]; exact hlt)
            have htl := joinD_take_le R (k + 1)
            have hxe := HX.out
            have hjl : (joinD (R.take (k + 1))).length = (joinD (R.take k)).length + (dat R k).length := by rw [hjt, List.length_append]
            have hend := fun hx : x ≤ 0 => HEN.out.at (i := k) (by rw [HRN.out]; exact hlt) (by omega)
            have HXN := Lib.hid (show x - ((dat R k).length : Int) = n - ((joinD (R.take (k + 1))).length : Int) by omega)
            have hb1 : -9223372036854775808 ≤ x - ((dat R k).length : Int) := by omega
            have hb2 : x - ((dat R k).length : Int) ≤ 9223372036854775807 := by omega
            have hki : (0 : Int) ≤ (k : Int) := by omega
            have hki2 : (k : Int) < (zn : Int) := by omega
            clear hrc hjt htl hxe hjl HX
            by_cases hx0 : x ≤ 0
            · obtain ⟨hd0, he0⟩ := hend hx0
              rw [hd0] at g1 HXN hb1 hb2
              rw [he0] at g2
              simp only [List.length_nil] at g1 HXN hb1 hb2
              clear hd0 he0 hend
              have hb3 : ((0 : Nat) : Int) = 0 := rfl
              rw [hb3] at HXN hb1 hb2
              go_wp2_with fail
              go_roundg (zn - (k + 1))
              case measure => omega
              case rel => exact ⟨k + 1, x - 0, by omega, rfl, by go_num, by go_num, HXN, rfl⟩
            · clear hend
              generalize (dat R k).length = dl at *
              generalize err R k = er at *
              go_wp2_with fail
              go_roundg (zn - (k + 1))
              case measure => omega
              case rel => exact ⟨k + 1, x - dl, by omega, rfl, by go_num, by go_num, HXN, rfl⟩
          · go_wp2_with fail
            go_ret
            exact ⟨by first | rfl | simp, HBA.out.trans (HB3.out.mono HBA.out.size)⟩

end Go.Proofs.YtbddgkmkdjkloaaDoor
