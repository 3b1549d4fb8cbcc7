/- FnSectionAll, walked: it returns true, and changes nothing that was there. -/
import Derived.Test.YtdlgknaipljhhaaDoorSecW
import Derived.Test.YtdlgknaipljhhaaDoorSSec
import Derived.Test.YtdlgknaipljhhaaDoorDrawSec
import Derived.Test.YtdlgknaipljhhaaDoorLaw
import Derived.Test.YtdlgknaipljhhaaDoorSecQ
import Derived.Deep.RegionHeld3
set_option linter.unusedVariables false
set_option linter.unusedSimpArgs false
namespace Go.Proofs.YtdlgknaipljhhaaDoor
open Go.RowKit

set_option maxHeartbeats 1000000 in
set_option maxRecDepth 100000 in
theorem sectionAll_walk {B : Nat} {S : Nat → Prop} {w : World} {E : Nat → Addr} (hE : Errs B w E) (hBw : B ≤ w.heap.size) {A : Option Addr} {l : List Int} (c : Nat) (h : BytesAt S w A l) (hb : ∀ j, 0 ≤ nth l j ∧ nth l j ≤ 255) :
    Calls Tryd.prog 8 #[.slice A l.length c] w (LawPost w) := by
  by_cases hl : 1048576 < l.length
  · have hl' : (1048576 : Int) < (l.length : Int) := by omega
    clear hE h hb
    go_enter Tryd.func8, Tryd.ntmps8
    go_wp2_with fail
    go_ret
    exact ⟨rfl, Below.refl _ _⟩
  · have hl' : ¬ (1048576 : Int) < (l.length : Int) := by omega
    have C0 := Lib.hid (drawSection_any c h (by omega) (fun j _ => hb j))
    have HE := Lib.hid hE
    clear h hb hE hl
    generalize l.length = len at *
    go_enter Tryd.func8, Tryd.ntmps8
    go_wp2_with fail
    refine C0.out.mono ?_
    rintro e w0 ⟨data, A0, c0, off, n, ops, A1, c1, rfl, hdl, hdc, hof, hnb, hopl, hD, hO, hb0⟩
    clear C0
    have hsz0 := hb0.size
    have HD := Lib.hid (hD.mono (S' := (· < w0.heap.size)) fun k hk _ => hk)
    have HO := Lib.hid (hO.mono mvP (S' := (· < w0.heap.size)) fun k hk _ => hk)
    have HEa := Lib.hid (HE.out.below (hb0.mono hBw))
    have hBa : B ≤ w0.heap.size := Nat.le_trans hBw hsz0
    have C1 := Lib.hid (validSection_any (w := w0) A0 data.length c0 (by omega) off n)
    have HBA := Lib.hid hb0
    have HB0 : Hid (Below w0.heap.size w0 w0) := Lib.hid (Below.refl _ _)
    clear HE hD hO hb0
    go_wp2_with fail
    refine (C1.out).mono ?_
    rintro e w1 ⟨v, rfl, hv, hb1⟩
    have HB1 := Lib.hid (HB0.out.trans (hb1.mono HB0.out.size))
    have hsz1 := hb1.size
    have HV := Lib.hid hv
    clear hb1 hv C1
    cases v with
    | false =>
      clear HV
      go_wp2_with fail
      go_ret
      exact ⟨by first | rfl | simp, HBA.out.trans (HB1.out.mono HBA.out.size)⟩
    | true =>
      have hvv := HV.out rfl
      clear HV
      obtain ⟨off, rfl⟩ : ∃ o : Nat, off = (o : Int) := ⟨off.toNat, by omega⟩
      obtain ⟨n, rfl⟩ : ∃ o : Nat, n = (o : Int) := ⟨n.toNat, by omega⟩
      have hn : off + n ≤ data.length := by omega
      clear hvv
      have C2 := Lib.hid (validOps_any c1 (by omega) (HO.out.below mvP HB1.out))
      go_wp2_with fail
      refine (C2.out).mono ?_
      rintro e w2 ⟨v2, rfl, hv2, hb2⟩
      have HB2 := Lib.hid (HB1.out.trans (hb2.mono HB1.out.size))
      have hsz2 := hb2.size
      have HV2 := Lib.hid hv2
      clear hb2 hv2 C2
      cases v2 with
      | false =>
        clear HV2
        go_wp2_with fail
        go_ret
        exact ⟨by first | rfl | simp, HBA.out.trans (HB2.out.mono HBA.out.size)⟩
      | true =>
        have HOK := Lib.hid (HV2.out rfl)
        clear HV2
        have HBW : Hid (Below w0.heap.size w0 w2) := Lib.hid HB2.out
        have hnb2 : n ≤ 1402 := by omega
        have hofb : off ≤ 1400 := by omega
        clear HOK HO
        have hall : ((data.drop off).take n).length = n := by simp; omega
        have HBX : Hid (Below w0.heap.size w0 (w2.alloc (.cells #[.int .i64 3, .int .i64 0, .int .i64 0, .int .i64 1, .int .i64 (n : Int), .int .i64 0, .int .i64 1, .int .i64 ((n : Int) + 1), .int .i64 0] 26))) := Lib.hid (HBW.out.alloc HBW.out.size _)
        have HC3 := Lib.hid (implSection_any (ops := [(3, 0, 0), (1, (n : Int), 0), (1, (n : Int) + 1, 0)]) (HEa.out.below (HBX.out.mono hBa)) (Nat.le_trans hBa HBX.out.size) c0 3 off n (HD.out.below HBX.out) hn (by omega) (ops_new w2 26 [(3, 0, 0), (1, (n : Int), 0), (1, (n : Int) + 1, 0)] #[.int .i64 3, .int .i64 0, .int .i64 0, .int .i64 1, .int .i64 (n : Int), .int .i64 0, .int .i64 1, .int .i64 ((n : Int) + 1), .int .i64 0] rfl) (by
          intro op hop
          simp only [List.mem_cons, List.not_mem_nil, or_false] at hop
          rcases hop with rfl | rfl | rfl
          · exact .inr (.inr (.inr rfl))
          · exact .inr (.inl ⟨rfl, by simp only; omega, by simp only; omega, by simp only; omega, by simp only; omega⟩)
          · exact .inr (.inl ⟨rfl, by simp only; omega, by simp only; omega, by simp only; omega, by simp only; omega⟩)) (by simp))
        obtain ⟨iq, hiq, _, hsq, _⟩ := info_parts infoU8
        obtain ⟨A9, hsl, hA9⟩ := slice_mid (P := Tryd.prog) 22 (by rw [elemU8]; exact Tryd.underlying22) iq 1 (by rw [elemU8]; exact hiq) hsq A0 data.length c0 off n (by omega)
        have HALL : Hid (BytesAt (· < w0.heap.size) w0 A9 ((data.drop off).take n)) := Lib.hid (by
          refine ((HD.out.drop off).take n).addr fun hp => ?_
          rw [hall] at hp
          rw [hA9 (by omega), Nat.mul_one])
        obtain ⟨x, hx⟩ := sec_all hall
        rw [hx] at HC3
        generalize hal : (data.drop off).take n = all at *
        have HAL := Lib.hid hall
        clear hx hal hA9 hiq hsq hall
        go_wp2_with fail
        refine HC3.out.mono ?_
        rintro e w3 ⟨Aa, ca, rfl, hca, hra, hb3⟩
        have HB3 : Hid (Below w0.heap.size w0 w3) := Lib.hid (HBX.out.trans (hb3.mono HBX.out.size))
        obtain ⟨rb, ro, rfl, _, _, hc⟩ := hra.opsAt (by simp)
        obtain ⟨_, _, _, g0, _⟩ := hc 0 (by simp)
        obtain ⟨B1, d1, g1, _, _, _, by1⟩ := hc 1 (by simp)
        obtain ⟨B2, d2, g2, _, g3, _, by2⟩ := hc 2 (by simp)
        simp only [List.getD_cons_zero, List.getD_cons_succ, Nat.zero_mul, Nat.one_mul, Nat.add_zero, Nat.reduceMul] at g0 g1 g2 g3 by1 by2
        rw [HAL.out] at g1 g2
        have g3' : w3.cell? ⟨rb, ro + 8, none⟩ = some (.int .i64 1) := g3
        have hlb : all.length ≤ 281474976710656 := by rw [HAL.out]; omega
        have CA := Lib.hid (sameBytes_eq d1 (c0 - off) hlb by1 (HALL.out.below HB3.out))
        have CB := fun q => Lib.hid (sameBytes_eq d2 (c0 - off) hlb (by2.drewN q) ((HALL.out.below HB3.out).drewN q))
        rw [HAL.out] at CA CB
        clear hc hra hb3 HC3 by1 by2 HALL
        go_wp2_with fail
        refine CA.out.mono ?_
        rintro e w4 ⟨rfl, q4, rfl⟩
        go_wp2_with fail
        refine (CB q4).out.mono ?_
        rintro e w5 ⟨rfl, q5, rfl⟩
        go_wp2_with fail
        go_ret
        exact ⟨by first | rfl | simp, HBA.out.trans ((below_drewN HB3.out (q4 + q5)).mono HBA.out.size)⟩

end Go.Proofs.YtdlgknaipljhhaaDoor
