/- FnSectionSeek, walked: it returns true, and changes nothing that was there. -/
import Derived.Test.YtdlgknaipljhhaaDoorSecW
import Derived.Test.YtdlgknaipljhhaaDoorSSec
import Derived.Test.YtdlgknaipljhhaaDoorDrawSec
import Derived.Test.YtdlgknaipljhhaaDoorLaw
import Derived.Test.YtdlgknaipljhhaaDoorSecQ
import Derived.Deep.RegionHeld3
set_option linter.unusedVariables false
set_option linter.unusedSimpArgs false
namespace Go.Proofs.YtdlgknaipljhhaaDoor
open Go.RowKit

set_option maxHeartbeats 1000000 in
set_option maxRecDepth 100000 in
theorem sectionSeek_walk {B : Nat} {S : Nat → Prop} {w : World} {E : Nat → Addr} (hE : Errs B w E) (hBw : B ≤ w.heap.size) {A : Option Addr} {l : List Int} (c : Nat) (h : BytesAt S w A l) (hb : ∀ j, 0 ≤ nth l j ∧ nth l j ≤ 255) :
    Calls Tryd.prog 4 #[.slice A l.length c] w (LawPost w) := by
  by_cases hl : 1048576 < l.length
  · have hl' : (1048576 : Int) < (l.length : Int) := by omega
    clear hE h hb
    go_enter Tryd.func4, Tryd.ntmps4
    go_wp2_with fail
    go_ret
    exact ⟨rfl, Below.refl _ _⟩
  · have hl' : ¬ (1048576 : Int) < (l.length : Int) := by omega
    have C0 := Lib.hid (drawSection_any c h (by omega) (fun j _ => hb j))
    have HE := Lib.hid hE
    clear h hb hE hl
    generalize l.length = len at *
    go_enter Tryd.func4, Tryd.ntmps4
    go_wp2_with fail
    refine C0.out.mono ?_
    rintro e w0 ⟨data, A0, c0, off, n, ops, A1, c1, rfl, hdl, hdc, hof, hnb, hopl, hD, hO, hb0⟩
    clear C0
    have hsz0 := hb0.size
    have HD := Lib.hid (hD.mono (S' := (· < w0.heap.size)) fun k hk _ => hk)
    have HO := Lib.hid (hO.mono mvP (S' := (· < w0.heap.size)) fun k hk _ => hk)
    have HEa := Lib.hid (HE.out.below (hb0.mono hBw))
    have hBa : B ≤ w0.heap.size := Nat.le_trans hBw hsz0
    have C1 := Lib.hid (validSection_any (w := w0) A0 data.length c0 (by omega) off n)
    have HBA := Lib.hid hb0
    have HB0 : Hid (Below w0.heap.size w0 w0) := Lib.hid (Below.refl _ _)
    clear HE hD hO hb0
    go_wp2_with fail
    refine (C1.out).mono ?_
    rintro e w1 ⟨v, rfl, hv, hb1⟩
    have HB1 := Lib.hid (HB0.out.trans (hb1.mono HB0.out.size))
    have hsz1 := hb1.size
    have HV := Lib.hid hv
    clear hb1 hv C1
    cases v with
    | false =>
      clear HV
      go_wp2_with fail
      go_ret
      exact ⟨by first | rfl | simp, HBA.out.trans (HB1.out.mono HBA.out.size)⟩
    | true =>
      have hvv := HV.out rfl
      clear HV
      obtain ⟨off, rfl⟩ : ∃ o : Nat, off = (o : Int) := ⟨off.toNat, by omega⟩
      obtain ⟨n, rfl⟩ : ∃ o : Nat, n = (o : Int) := ⟨n.toNat, by omega⟩
      have hn : off + n ≤ data.length := by omega
      clear hvv
      have C2 := Lib.hid (validOps_any c1 (by omega) (HO.out.below mvP HB1.out))
      go_wp2_with fail
      refine (C2.out).mono ?_
      rintro e w2 ⟨v2, rfl, hv2, hb2⟩
      have HB2 := Lib.hid (HB1.out.trans (hb2.mono HB1.out.size))
      have hsz2 := hb2.size
      have HV2 := Lib.hid hv2
      clear hb2 hv2 C2
      cases v2 with
      | false =>
        clear HV2
        go_wp2_with fail
        go_ret
        exact ⟨by first | rfl | simp, HBA.out.trans (HB2.out.mono HBA.out.size)⟩
      | true =>
        have HOK := Lib.hid (HV2.out rfl)
        clear HV2
        have hnb2 : n ≤ 1402 := by omega
        have hofb : off ≤ 1400 := by omega
        have hall : ((data.drop off).take n).length = n := by simp; omega
        clear HOK HO
        obtain ⟨all, hal⟩ : ∃ all, all = (data.drop off).take n := ⟨_, rfl⟩
        rw [← hal] at hall
        have HAL := Lib.hid hal
        have HLL := Lib.hid hall
        clear hal hall
        go_wp2_with fail
        go_loopg [7] (n + 1) (fun f i wr => ∃ k : Nat, k ≤ n + 1 ∧ f = n + 1 - k ∧ i = .int .i64 k ∧ Hid (Below w0.heap.size w0 wr))
        case atStart => exact ⟨0, by omega, by omega, rfl, HB2⟩
        case round =>
          obtain ⟨k, hk, rfl, rfl, HBW⟩ := hrel
          by_cases hkn : k ≤ n
          · by_cases hk50 : k < 50
            · have hkn' : (k : Int) ≤ (n : Int) := by omega
              have hk50' : (k : Int) < 50 := by omega
              have hall : ((data.drop off).take n).length = n := by simp; omega
              have HBX : Hid (Below w0.heap.size w0 (wr.alloc (.cells #[.int .i64 2, .int .i64 (k : Int), .int .i64 0, .int .i64 0, .int .i64 5, .int .i64 0, .int .i64 2, .int .i64 ((k : Int) - (n : Int)), .int .i64 2, .int .i64 2, .int .i64 0, .int .i64 1] 26))) := Lib.hid (HBW.out.alloc HBW.out.size _)
              have HC3 := Lib.hid (implSection_any (ops := [(2, (k : Int), 0), (0, 5, 0), (2, (k : Int) - (n : Int), 2), (2, 0, 1)]) (HEa.out.below (HBX.out.mono hBa)) (Nat.le_trans hBa HBX.out.size) c0 4 off n (HD.out.below HBX.out) hn (by omega) (ops_new wr 26 [(2, (k : Int), 0), (0, 5, 0), (2, (k : Int) - (n : Int), 2), (2, 0, 1)] #[.int .i64 2, .int .i64 (k : Int), .int .i64 0, .int .i64 0, .int .i64 5, .int .i64 0, .int .i64 2, .int .i64 ((k : Int) - (n : Int)), .int .i64 2, .int .i64 2, .int .i64 0, .int .i64 1] rfl) (by
                intro op hop
                simp only [List.mem_cons, List.not_mem_nil, or_false] at hop
                rcases hop with rfl | rfl | rfl | rfl
                · exact .inr (.inr (.inl ⟨rfl, by simp only; omega, by simp only; omega⟩))
                · exact .inl ⟨rfl, by simp only; omega, by simp only; omega⟩
                · exact .inr (.inr (.inl ⟨rfl, by simp only; omega, by simp only; omega⟩))
                · exact .inr (.inr (.inl ⟨rfl, by simp only; omega, by simp only; omega⟩))) (by simp))
              obtain ⟨iq, hiq, _, hsq, _⟩ := info_parts infoU8
              obtain ⟨m, hm⟩ : ∃ m, m = min 5 (n - k) := ⟨_, rfl⟩
              obtain ⟨A9, hsl, hA9⟩ := slice_mid (P := Tryd.prog) 22 (by rw [elemU8]; exact Tryd.underlying22) iq 1 (by rw [elemU8]; exact hiq) hsq A0 data.length c0 (off + k) m (by omega)
              have hpe : partOf all k 5 = (data.drop (off + k)).take m := by rw [HAL.out, part_eq, hm]
              have hpl : (partOf all k 5).length = m := by rw [partOf_len, HLL.out, hm]
              have HALL : Hid (BytesAt (· < w0.heap.size) w0 A9 (partOf all k 5)) := Lib.hid (by
                refine BytesAt.addr (A := A0.map (·.add (off + k))) ?_ fun hp => ?_
                · rw [hpe]; exact (HD.out.drop (off + k)).take m
                · rw [hA9 (by omega), Nat.mul_one])
              obtain ⟨x, y, hx⟩ := sec_seekR (k := k) HLL.out hkn
              rw [← HAL.out, hx] at HC3
              generalize partOf all k 5 = part at *
              have HPL := Lib.hid hpl
              have hadd : (off : Int) + (k : Int) = ((off + k : Nat) : Int) := by omega
              have hmin : (if (n : Int) < (k : Int) + 5 then (n : Int) else (k : Int) + 5) = (k : Int) + (m : Int) := by split <;> omega
              have hmin2 : (off : Int) + ((k : Int) + (m : Int)) = ((off + k : Nat) : Int) + (m : Int) := by omega
              have hmb : m ≤ 5 := by omega
              have hcp : off + k + m ≤ c0 := by omega
              clear hx hA9 hiq hsq hall hpe hpl hm
              generalize off + k = ok at *
              go_wp2_with fail
              refine HC3.out.mono ?_
              rintro e w3 ⟨Aa, ca, rfl, hca, hra, hb3⟩
              have HB3 : Hid (Below w0.heap.size w0 w3) := Lib.hid (HBX.out.trans (hb3.mono HBX.out.size))
              obtain ⟨rb, ro, rfl, _, _, hc⟩ := hra.opsAt (by simp)
              obtain ⟨_, _, _, g0, g1, _⟩ := hc 0 (by simp)
              obtain ⟨B1, d1, g2, _, _, _, by1⟩ := hc 1 (by simp)
              obtain ⟨_, _, _, g3, _⟩ := hc 2 (by simp)
              obtain ⟨_, _, _, g4, _⟩ := hc 3 (by simp)
              simp only [List.getD_cons_zero, List.getD_cons_succ, Nat.zero_mul, Nat.one_mul, Nat.add_zero, Nat.reduceMul] at g0 g1 g2 g3 g4 by1
              rw [HPL.out] at g2
              have g3' : w3.cell? ⟨rb, ro + 7, none⟩ = some (.int .i64 (k : Int)) := g3
              have g4' : w3.cell? ⟨rb, ro + 10, none⟩ = some (.int .i64 (k : Int)) := g4
              have hlb : part.length ≤ 281474976710656 := by rw [HPL.out]; omega
              have CA := Lib.hid fun q => sameBytes_eq d1 (c0 - ok) hlb (by1.drewN q) ((HALL.out.below HB3.out).drewN q)
              rw [HPL.out] at CA
              clear hc hra hb3 HC3 by1 HALL HBX
              go_wp2_with fail
              go_quiet (first | (go_at_call 14; exact Calls.quiet_of (CA.out _)))
              go_wp2_with fail
              go_roundg (n + 1 - (k + 1))
              case measure => omega
              case rel => exact ⟨k + 1, by omega, rfl, by go_num, Lib.hid (below_drewN HB3.out _)⟩
            · have hkn' : (k : Int) ≤ (n : Int) := by omega
              have hk50' : ¬ (k : Int) < 50 := by omega
              go_wp2_with fail
              go_ret
              exact ⟨by first | rfl | simp, HBA.out.trans (HBW.out.mono HBA.out.size)⟩
          · have hkn' : ¬ (k : Int) ≤ (n : Int) := by omega
            go_wp2_with fail
            go_ret
            exact ⟨by first | rfl | simp, HBA.out.trans (HBW.out.mono HBA.out.size)⟩

end Go.Proofs.YtdlgknaipljhhaaDoor
