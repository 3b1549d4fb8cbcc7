/- FnSectionReads, walked: it returns true, and changes nothing that was there. -/
import Derived.Test.YtdlgknaipljhhaaDoorSecW
import Derived.Test.YtdlgknaipljhhaaDoorSSec
import Derived.Test.YtdlgknaipljhhaaDoorDrawSec
import Derived.Test.YtdlgknaipljhhaaDoorLaw
import Derived.Test.YtdlgknaipljhhaaDoorSecQ
import Derived.Test.YtdlgknaipljhhaaDoorEls2
import Derived.Deep.RegionHeld3
set_option linter.unusedVariables false
set_option linter.unusedSimpArgs false
namespace Go.Proofs.YtdlgknaipljhhaaDoor
open Go.RowKit

theorem bytes_lit (w : World) : BytesAt (fun j => w.heap.size ≤ j) (w.alloc (.cells #[.int .u8 7] 5)) (some ⟨w.heap.size, 0, none⟩) [7] := fun _ => by
  refine ⟨w.heap.size, 0, rfl, Nat.le_refl _, by simp, fun j hj => ?_⟩
  obtain rfl : j = 0 := by simpa using hj
  rw [(Blk.new w _ _).cell]
  rfl

theorem lit_section {B : Nat} {w : World} {E : Nat → Addr} (hE : Errs B w E) (hBw : B ≤ w.heap.size) :
    Calls Tryd.prog 10 #[.slice (some ⟨w.heap.size, 0, none⟩) 1 1, .int .i64 0, .int .i64 1, .slice (some ⟨w.heap.size + 1, 0, none⟩) 1 1]
      ((w.alloc (.cells #[.int .u8 7] 5)).alloc (.cells #[.int .i64 3, .int .i64 0, .int .i64 0] 26))
      fun e w' => ∃ A c, e = .returned (.slice A 1 c) ∧ Below w.heap.size w w' := by
  have hb : Below w.heap.size w ((w.alloc (.cells #[.int .u8 7] 5)).alloc (.cells #[.int .i64 3, .int .i64 0, .int .i64 0] 26)) := ((Below.refl _ _).alloc (Nat.le_refl _) _).alloc (by simp) _
  have ho := ops_new (w.alloc (.cells #[.int .u8 7] 5)) 26 [(3, 0, 0)] #[.int .i64 3, .int .i64 0, .int .i64 0] rfl
  simp only [World.size_alloc] at ho
  have C := implSection_any (data := [7]) (ops := [(3, 0, 0)]) (hE.below (hb.mono hBw)) (Nat.le_trans hBw hb.size) 1 1 0 1 ((bytes_lit w).alloc (.cells #[.int .i64 3, .int .i64 0, .int .i64 0] 26)) (by simp) (by simp) ho (fun op hop => by
    simp only [List.mem_cons, List.not_mem_nil, or_false] at hop
    subst hop
    exact .inr (.inr (.inr rfl))) (by simp)
  refine Calls.mono C ?_
  rintro e w' ⟨A, c, he, _, _, hb'⟩
  rw [opRuns_length] at he
  exact ⟨A, c, he, hb.trans (hb'.mono (by simp; omega))⟩

set_option maxHeartbeats 1000000 in
set_option maxRecDepth 100000 in
theorem sectionReads_walk {B : Nat} {S : Nat → Prop} {w : World} {E : Nat → Addr} (hE : Errs B w E) (hBw : B ≤ w.heap.size) {A : Option Addr} {l : List Int} (c : Nat) (h : BytesAt S w A l) (hb : ∀ j, 0 ≤ nth l j ∧ nth l j ≤ 255) :
    Calls Tryd.prog 3 #[.slice A l.length c] w (LawPost w) := by
  by_cases hl : 1048576 < l.length
  · have hl' : (1048576 : Int) < (l.length : Int) := by omega
    clear hE h hb
    go_enter Tryd.func3, Tryd.ntmps3
    go_wp2_with fail
    go_ret
    exact ⟨rfl, Below.refl _ _⟩
  · have hl' : ¬ (1048576 : Int) < (l.length : Int) := by omega
    have HE := Lib.hid hE
    have hBy := h.mono (S' := (· < w.heap.size)) fun k hk _ => hk
    have C0 := Lib.hid fun (w' : World) (hb' : Below w.heap.size w w') => drawSection_any c (hBy.below hb') (by omega) (fun j _ => hb j)
    have CL := Lib.hid (lit_section hE hBw)
    clear h hb hE hl hBy
    generalize l.length = len at *
    go_enter Tryd.func3, Tryd.ntmps3
    go_wp2_with fail
    refine CL.out.mono ?_
    rintro e wl ⟨AL, cL, rfl, hbL⟩
    have HBJ := Lib.hid hbL
    clear CL hbL
    go_wp2_with fail
    refine (C0.out wl HBJ.out).mono ?_
    rintro e w0 ⟨data, A0, c0, off, n, ops, A1, c1, rfl, hdl, hdc, hof, hnb, hopl, hD, hO, hbj0⟩
    have hb0 := HBJ.out.trans (hbj0.mono HBJ.out.size)
    clear hbj0 C0 HBJ
    have hsz0 := hb0.size
    have HD := Lib.hid (hD.mono (S' := (· < w0.heap.size)) fun k hk _ => hk)
    have HO := Lib.hid (hO.mono mvP (S' := (· < w0.heap.size)) fun k hk _ => hk)
    have HEa := Lib.hid (HE.out.below (hb0.mono hBw))
    have hBa : B ≤ w0.heap.size := Nat.le_trans hBw hsz0
    have C1 := Lib.hid (validSection_any (w := w0) A0 data.length c0 (by omega) off n)
    have HBA := Lib.hid hb0
    have HB0 : Hid (Below w0.heap.size w0 w0) := Lib.hid (Below.refl _ _)
    clear HE hD hO hb0
    go_wp2_with fail
    refine (C1.out).mono ?_
    rintro e w1 ⟨v, rfl, hv, hb1⟩
    have HB1 := Lib.hid (HB0.out.trans (hb1.mono HB0.out.size))
    have hsz1 := hb1.size
    have HV := Lib.hid hv
    clear hb1 hv C1
    cases v with
    | false =>
      clear HV
      go_wp2_with fail
      go_ret
      exact ⟨by first | rfl | simp, HBA.out.trans (HB1.out.mono HBA.out.size)⟩
    | true =>
      have hvv := HV.out rfl
      clear HV
      obtain ⟨off, rfl⟩ : ∃ o : Nat, off = (o : Int) := ⟨off.toNat, by omega⟩
      obtain ⟨n, rfl⟩ : ∃ o : Nat, n = (o : Int) := ⟨n.toNat, by omega⟩
      have hn : off + n ≤ data.length := by omega
      clear hvv
      have C2 := Lib.hid (validOps_any c1 (by omega) (HO.out.below mvP HB1.out))
      go_wp2_with fail
      refine (C2.out).mono ?_
      rintro e w2 ⟨v2, rfl, hv2, hb2⟩
      have HB2 := Lib.hid (HB1.out.trans (hb2.mono HB1.out.size))
      have hsz2 := hb2.size
      have HV2 := Lib.hid hv2
      clear hb2 hv2 C2
      cases v2 with
      | false =>
        clear HV2
        go_wp2_with fail
        go_ret
        exact ⟨by first | rfl | simp, HBA.out.trans (HB2.out.mono HBA.out.size)⟩
      | true =>
        have HOK := Lib.hid (HV2.out rfl)
        clear HV2
        have hnb2 : n ≤ 1402 := by omega
        have hofb : off ≤ 1400 := by omega
        have hall : ((data.drop off).take n).length = n := by simp; omega
        obtain ⟨i2, hi2, hx0, hx1, hx2⟩ := info_parts infoOpA
        obtain ⟨i0, hi0, hz0, hz1, hz2⟩ := info_parts infoU8
        generalize hlen : ops.length = len at *
        have HL := Lib.hid hlen
        clear hlen
        have hs2 := HB2.out.size
        go_wp2_with fail
        go_loopg [8, 9] len (fun f v i wr => ∃ (k m : Nat) (A' : Option Addr) (c' : Nat), k ≤ len ∧ f = len - k ∧ i = .int .i64 k ∧ v = .slice A' m c' ∧ m ≤ k ∧ ∃ xs, Hid (RowT ElP 3 26 (w2.heap.size + 1) (fun _ => False) wr A' m c' ((ops.take k).filter fun x => x.1 == 0) xs) ∧ Hid (Below (w2.heap.size + 1) (w2.alloc (.cells #[] 5)) wr))
        case atStart =>
          refine ⟨0, 0, _, 0, Nat.zero_le _, by omega, rfl, rfl, Nat.le_refl _, [], Lib.hid ?_, Lib.hid ((Below.refl _ _).alloc (by simp) _)⟩
          have := RowT.empty ElP 3 (fun _ => False) 26 (w2.alloc (.cells #[] 5)) (w2.heap.size + 1) (by simp)
          simpa using this
        case round =>
          obtain ⟨k, m, A', c', hk, rfl, rfl, rfl, hmk, xs, HRW, HBR⟩ := hrel
          have hszr := HBR.out.size
          simp at hszr
          have HBW : Hid (Below w0.heap.size w0 wr) := Lib.hid ((HB2.out.alloc hs2 _).trans (HBR.out.mono (by omega)))
          by_cases hlt : k < len
          · obtain ⟨ab, aoff, rfl, _, hab, hcs⟩ := (HO.out.below mvP HBW.out).opAt (by rw [HL.out]; omega)
            obtain ⟨o1, o2, o3⟩ := hcs k (by rw [HL.out]; omega)
            have htk : ops.take (k + 1) = ops.take k ++ [ops.getD k (0, 0, 0)] := by
              rw [List.take_succ_eq_append_getElem (by rw [HL.out]; exact hlt)]
              simp [HL.out, hlt]
            generalize hop : ops.getD k (0, 0, 0) = op at *
            obtain ⟨kd, a, b⟩ := op
            simp only at o1 o2 o3
            have HTK := Lib.hid htk
            clear hcs hop htk
            by_cases h0 : kd = 0
            · subst h0
              have HFT : Hid ((ops.take (k + 1)).filter (fun x => x.1 == 0) = (ops.take k).filter (fun x => x.1 == 0) ++ [(0, a, b)]) := Lib.hid (by rw [HTK.out, List.filter_append]; rfl)
              go_wp2_with (at_builtin; refine wpList_append_gen _ rfl (.tmp 52) (.tmp 57) 27 rfl (w2.heap.size + 1) 26 i2 _ 3 24 Tryd.underlying27 hi2 hx0 hx1 hx2 rfl (by omega) _ m xs rfl (HRW.out.own.alloc _) (some ⟨wr.heap.size, 0, none⟩) 1 1 [.int .i64 0, .int .i64 a, .int .i64 b] rfl (by rfl) ((Blk.new wr 26 #[.int .i64 0, .int .i64 a, .int .i64 b]).news 1) (by simp [Value.oneCell']) (by unfold maxLen; omega) (by omega) (by simp; omega) ?_)
              intro A2 c2 w4 hap
              have HR2 := Lib.hid (HRW.out.snoc mvP (x := ((0 : Int), a, b)) ((Kept.refl (fun _ => False) wr).alloc _) hap (fun j hf => hf.elim) rfl rfl)
              have HB4 : Hid (Below (w2.heap.size + 1) (w2.alloc (.cells #[] 5)) w4) := Lib.hid ((HBR.out.alloc (by omega) _).grown hap.grown (by simp; omega) fun j e => (own_block_lt HRW.out.own e).1)
              rw [← HFT.out] at HR2
              clear hap
              go_wp2_with fail
              go_roundg (len - (k + 1))
              case measure => omega
              case rel => exact ⟨k + 1, m + 1, A2, c2, by omega, rfl, by go_num, rfl, by omega, _, HR2, HB4⟩
            · have e0 : (kd == 0) = false := by simp [h0]
              have HFT : Hid ((ops.take (k + 1)).filter (fun x => x.1 == 0) = (ops.take k).filter (fun x => x.1 == 0)) := Lib.hid (by rw [HTK.out, List.filter_append]; simp [h0])
              rw [← HFT.out] at HRW
              clear h0
              go_wp2_with fail
              go_roundg (len - (k + 1))
              case measure => omega
              case rel => exact ⟨k + 1, m, A', c', by omega, rfl, by go_num, rfl, by omega, _, HRW, HBR⟩
          · have hkl : ops.take k = ops := List.take_of_length_le (by have := HL.out; omega)
            rw [hkl] at HRW
            have hkind : ∀ op ∈ ops.filter (fun x => x.1 == 0), op.1 = 0 := fun op hop => by simpa using (List.mem_filter.1 hop).2
            have hokr : ∀ op ∈ ops.filter (fun x => x.1 == 0), OpOK op := fun op hop => HOK.out.1 op (List.mem_filter.1 hop).1
            have hml := HRW.out.len
            have HC3 := Lib.hid (implSection_any (ops := ops.filter fun x => x.1 == 0) (HEa.out.below (HBW.out.mono hBa)) (Nat.le_trans hBa HBW.out.size) c0 c' off n (HD.out.below HBW.out) hn (by omega) (HRW.out.els mvP) hokr (by omega))
            obtain ⟨hpr, hle⟩ := reads_prefix (all := (data.drop off).take n) hkind
            have HRS := Lib.hid fun x hx => opRuns_small (all := (data.drop off).take n) (pos := 0) hokr x hx
            have hRl := opRuns_length ((data.drop off).take n) (ops.filter fun x => x.1 == 0) 0
            rw [hml] at HC3 hRl
            rw [hall] at hle
            generalize opRuns ((data.drop off).take n) (ops.filter fun x => x.1 == 0) 0 = R at *
            rw [List.take_take, Nat.min_eq_left hle] at hpr
            have HPR := Lib.hid hpr
            have HRL := Lib.hid hRl
            have HOA : Hid (wr.ownsRow w2.heap.size 5 1 (.slice (some ⟨w2.heap.size, 0, none⟩) 0 0) 0 (bytesV [])) := Lib.hid (own_kept (own_empty w2 w2.heap.size 5 1 (Nat.le_refl _)) (D := fun j => w2.heap.size + 1 ≤ j ∧ j < (w2.alloc (.cells #[] 5)).heap.size) ⟨HBR.out.os, HBR.out.tape, HBR.out.output, HBR.out.size, fun j hj hn => HBR.out.block j (by simp at hj; omega)⟩ fun g hg hlt hD => by simp at hlt; omega)
            have hnl : ¬ k < len := hlt
            clear hkl hkind hokr hml hpr hall
            go_wp2_with fail
            refine HC3.out.mono ?_
            rintro e w4 ⟨Aa, ca, rfl, hca, hra, hb4⟩
            have hs4 := hb4.size
            rw [HRL.out]
            have HRA := Lib.hid (hra.mono mvO (S' := fun j => wr.heap.size ≤ j ∧ j < w4.heap.size) fun j hj h => ⟨h, hj⟩)
            have HB4 : Hid (Below w0.heap.size w0 w4) := Lib.hid (HBW.out.trans (hb4.mono HBW.out.size))
            have HO4 := Lib.hid (own_kept HOA.out (D := fun _ => False) ⟨hb4.os, hb4.tape, hb4.output, hb4.size, fun j hj _ => hb4.block j hj⟩ fun _ _ _ hf => hf)
            clear hra hb4 HC3 HOA HRW
            go_wp2_with fail
            go_loopg [7, 11] m (fun f v i wx => ∃ (k q : Nat) (A3 : Option Addr) (c3 : Nat), k ≤ m ∧ f = m - k ∧ i = .int .i64 k ∧ v = .slice A3 q c3 ∧ Hid (q = (joinO (R.take k)).length) ∧ Hid (wx.ownsRow w2.heap.size 5 1 (.slice A3 q c3) q (bytesV (joinO (R.take k)))) ∧ Hid (Kept (· = w2.heap.size) w4 wx) ∧ Hid (∀ j, (Value.slice A3 q c3).ownBlock = some j → j = w2.heap.size ∨ w4.heap.size ≤ j))
            case atStart => exact ⟨0, 0, _, 0, Nat.zero_le _, by omega, rfl, rfl, Lib.hid (by simp [joinO]), Lib.hid (by simpa [joinO] using HO4.out), Lib.hid (Kept.refl _ _), Lib.hid fun j e => .inl (by injection e with e; exact e.symm)⟩
            case round =>
              obtain ⟨k, q, A3, c3, hk, rfl, rfl, rfl, HQ, HOW, HKX, HOB⟩ := hrel
              have hszx := HKX.out.size
              by_cases hlt : k < m
              · obtain ⟨rb, ro, rfl, _, _, hc⟩ := (HRA.out.kept mvO HKX.out fun j _ hj e => by omega).opsAt (by rw [HRL.out]; omega)
                obtain ⟨Ai, ci, g1, _, _, _, by1⟩ := hc k (by rw [HRL.out]; exact hlt)
                have hstep := joinO_take (l := R) (k := k) (by rw [HRL.out]; exact hlt)
                have hle2 := joinO_take_le R (k + 1)
                have HG := Lib.hid by1
                clear hc by1
                have hqb : q + (R.getD k ([], 0, 0)).1.length ≤ 1402 := by
                  have := HQ.out
                  rw [hstep, List.length_append] at hle2
                  omega
                have HS := Lib.hid hstep
                clear hstep hle2
                generalize (R.getD k ([], 0, 0)).1 = d at *
                go_wp2_with (at_builtin; refine wpList_append_gen _ rfl (.tmp 70) (.tmp 75) 22 rfl w2.heap.size 5 i0 _ 1 1 Tryd.underlying22 hi0 hz0 hz1 hz2 rfl (by omega) _ q _ rfl HOW.out Ai d.length ci (bytesV d) rfl (by rw [bytesV_length]; omega) HG.out.news (bytesV_one d) (by unfold maxLen; omega) (by omega) (by omega) ?_)
                intro A5 c5 w5 hap
                have HO5 := Lib.hid hap.own
                have HK5 : Hid (Kept (· = w2.heap.size) w4 w5) := Lib.hid (HKX.out.trans hap.kept fun j hj e => by
                  rcases HOB.out j e.symm with h | h
                  · exact h
                  · omega)
                have HB5 : Hid (∀ j, (Value.slice A5 (q + d.length) c5).ownBlock = some j → j = w2.heap.size ∨ w4.heap.size ≤ j) := Lib.hid fun j e => by
                  rcases hap.2.2 with h | h
                  · exact HOB.out j (by rw [← h, e])
                  · rw [e] at h; injection h with h; exact .inr (by omega)
                clear hap
                go_wp2_with fail
                go_roundg (m - (k + 1))
                case measure => omega
                case rel =>
                  refine ⟨k + 1, q + d.length, A5, c5, by omega, rfl, by go_num, rfl, Lib.hid ?_, Lib.hid ?_, HK5, HB5⟩
                  · rw [HS.out, List.length_append, ← HQ.out]
                  · rw [HS.out, bytesV_append]; exact HO5.out
              · have hkm : R.take k = R := List.take_of_length_le (by have := HRL.out; omega)
                rw [hkm] at HQ HOW
                have hq := HQ.out
                obtain ⟨iq, hiq, _, hsq, _⟩ := info_parts infoU8
                obtain ⟨A9, hsl, hA9⟩ := slice_mid (P := Tryd.prog) 22 (by rw [elemU8]; exact Tryd.underlying22) iq 1 (by rw [elemU8]; exact hiq) hsq A0 data.length c0 off q (by omega)
                have hbx : Below w0.heap.size w0 wr := HB4.out.trans (HKX.out.below HB4.out.size fun j hj e => by omega)
                have HALL : Hid (BytesAt (· < w0.heap.size) wr A9 (joinO R)) := Lib.hid (by
                  have hpr := HPR.out
                  rw [← hq] at hpr
                  rw [hpr]
                  refine ((((HD.out.below hbx).drop off).take q).addr fun hp => ?_)
                  rw [List.length_take, List.length_drop] at hp
                  rw [hA9 (by omega), Nat.mul_one])
                have HBX := Lib.hid hbx
                have CA := Lib.hid (sameBytes_eq c3 (c0 - off) (show (joinO R).length ≤ 281474976710656 by omega) (own_bytes HOW.out) HALL.out)
                rw [← hq] at CA
                have hqn : (q : Int) ≤ (n : Int) := by omega
                have hqb : q ≤ 1402 := by omega
                have hcq : off + q ≤ c0 := by omega
                clear hkm hq hA9 hbx HALL HQ HOW
                go_wp2_with fail
                refine CA.out.mono ?_
                rintro e w6 ⟨rfl, q6, rfl⟩
                go_wp2_with fail
                go_ret
                exact ⟨by first | rfl | simp, HBA.out.trans ((below_drewN HBX.out q6).mono HBA.out.size)⟩

end Go.Proofs.YtdlgknaipljhhaaDoor
