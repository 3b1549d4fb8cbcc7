/- FnSectionStays, walked: it returns true, and changes nothing that was there. -/
import Derived.Test.YtdlgknaipljhhaaDoorSecW
import Derived.Test.YtdlgknaipljhhaaDoorSSec
import Derived.Test.YtdlgknaipljhhaaDoorDrawSec
import Derived.Test.YtdlgknaipljhhaaDoorLaw
import Derived.Test.YtdlgknaipljhhaaDoorSecQ
import Derived.Test.YtdlgknaipljhhaaDoorEls2
import Derived.Deep.RegionHeld3
set_option linter.unusedVariables false
set_option linter.unusedSimpArgs false
namespace Go.Proofs.YtdlgknaipljhhaaDoor
open Go.RowKit

set_option maxHeartbeats 1000000 in
set_option maxRecDepth 100000 in
theorem sectionStays_walk {B : Nat} {S : Nat → Prop} {w : World} {E : Nat → Addr} (hE : Errs B w E) (hBw : B ≤ w.heap.size) {A : Option Addr} {l : List Int} (c : Nat) (h : BytesAt S w A l) (hb : ∀ j, 0 ≤ nth l j ∧ nth l j ≤ 255) :
    Calls Tryd.prog 5 #[.slice A l.length c] w (LawPost w) := by
  by_cases hl : 1048576 < l.length
  · have hl' : (1048576 : Int) < (l.length : Int) := by omega
    clear hE h hb
    go_enter Tryd.func5, Tryd.ntmps5
    go_wp2_with fail
    go_ret
    exact ⟨rfl, Below.refl _ _⟩
  · have hl' : ¬ (1048576 : Int) < (l.length : Int) := by omega
    have C0 := Lib.hid (drawSection_any c h (by omega) (fun j _ => hb j))
    have HE := Lib.hid hE
    clear h hb hE hl
    generalize l.length = len at *
    go_enter Tryd.func5, Tryd.ntmps5
    go_wp2_with fail
    refine C0.out.mono ?_
    rintro e w0 ⟨data, A0, c0, off, n, ops, A1, c1, rfl, hdl, hdc, hof, hnb, hopl, hD, hO, hb0⟩
    clear C0
    have hsz0 := hb0.size
    have HD := Lib.hid (hD.mono (S' := (· < w0.heap.size)) fun k hk _ => hk)
    have HO := Lib.hid (hO.mono mvP (S' := (· < w0.heap.size)) fun k hk _ => hk)
    have HEa := Lib.hid (HE.out.below (hb0.mono hBw))
    have hBa : B ≤ w0.heap.size := Nat.le_trans hBw hsz0
    have C1 := Lib.hid (validSection_any (w := w0) A0 data.length c0 (by omega) off n)
    have HBA := Lib.hid hb0
    have HB0 : Hid (Below w0.heap.size w0 w0) := Lib.hid (Below.refl _ _)
    clear HE hD hO hb0
    go_wp2_with fail
    refine (C1.out).mono ?_
    rintro e w1 ⟨v, rfl, hv, hb1⟩
    have HB1 := Lib.hid (HB0.out.trans (hb1.mono HB0.out.size))
    have hsz1 := hb1.size
    have HV := Lib.hid hv
    clear hb1 hv C1
    cases v with
    | false =>
      clear HV
      go_wp2_with fail
      go_ret
      exact ⟨by first | rfl | simp, HBA.out.trans (HB1.out.mono HBA.out.size)⟩
    | true =>
      have hvv := HV.out rfl
      clear HV
      obtain ⟨off, rfl⟩ : ∃ o : Nat, off = (o : Int) := ⟨off.toNat, by omega⟩
      obtain ⟨n, rfl⟩ : ∃ o : Nat, n = (o : Int) := ⟨n.toNat, by omega⟩
      have hn : off + n ≤ data.length := by omega
      clear hvv
      have C2 := Lib.hid (validOps_any c1 (by omega) (HO.out.below mvP HB1.out))
      go_wp2_with fail
      refine (C2.out).mono ?_
      rintro e w2 ⟨v2, rfl, hv2, hb2⟩
      have HB2 := Lib.hid (HB1.out.trans (hb2.mono HB1.out.size))
      have hsz2 := hb2.size
      have HV2 := Lib.hid hv2
      clear hb2 hv2 C2
      cases v2 with
      | false =>
        clear HV2
        go_wp2_with fail
        go_ret
        exact ⟨by first | rfl | simp, HBA.out.trans (HB2.out.mono HBA.out.size)⟩
      | true =>
        have HOK := Lib.hid (HV2.out rfl)
        clear HV2
        have hnb2 : n ≤ 1402 := by omega
        have hofb : off ≤ 1400 := by omega
        obtain ⟨i2, hi2, hx0, hx1, hx2⟩ := info_parts infoOpA
        obtain ⟨i1, hi1, hy0, hy1, hy2⟩ := info_parts infoOp
        have hs2 := HB2.out.size
        have HBX : Hid (Below w0.heap.size w0 ((w2.alloc (.cells #[] 26)).alloc (.cells #[] 33))) := Lib.hid ((HB2.out.alloc hs2 _).alloc (by simp; omega) _)
        have HC3 := Lib.hid (implSection_any (HEa.out.below (HBX.out.mono hBa)) (Nat.le_trans hBa HBX.out.size) c0 c1 off n (HD.out.below HBX.out) hn (by omega) (HO.out.below mvP HBX.out) HOK.out.1 HOK.out.2)
        have HST := Lib.hid (stays ((data.drop off).take n) ops 0)
        have HRS := Lib.hid fun x hx => Nat.le_trans (opRuns_small (all := (data.drop off).take n) (pos := 0) HOK.out.1 x hx) (show 1048576 ≤ 281474976710656 by omega)
        have hRl := opRuns_length ((data.drop off).take n) ops 0
        generalize hR : opRuns ((data.drop off).take n) ops 0 = R at *
        generalize hlen : ops.length = len at *
        have HL := Lib.hid hlen
        have HRL := Lib.hid hRl
        clear hlen hRl hR
        go_wp2_with fail
        refine HC3.out.mono ?_
        rintro e w4 ⟨Aa, ca, rfl, hca, hra, hb4⟩
        have hs4 := hb4.size
        simp at hs4
        rw [HRL.out]
        have HRA := Lib.hid (hra.mono mvO (S' := fun j => w2.heap.size + 2 ≤ j ∧ j < w4.heap.size) fun j hj h => ⟨by simpa using h, hj⟩)
        have HB4 : Hid (Below w0.heap.size w0 w4) := Lib.hid (HBX.out.trans (hb4.mono HBX.out.size))
        have HF0 : Hid (RowT ElP 3 26 w2.heap.size (fun _ => False) w4 (some ⟨w2.heap.size, 0, none⟩) 0 0 [] []) := Lib.hid (((RowT.empty ElP 3 (fun _ => False) 26 w2 w2.heap.size (Nat.le_refl _)).kept mvP (D := fun _ => False) ((Kept.refl _ _).alloc _) (fun _ _ hf => hf) (fun _ _ hf => hf)).kept mvP (D := fun _ => False) ⟨hb4.os, hb4.tape, hb4.output, hb4.size, fun j hj _ => hb4.block j hj⟩ (fun _ _ hf => hf) (fun _ _ hf => hf))
        have HW0 : Hid (RowT ElO 3 33 w2.heap.size (fun j => w2.heap.size + 2 ≤ j ∧ j < w4.heap.size) w4 (some ⟨w2.heap.size + 1, 0, none⟩) 0 0 [] []) := Lib.hid (by
          have := (RowT.empty ElO 3 (fun j => w2.heap.size + 2 ≤ j ∧ j < w4.heap.size) 33 (w2.alloc (.cells #[] 26)) w2.heap.size (by simp)).kept mvO (D := fun _ => False) ⟨hb4.os, hb4.tape, hb4.output, hb4.size, fun j hj _ => hb4.block j hj⟩ (fun _ _ hf => hf) (fun _ _ hf => hf)
          simpa using this)
        clear hra hb4 HC3
        go_wp2_with fail
        go_loopg [7, 8, 10] len (fun f v y i wx => ∃ (k m : Nat) (A3 : Option Addr) (c3 : Nat) (A4 : Option Addr) (c4 : Nat) (xs ys : List Value), k ≤ len ∧ f = len - k ∧ i = .int .i64 k ∧ v = .slice A3 m c3 ∧ y = .slice A4 m c4 ∧ m ≤ k ∧
          Hid (RowT ElP 3 26 w2.heap.size (fun _ => False) wx A3 m c3 ((((ops.zip R).take k).filter fun x => moves x.1).map (·.1)) xs) ∧ Hid (RowT ElO 3 33 w2.heap.size (fun j => w2.heap.size + 2 ≤ j ∧ j < w4.heap.size) wx A4 m c4 ((((ops.zip R).take k).filter fun x => moves x.1).map (·.2)) ys) ∧
          Hid (Kept (fun j => j = w2.heap.size ∨ j = w2.heap.size + 1) w4 wx) ∧ Hid (∀ j, (Value.slice A3 m c3).ownBlock = some j → j = w2.heap.size ∨ w4.heap.size ≤ j) ∧ Hid (∀ j, (Value.slice A4 m c4).ownBlock = some j → j = w2.heap.size + 1 ∨ w4.heap.size ≤ j) ∧ Hid (∀ j, (Value.slice A3 m c3).ownBlock = some j → (Value.slice A4 m c4).ownBlock ≠ some j))
        case atStart => exact ⟨0, 0, _, 0, _, 0, [], [], Nat.zero_le _, by omega, rfl, rfl, rfl, Nat.le_refl _, Lib.hid (by simpa using HF0.out), Lib.hid (by simpa using HW0.out), Lib.hid (Kept.refl _ _), Lib.hid fun j e => .inl (by injection e with e; exact e.symm), Lib.hid fun j e => .inl (by injection e with e; exact e.symm), Lib.hid fun j e e' => by injection e with e; injection e' with e'; have h1 : w2.heap.size = j := e; have h2 : w2.heap.size + 1 = j := e'; omega⟩
        case round =>
          obtain ⟨k, m, A3, c3, A4, c4, xs, ys, hk, rfl, rfl, rfl, rfl, hmk, HFW, HWN, HKX, HO3, HO4, HNE⟩ := hrel
          have hszx := HKX.out.size
          have HBW : Hid (Below w0.heap.size w0 wr) := Lib.hid (HB4.out.trans (HKX.out.below HB4.out.size fun j hj e => by omega))
          by_cases hlt : k < len
          · obtain ⟨ab, aoff, rfl, _, hab, hcs⟩ := (HO.out.below mvP HBW.out).opAt (by rw [HL.out]; omega)
            obtain ⟨o1, o2, o3⟩ := hcs k (by rw [HL.out]; omega)
            obtain ⟨rb, ro, rfl, hrS, hrl, hrc⟩ := (HRA.out.kept mvO HKX.out fun j _ hj e => by omega).opsAt (by rw [HRL.out]; omega)
            obtain ⟨Ai, ci, p1, p2, p3, p4, p5⟩ := hrc k (by rw [HRL.out]; omega)
            have htk : (ops.zip R).take (k + 1) = (ops.zip R).take k ++ [(ops.getD k (0, 0, 0), R.getD k ([], 0, 0))] := by
              have hz : k < (ops.zip R).length := by rw [List.length_zip, HL.out, HRL.out]; omega
              rw [List.take_succ_eq_append_getElem hz, List.getElem_zip]
              simp [HL.out, HRL.out, hlt]
            generalize hop : ops.getD k (0, 0, 0) = op at *
            generalize hgot : R.getD k ([], 0, 0) = gt at *
            obtain ⟨kd, a, b⟩ := op
            obtain ⟨gd, gn, ge⟩ := gt
            simp only at o1 o2 o3 p1 p2 p3 p4 p5
            have HEL : Hid (ElO (fun j => w2.heap.size + 2 ≤ j ∧ j < w4.heap.size) wr [.slice Ai gd.length ci, .int .i64 gn, .int .i64 ge] (gd, gn, ge)) := Lib.hid ⟨Ai, ci, rfl, p4, p5⟩
            have HTK := Lib.hid htk
            clear hcs hrc hop hgot htk p4 p5
            by_cases hmv : kd = 0 ∨ kd = 2
            · have HM : Hid (moves (kd, a, b) = true) := Lib.hid (by unfold moves; simp; exact hmv)
              have HFT : Hid (((ops.zip R).take (k + 1)).filter (fun x => moves x.1) = ((ops.zip R).take k).filter (fun x => moves x.1) ++ [((kd, a, b), (gd, gn, ge))]) := Lib.hid (by rw [HTK.out, List.filter_append]; simp [HM.out])
              rcases hmv with rfl | rfl
              · go_wp2_with (at_builtin; refine wpList_append_gen _ rfl (.tmp 63) (.tmp 68) 27 rfl w2.heap.size 26 i2 _ 3 24 Tryd.underlying27 hi2 hx0 hx1 hx2 rfl (by omega) _ m xs rfl (HFW.out.own.alloc _) (some ⟨wr.heap.size, 0, none⟩) 1 1 [.int .i64 0, .int .i64 a, .int .i64 b] rfl (by rfl) ((Blk.new wr 26 #[.int .i64 0, .int .i64 a, .int .i64 b]).news 1) (by simp [Value.oneCell']) (by unfold maxLen; omega) (by omega) (by simp; omega) ?_)
                intro A5 c5 w5 hap
                have hs5 := hap.sizeLe
                simp at hs5
                have HF5 := Lib.hid (HFW.out.snoc mvP (x := ((0 : Int), a, b)) ((Kept.refl (fun _ => False) wr).alloc _) hap (fun j hf => hf.elim) rfl rfl)
                have HK5 : Hid (Kept (fun j => some j = (Value.slice A3 m c3).ownBlock) wr w5) := Lib.hid (((Kept.refl _ wr).alloc _).trans hap.kept fun _ _ h => h)
                have HW5 := Lib.hid (HWN.out.kept mvO HK5.out (fun j e e' => HNE.out j e'.symm e) (fun j hj e' => by
                  rcases HO3.out j e'.symm with h | h <;> omega))
                have HEL5 : Hid (ElO (fun j => w2.heap.size + 2 ≤ j ∧ j < w4.heap.size) w5 [.slice Ai gd.length ci, .int .i64 gn, .int .i64 ge] (gd, gn, ge)) := Lib.hid (mvO.mv HEL.out HK5.out.size fun j hj hS => ⟨hS, HK5.out.block j hj fun e' => by
                  rcases HO3.out j e'.symm with h | h <;> omega⟩)
                have HB5 : Hid (∀ j, (Value.slice A5 (m + 1) c5).ownBlock = some j → (Value.slice A3 m c3).ownBlock = some j ∨ wr.heap.size < j) := Lib.hid fun j e => by
                  rcases hap.2.2 with h | h
                  · exact .inl (by rw [← h, e])
                  · rw [e] at h; injection h with h; simp at h; exact .inr (by omega)
                have hrlt : rb < wr.heap.size := hrl
                have hrne : some rb ≠ (Value.slice A3 m c3).ownBlock := fun e' => by
                  rcases HO3.out rb e'.symm with h | h <;> omega
                have q1 := (HK5.out.cell (p := ⟨rb, ro + k * 3, none⟩) hrlt hrne).trans p1
                have q2 := (HK5.out.cell (p := ⟨rb, ro + k * 3 + 1, none⟩) hrlt hrne).trans p2
                have q3 := (HK5.out.cell (p := ⟨rb, ro + k * 3 + 2, none⟩) hrlt hrne).trans p3
                clear hap
                go_wp2_with (at_builtin; refine wpList_append_gen _ rfl (.tmp 70) (.tmp 75) 23 rfl w2.heap.size 33 i1 _ 3 40 Tryd.underlying23 hi1 hy0 hy1 hy2 rfl (by omega) _ m ys rfl (HW5.out.own.alloc _) (some ⟨w5.heap.size, 0, none⟩) 1 1 [.slice Ai gd.length ci, .int .i64 gn, .int .i64 ge] rfl (by rfl) ((Blk.new w5 33 #[.slice Ai gd.length ci, .int .i64 gn, .int .i64 ge]).news 1) (by simp [Value.oneCell']) (by unfold maxLen; omega) (by omega) (by simp; omega) ?_)
                intro A6 c6 w6 hap
                have hTO : ∀ j, (w2.heap.size + 2 ≤ j ∧ j < w4.heap.size) → some j ≠ (Value.slice A4 m c4).ownBlock := fun j hj e' => by
                  rcases HO4.out j e'.symm with h | h <;> omega
                have HW6 := Lib.hid (HW5.out.snoc mvO (x := (gd, gn, ge)) ((Kept.refl (fun _ => False) w5).alloc _) hap hTO rfl HEL5.out)
                have HK6 : Hid (Kept (fun j => some j = (Value.slice A4 m c4).ownBlock) w5 w6) := Lib.hid (((Kept.refl _ w5).alloc _).trans hap.kept fun _ _ h => h)
                have HL4 : Hid (∀ j, (Value.slice A4 m c4).ownBlock = some j → j < wr.heap.size) := Lib.hid fun j e => (own_block_lt HWN.out.own e).2
                have HF6 := Lib.hid (HF5.out.kept mvP HK6.out (fun j e e' => by
                  rcases HB5.out j e with h | h
                  · exact HNE.out j h e'.symm
                  · have := HL4.out j e'.symm; omega) (fun _ hf => hf.elim))
                have HKN : Hid (Kept (fun j => j = w2.heap.size ∨ j = w2.heap.size + 1) w4 w6) := Lib.hid ((HKX.out.trans HK5.out fun j hj e => by
                  rcases HO3.out j e.symm with h | h
                  · exact .inl h
                  · omega).trans HK6.out fun j hj e => by
                  rcases HO4.out j e.symm with h | h
                  · exact .inr h
                  · omega)
                have HN3 : Hid (∀ j, (Value.slice A5 (m + 1) c5).ownBlock = some j → j = w2.heap.size ∨ w4.heap.size ≤ j) := Lib.hid fun j e => by
                  rcases HB5.out j e with h | h
                  · exact HO3.out j h
                  · exact .inr (by omega)
                have HB6 : Hid (∀ j, (Value.slice A6 (m + 1) c6).ownBlock = some j → (Value.slice A4 m c4).ownBlock = some j ∨ w5.heap.size < j) := Lib.hid fun j e => by
                  rcases hap.2.2 with h | h
                  · exact .inl (by rw [← h, e])
                  · rw [e] at h; injection h with h; simp at h; exact .inr (by omega)
                have HN4 : Hid (∀ j, (Value.slice A6 (m + 1) c6).ownBlock = some j → j = w2.heap.size + 1 ∨ w4.heap.size ≤ j) := Lib.hid fun j e => by
                  rcases HB6.out j e with h | h
                  · exact HO4.out j h
                  · exact .inr (by omega)
                have HNN : Hid (∀ j, (Value.slice A5 (m + 1) c5).ownBlock = some j → (Value.slice A6 (m + 1) c6).ownBlock ≠ some j) := Lib.hid fun j e e' => by
                  have hj5 := (own_block_lt HF5.out.own e).2
                  rcases HB6.out j e' with h' | h'
                  · rcases HB5.out j e with h | h
                    · exact HNE.out j h h'
                    · have := HL4.out j h'; omega
                  · omega
                have e1 : ((((ops.zip R).take (k + 1)).filter fun x => moves x.1).map (·.1)) = ((((ops.zip R).take k).filter fun x => moves x.1).map (·.1)) ++ [((0 : Int), a, b)] := by rw [HFT.out, List.map_append]; rfl
                have e2 : ((((ops.zip R).take (k + 1)).filter fun x => moves x.1).map (·.2)) = ((((ops.zip R).take k).filter fun x => moves x.1).map (·.2)) ++ [(gd, gn, ge)] := by rw [HFT.out, List.map_append]; rfl
                rw [← e1] at HF6
                rw [← e2] at HW6
                clear hap e1 e2 hTO q1 q2 q3
                go_wp2_with fail
                go_roundg (len - (k + 1))
                case measure => omega
                case rel => exact ⟨k + 1, m + 1, A5, c5, A6, c6, _, _, by omega, rfl, by go_num, rfl, rfl, by omega, HF6, HW6, HKN, HN3, HN4, HNN⟩
              · go_wp2_with (at_builtin; refine wpList_append_gen _ rfl (.tmp 63) (.tmp 68) 27 rfl w2.heap.size 26 i2 _ 3 24 Tryd.underlying27 hi2 hx0 hx1 hx2 rfl (by omega) _ m xs rfl (HFW.out.own.alloc _) (some ⟨wr.heap.size, 0, none⟩) 1 1 [.int .i64 2, .int .i64 a, .int .i64 b] rfl (by rfl) ((Blk.new wr 26 #[.int .i64 2, .int .i64 a, .int .i64 b]).news 1) (by simp [Value.oneCell']) (by unfold maxLen; omega) (by omega) (by simp; omega) ?_)
                intro A5 c5 w5 hap
                have hs5 := hap.sizeLe
                simp at hs5
                have HF5 := Lib.hid (HFW.out.snoc mvP (x := ((2 : Int), a, b)) ((Kept.refl (fun _ => False) wr).alloc _) hap (fun j hf => hf.elim) rfl rfl)
                have HK5 : Hid (Kept (fun j => some j = (Value.slice A3 m c3).ownBlock) wr w5) := Lib.hid (((Kept.refl _ wr).alloc _).trans hap.kept fun _ _ h => h)
                have HW5 := Lib.hid (HWN.out.kept mvO HK5.out (fun j e e' => HNE.out j e'.symm e) (fun j hj e' => by
                  rcases HO3.out j e'.symm with h | h <;> omega))
                have HEL5 : Hid (ElO (fun j => w2.heap.size + 2 ≤ j ∧ j < w4.heap.size) w5 [.slice Ai gd.length ci, .int .i64 gn, .int .i64 ge] (gd, gn, ge)) := Lib.hid (mvO.mv HEL.out HK5.out.size fun j hj hS => ⟨hS, HK5.out.block j hj fun e' => by
                  rcases HO3.out j e'.symm with h | h <;> omega⟩)
                have HB5 : Hid (∀ j, (Value.slice A5 (m + 1) c5).ownBlock = some j → (Value.slice A3 m c3).ownBlock = some j ∨ wr.heap.size < j) := Lib.hid fun j e => by
                  rcases hap.2.2 with h | h
                  · exact .inl (by rw [← h, e])
                  · rw [e] at h; injection h with h; simp at h; exact .inr (by omega)
                have hrlt : rb < wr.heap.size := hrl
                have hrne : some rb ≠ (Value.slice A3 m c3).ownBlock := fun e' => by
                  rcases HO3.out rb e'.symm with h | h <;> omega
                have q1 := (HK5.out.cell (p := ⟨rb, ro + k * 3, none⟩) hrlt hrne).trans p1
                have q2 := (HK5.out.cell (p := ⟨rb, ro + k * 3 + 1, none⟩) hrlt hrne).trans p2
                have q3 := (HK5.out.cell (p := ⟨rb, ro + k * 3 + 2, none⟩) hrlt hrne).trans p3
                clear hap
                go_wp2_with (at_builtin; refine wpList_append_gen _ rfl (.tmp 70) (.tmp 75) 23 rfl w2.heap.size 33 i1 _ 3 40 Tryd.underlying23 hi1 hy0 hy1 hy2 rfl (by omega) _ m ys rfl (HW5.out.own.alloc _) (some ⟨w5.heap.size, 0, none⟩) 1 1 [.slice Ai gd.length ci, .int .i64 gn, .int .i64 ge] rfl (by rfl) ((Blk.new w5 33 #[.slice Ai gd.length ci, .int .i64 gn, .int .i64 ge]).news 1) (by simp [Value.oneCell']) (by unfold maxLen; omega) (by omega) (by simp; omega) ?_)
                intro A6 c6 w6 hap
                have hTO : ∀ j, (w2.heap.size + 2 ≤ j ∧ j < w4.heap.size) → some j ≠ (Value.slice A4 m c4).ownBlock := fun j hj e' => by
                  rcases HO4.out j e'.symm with h | h <;> omega
                have HW6 := Lib.hid (HW5.out.snoc mvO (x := (gd, gn, ge)) ((Kept.refl (fun _ => False) w5).alloc _) hap hTO rfl HEL5.out)
                have HK6 : Hid (Kept (fun j => some j = (Value.slice A4 m c4).ownBlock) w5 w6) := Lib.hid (((Kept.refl _ w5).alloc _).trans hap.kept fun _ _ h => h)
                have HL4 : Hid (∀ j, (Value.slice A4 m c4).ownBlock = some j → j < wr.heap.size) := Lib.hid fun j e => (own_block_lt HWN.out.own e).2
                have HF6 := Lib.hid (HF5.out.kept mvP HK6.out (fun j e e' => by
                  rcases HB5.out j e with h | h
                  · exact HNE.out j h e'.symm
                  · have := HL4.out j e'.symm; omega) (fun _ hf => hf.elim))
                have HKN : Hid (Kept (fun j => j = w2.heap.size ∨ j = w2.heap.size + 1) w4 w6) := Lib.hid ((HKX.out.trans HK5.out fun j hj e => by
                  rcases HO3.out j e.symm with h | h
                  · exact .inl h
                  · omega).trans HK6.out fun j hj e => by
                  rcases HO4.out j e.symm with h | h
                  · exact .inr h
                  · omega)
                have HN3 : Hid (∀ j, (Value.slice A5 (m + 1) c5).ownBlock = some j → j = w2.heap.size ∨ w4.heap.size ≤ j) := Lib.hid fun j e => by
                  rcases HB5.out j e with h | h
                  · exact HO3.out j h
                  · exact .inr (by omega)
                have HB6 : Hid (∀ j, (Value.slice A6 (m + 1) c6).ownBlock = some j → (Value.slice A4 m c4).ownBlock = some j ∨ w5.heap.size < j) := Lib.hid fun j e => by
                  rcases hap.2.2 with h | h
                  · exact .inl (by rw [← h, e])
                  · rw [e] at h; injection h with h; simp at h; exact .inr (by omega)
                have HN4 : Hid (∀ j, (Value.slice A6 (m + 1) c6).ownBlock = some j → j = w2.heap.size + 1 ∨ w4.heap.size ≤ j) := Lib.hid fun j e => by
                  rcases HB6.out j e with h | h
                  · exact HO4.out j h
                  · exact .inr (by omega)
                have HNN : Hid (∀ j, (Value.slice A5 (m + 1) c5).ownBlock = some j → (Value.slice A6 (m + 1) c6).ownBlock ≠ some j) := Lib.hid fun j e e' => by
                  have hj5 := (own_block_lt HF5.out.own e).2
                  rcases HB6.out j e' with h' | h'
                  · rcases HB5.out j e with h | h
                    · exact HNE.out j h h'
                    · have := HL4.out j h'; omega
                  · omega
                have e1 : ((((ops.zip R).take (k + 1)).filter fun x => moves x.1).map (·.1)) = ((((ops.zip R).take k).filter fun x => moves x.1).map (·.1)) ++ [((2 : Int), a, b)] := by rw [HFT.out, List.map_append]; rfl
                have e2 : ((((ops.zip R).take (k + 1)).filter fun x => moves x.1).map (·.2)) = ((((ops.zip R).take k).filter fun x => moves x.1).map (·.2)) ++ [(gd, gn, ge)] := by rw [HFT.out, List.map_append]; rfl
                rw [← e1] at HF6
                rw [← e2] at HW6
                clear hap e1 e2 hTO q1 q2 q3
                go_wp2_with fail
                go_roundg (len - (k + 1))
                case measure => omega
                case rel => exact ⟨k + 1, m + 1, A5, c5, A6, c6, _, _, by omega, rfl, by go_num, rfl, rfl, by omega, HF6, HW6, HKN, HN3, HN4, HNN⟩
            · have e0 : (kd == 0) = false := by simp; omega
              have e2 : (kd == 2) = false := by simp; omega
              have HFT : Hid (((ops.zip R).take (k + 1)).filter (fun x => moves x.1) = ((ops.zip R).take k).filter (fun x => moves x.1)) := Lib.hid (by rw [HTK.out, List.filter_append]; simp [moves, e0, e2])
              rw [← HFT.out] at HFW HWN
              clear hmv
              go_wp2_with fail
              go_roundg (len - (k + 1))
              case measure => omega
              case rel => exact ⟨k + 1, m, A3, c3, A4, c4, xs, ys, by omega, rfl, by go_num, rfl, rfl, by omega, HFW, HWN, HKX, HO3, HO4, HNE⟩
          · have hkl : (ops.zip R).take k = ops.zip R := List.take_of_length_le (by rw [List.length_zip, HL.out, HRL.out]; omega)
            rw [hkl] at HFW HWN
            have hml := HFW.out.len
            have hwl := HWN.out.len
            have hsub : ∀ op ∈ ((ops.zip R).filter fun x => moves x.1).map (·.1), OpOK op := fun op hop => by
              obtain ⟨x, hx, rfl⟩ := List.mem_map.1 hop
              exact HOK.out.1 _ (List.of_mem_zip (List.mem_filter.1 hx).1).1
            have hsub2 : ∀ g ∈ ((ops.zip R).filter fun x => moves x.1).map (·.2), g.1.length ≤ 281474976710656 := fun g hg => by
              obtain ⟨x, hx, rfl⟩ := List.mem_map.1 hg
              exact HRS.out _ (List.of_mem_zip (List.mem_filter.1 hx).1).2
            have HC5 := Lib.hid (implSection_any (HEa.out.below (HBW.out.mono hBa)) (Nat.le_trans hBa HBW.out.size) c0 c3 off n (HD.out.below HBW.out) hn (by omega) (HFW.out.els mvP) hsub (by rw [hml]; omega))
            rw [HST.out, hml] at HC5
            have HWE := Lib.hid (HWN.out.els mvO)
            have HLW : Hid ((((ops.zip R).filter fun x => moves x.1).map (·.2)).length = m) := Lib.hid hwl
            have HS2 := Lib.hid hsub2
            clear hkl hml hwl hsub hsub2 HST
            generalize ((ops.zip R).filter fun x => moves x.1).map (·.2) = W at *
            go_wp2_with fail
            refine HC5.out.mono ?_
            rintro e w5 ⟨Ab, cb, rfl, hcb, hrb, hb5⟩
            have CSO := Lib.hid (sameOps_eq cb c4 (show W.length ≤ 281474976710656 by rw [HLW.out]; omega) HS2.out hrb ((HWE.out.mono mvO (S' := (· < wr.heap.size)) fun j hj _ => hj).below mvO hb5))
            have HB5 : Hid (Below w0.heap.size w0 w5) := Lib.hid (HBW.out.trans (hb5.mono HBW.out.size))
            rw [HLW.out] at CSO
            rw [HLW.out]
            clear hrb hb5 HC5 HWE
            go_wp2_with fail
            refine CSO.out.mono ?_
            rintro e w6 ⟨rfl, q6, rfl⟩
            go_wp2_with fail
            go_ret
            exact ⟨by first | rfl | simp, HBA.out.trans ((below_drewN HB5.out q6).mono HBA.out.size)⟩

end Go.Proofs.YtdlgknaipljhhaaDoor
