/- spec.part and spec.Section. -/
import Derived.Test.YtdlgknaipljhhaaDoorSecI
import Derived.Test.YtdlgknaipljhhaaDoorSV
set_option linter.unusedVariables false
set_option linter.unusedSimpArgs false
namespace Go.Proofs.YtdlgknaipljhhaaDoor
open Go.RowKit

set_option maxRecDepth 100000 in
theorem part_any {S : Nat → Prop} {w : World} {A : Option Addr} {all : List Int} (c : Nat) (h : BytesAt S w A all) (hc : all.length ≤ c) (hl : all.length ≤ 140737488355328) (off m : Nat) (ho : off ≤ 2305843009213693952) (hm : m ≤ 1048576) :
    Calls Tryd.prog 27 #[.slice A all.length c, .int .i64 (off : Int), .int .i64 (m : Int)] w (BytesPost (partOf all off m) w) := by
  obtain ⟨i0, hi0, hz0, hz1, hz2⟩ := info_parts infoU8
  by_cases hend : all.length ≤ off
  · rw [partOf_end m hend]
    have hend' : (all.length : Int) ≤ (off : Int) := by omega
    clear h
    generalize all.length = len at *
    go_enter Tryd.func27, Tryd.ntmps27
    go_wp2_with fail
    go_ret
    exact ⟨some ⟨w.heap.size, 0, none⟩, 0, rfl, Nat.le_refl _, BytesAt.nil _ _ _, (Below.refl _ _).alloc (Nat.le_refl _) _⟩
  · obtain ⟨k, hk⟩ : ∃ k, k = min m (all.length - off) := ⟨_, rfl⟩
    have hln : (partOf all off m).length = k := by rw [partOf_len]; omega
    obtain ⟨iq, hiq, _, hsq, _⟩ := info_parts infoU8
    obtain ⟨A2, hsl, hA2⟩ := slice_mid (P := Tryd.prog) 22 (by rw [elemU8]; exact Tryd.underlying22) iq 1 (by rw [elemU8]; exact hiq) hsq A all.length c off k (by omega)
    have hby : BytesAt S w A2 (partOf all off m) := ((h.drop off).take m).addr fun hp => by rw [hA2 (by omega), Nat.mul_one]
    have HNW := fun o : Obj => Lib.hid ((hby.alloc o).news)
    have HOW := Lib.hid (own_empty w w.heap.size 5 1 (Nat.le_refl _))
    have hlt : ¬ (all.length : Int) ≤ (off : Int) := by omega
    have hmin : (if (all.length : Int) < (off : Int) + (m : Int) then (all.length : Int) else (off : Int) + (m : Int)) = (off : Int) + (k : Int) := by split <;> omega
    have hmin2 : (if all.length < off + m then (all.length : Int) else (off : Int) + (m : Int)) = (off : Int) + (k : Int) := by split <;> omega
    clear h hby hA2 hend
    generalize partOf all off m = part at *
    have HLN := Lib.hid hln
    have HBV := Lib.hid (show (bytesV part).length = k * 1 by rw [bytesV_length]; omega)
    rw [hln] at HNW
    have hkb : k ≤ 1048576 := by omega
    clear hln hk
    generalize all.length = len at *
    go_enter Tryd.func27, Tryd.ntmps27
    go_wp2_with (at_builtin; refine wpList_append_new _ rfl (.tmp 12) (.tmp 21) 22 rfl w.heap.size 5 i0 _ 1 1 Tryd.underlying22 hi0 hz0 hz1 hz2 rfl (by omega) _ rfl HOW.out A2 k (c - off) (bytesV part) rfl HBV.out (HNW _).out (bytesV_one part) (by unfold maxLen; omega) (by omega) (by simp) ?_)
    intro A3 c3 w3 hap
    have HOWN := Lib.hid hap.own
    have HBEL : Hid (Below w.heap.size w w3) := Lib.hid (((Below.refl _ _).alloc (Nat.le_refl _) _).grown hap.grown (by simp) fun j e => by
      have e2 : w.heap.size = j := by simpa [Value.ownBlock] using e
      omega)
    clear hap
    go_wp2_with fail
    go_ret
    exact bytesPost_of HLN.out (Nat.le_refl _) HOWN.out HBEL.out

theorem blk_new2' (w : World) (o : Obj) (t : TypeId) (cs : Array Value) {b : Nat} (hb : b = w.heap.size + 1) : Blk ((w.alloc o).alloc (.cells cs t)) b t cs := by
  subst hb
  have := Blk.new (w.alloc o) t cs
  simpa using this
theorem le_more {p n k M : Nat} (h : p ≤ n + k * M) : p ≤ n + (k + 1) * M := Nat.le_trans h (Nat.add_le_add_left (Nat.mul_le_mul_right _ (Nat.le_succ k)) _)

/-- what holds at the head of a round of the reference's Section -/
def SSInv (w : World) (k : Nat) (A' : Option Addr) (c' : Nat) (done : List (List Int × Int × Int)) (wr : World) : Prop :=
  ∃ xs, ElRow ElO 3 33 w.heap.size (fun _ => False) wr A' k c' done xs ∧ Below w.heap.size w wr

theorem own_keptS {base : Nat} {wr w' : World} {A : Option Addr} {k c : Nat} {l : List (List Int × Int × Int)} {xs : List Value} (h : ElRow ElO 3 33 base (fun _ => False) wr A k c l xs) (hk : Kept (fun _ => False) wr w') : w'.ownsRow base 33 3 (.slice A k c) k xs := (h.kept mvO hk fun _ _ _ _ hf => hf).own

theorem ss_next {w wr w3 w0 w4 : World} {k c' c2 : Nat} {A' A2 : Option Addr} {done : List (List Int × Int × Int)} {xs vs : List Value} {x : List Int × Int × Int} (hrow : ElRow ElO 3 33 w.heap.size (fun _ => False) wr A' k c' done xs) (hb : Below w.heap.size w wr) (hk3 : Kept (fun _ => False) wr w3) (hw0 : Kept (fun _ => False) w3 w0)
    (hap : Appended w.heap.size 33 3 A2 (k + 1) c2 (xs ++ vs) (Value.slice A' k c').ownBlock w0 w4) (hv : vs.length = 3) (hd : ElO (fun j => wr.heap.size ≤ j) w3 vs x) : SSInv w (k + 1) A2 c2 (done ++ [x]) w4 := by
  have hlo : ∀ j, (Value.slice A' k c').ownBlock = some j → w.heap.size ≤ j ∧ j < wr.heap.size := fun j e => own_block_lt hrow.own e
  have hz := hk3.size
  have hbz := hb.size
  have hr3 := hrow.kept mvO hk3 fun j _ hj hX' hDj => hDj
  refine ⟨_, ElRow.snoc mvO (by omega) hr3 hw0 hap (fun j hj hXj => hXj) hv (mvO.mv hd (Nat.le_refl _) fun j _ hj => ⟨⟨by omega, fun e => by have := (hlo j e.symm).2; omega, fun hXj => hXj⟩, rfl⟩), ?_⟩
  refine hb.trans ((hk3.below hbz fun j hj hDj => hDj).trans (((hw0.mono (D' := fun j => some j = (Value.slice A' k c').ownBlock) fun _ _ hf => hf.elim).trans hap.kept fun _ _ h => h).below (by omega) fun j hj hDj => ?_))
  have := (hlo j hDj.symm).1; omega

set_option maxHeartbeats 4000000 in
set_option maxRecDepth 100000 in
theorem specSection_any {S0 S1 : Nat → Prop} {w : World} {A A1 : Option Addr} {data : List Int} {ops : List (Int × Int × Int)} (cs c1 off n : Nat) (h : BytesAt S0 w A data) (hdc : data.length ≤ cs) (hn : off + n ≤ data.length) (hbd : data.length ≤ 140737488355328)
    (ho : ElsAt ElP 3 S1 w A1 ops) (hok : ∀ op ∈ ops, OpOK op) (hol : ops.length ≤ 1048576) :
    Calls Tryd.prog 16 #[.slice A data.length cs, .int .i64 (off : Int), .int .i64 (n : Int), .slice A1 ops.length c1] w (OpsPost (opRuns ((data.drop off).take n) ops 0) w) := by
  obtain ⟨i1, hi1, hy0, hy1, hy2⟩ := info_parts infoOp
  obtain ⟨iq, hiq, _, hsq, _⟩ := info_parts infoU8
  obtain ⟨A9, hsl, hA9⟩ := slice_mid (P := Tryd.prog) 22 (by rw [elemU8]; exact Tryd.underlying22) iq 1 (by rw [elemU8]; exact hiq) hsq A data.length cs off n (by omega)
  obtain ⟨all, hall⟩ : ∃ all, all = (data.drop off).take n := ⟨_, rfl⟩
  have HALL : Hid (BytesAt (· < w.heap.size) w A9 all) := Lib.hid (by
    rw [hall]
    refine (((h.drop off).take n).addr fun hp => ?_).mono fun k hk _ => hk
    rw [List.length_take, List.length_drop] at hp
    rw [hA9 (by omega), Nat.mul_one])
  have HAL : Hid (all.length = n) := Lib.hid (by rw [hall, List.length_take, List.length_drop]; omega)
  rw [← hall]
  have HO := Lib.hid (ho.mono mvP (S' := (· < w.heap.size)) fun k hk _ => hk)
  have HOKS := Lib.hid hok
  clear h ho hok hA9 hall
  generalize hlen : ops.length = len at *
  have HL := Lib.hid hlen
  have hnb : n ≤ 140737488355328 := by omega
  have hcs2 : off + n ≤ cs := by omega
  have hofb : off ≤ 140737488355328 := by omega
  clear hlen
  generalize data.length = dl at *
  go_enter Tryd.func16, Tryd.ntmps16
  go_wp2_with fail
  go_loopg [10, 11, 12] len (fun f y v i wr => ∃ (k : Nat) (A' : Option Addr) (c' pos : Nat), k ≤ len ∧ f = len - k ∧ i = .int .i64 k ∧ v = .slice A' k c' ∧ y = .int .i64 (pos : Int) ∧ pos ≤ n + k * 1048576 ∧ ∃ done, Hid (opRuns all ops 0 = done ++ opRuns all (ops.drop k) pos) ∧ Hid (SSInv w k A' c' done wr))
  case atStart =>
    refine ⟨0, _, 0, 0, Nat.zero_le _, by omega, rfl, rfl, rfl, by omega, [], Lib.hid (by simp), Lib.hid ⟨[], ?_, (Below.refl _ _).alloc (Nat.le_refl _) _⟩⟩
    exact ElRow.empty _ w _ _ (Nat.le_refl _) (fun hf => hf)
  case round =>
    obtain ⟨k, A', c', pos, hk, rfl, rfl, rfl, rfl, hpo, done, HF, HI⟩ := hrel
    obtain ⟨xs, hrow, hbe⟩ := HI.out
    have HRW := Lib.hid hrow
    have HBE := Lib.hid hbe
    have hszw := hbe.size
    clear hrow hbe HI
    by_cases hlt : k < len
    · obtain ⟨ab, aoff, rfl, _, hab, hcs⟩ := (HO.out.below mvP HBE.out).opAt (by rw [HL.out]; omega)
      obtain ⟨o1, o2, o3⟩ := hcs k (by rw [HL.out]; omega)
      have HOK := Lib.hid (HOKS.out (ops.getD k (0, 0, 0)) (by rw [List.getD_eq_getElem?_getD, List.getElem?_eq_getElem (by rw [HL.out]; exact hlt)]; exact List.getElem_mem _))
      generalize hop : ops.getD k (0, 0, 0) = op at *
      have HOP := Lib.hid hop
      obtain ⟨kd, a, b⟩ := op
      simp only at o1 o2 o3
      clear hcs hop
      have hok := HOK.out
      unfold OpOK at hok
      simp only at hok
      rcases hok with ⟨rfl, ha0, ha1⟩ | ⟨rfl, ha0, ha1, hb0, hb1⟩ | ⟨rfl, ha0, ha1⟩ | rfl
      · obtain ⟨zn, rfl⟩ : ∃ zn : Nat, a = (zn : Int) := ⟨a.toNat, by omega⟩
        have hzn : zn ≤ 1048576 := by omega
        have hKa : Kept (fun _ => False) wr (wr.alloc (.cells #[.int .i64 0, .int .i64 (zn : Int), .int .i64 b] 26)) := (Kept.refl _ _).alloc _
        have C := part_any (cs - off) ((HALL.out.below HBE.out).alloc (.cells #[.int .i64 0, .int .i64 (zn : Int), .int .i64 b] 26)) (by rw [HAL.out]; omega) (by rw [HAL.out]; omega) pos zn (by omega) hzn
        have hst : opStep all pos (0, (zn : Int), b) = ((partOf all pos zn, ((partOf all pos zn).length : Int), if all.length ≤ pos then 1 else 0), pos + (partOf all pos zn).length) := by unfold opStep; rw [if_pos rfl]; rfl
        have hal := partOf_le all pos zn
        have hps := opStep_pos (all := all) (pos := pos) HOK.out
        have hnext := opRuns_at (all := all) (pos := pos) (k := k) (ops := ops) (by rw [HL.out]; exact hlt)
        rw [HOP.out] at hnext
        rw [hst] at hnext hps
        rw [HAL.out] at hnext C hps
        generalize partOf all pos zn = nd at *
        simp only at hnext hps
        have hpb : pos + nd.length ≤ n + (k + 1) * 1048576 := by omega
        have C' := Lib.hid C
        clear C hst hps hKa
        go_wp2_with fail
        refine C'.out.mono ?_
        rintro e w2 ⟨A2p, c2p, rfl, hcp, hby, hb2⟩
        have hsz2 := hb2.size
        simp at hsz2
        have HBY : Hid (BytesAt (fun j => wr.heap.size ≤ j ∧ j < w2.heap.size) w2 A2p nd) := Lib.hid (hby.mono fun j hj h => ⟨by simp at h; omega, hj⟩)
        have HK2 : Hid (Kept (fun _ => False) wr w2) := Lib.hid (((Kept.refl _ _).alloc _).of_below hb2)
        have o2' := (hb2.cell (p := ⟨wr.heap.size, 1, none⟩) (by simp)).trans (show (wr.alloc (.cells #[.int .i64 0, .int .i64 (zn : Int), .int .i64 b] 26)).cell? ⟨wr.heap.size, 1, none⟩ = some (.int .i64 (zn : Int)) by rw [(Blk.new wr _ _).cell]; rfl)
        have o3' := (hb2.cell (p := ⟨wr.heap.size, 2, none⟩) (by simp)).trans (show (wr.alloc (.cells #[.int .i64 0, .int .i64 (zn : Int), .int .i64 b] 26)).cell? ⟨wr.heap.size, 2, none⟩ = some (.int .i64 b) by rw [(Blk.new wr _ _).cell]; rfl)
        have hnlt : wr.heap.size < w2.heap.size := by omega
        have p2 := fun o : Obj => (World.cell?_alloc_lt w2 (a := ⟨wr.heap.size, 1, none⟩) o hnlt).trans o2'
        have p3 := fun o : Obj => (World.cell?_alloc_lt w2 (a := ⟨wr.heap.size, 2, none⟩) o hnlt).trans o3'
        have hnw : wr.heap.size ≠ w2.heap.size := by omega
        have hnw' : w2.heap.size ≠ wr.heap.size := by omega
        clear hby hb2 C' o1 o2 o3
        by_cases hc : n ≤ pos
        · rw [if_pos hc] at hnext
          have HNX := Lib.hid hnext
          have hc' : (n : Int) ≤ (pos : Int) := by omega
          clear hnext
          have _h := hc
          have hK3 : Kept (fun _ => False) wr (w2.alloc (.cells #[.slice A2p nd.length c2p, .int .i64 (nd.length : Int), .int .i64 1] 33)) := HK2.out.alloc _
          have HBY3 : Hid (BytesAt (fun j => wr.heap.size ≤ j ∧ j < w2.heap.size) (w2.alloc (.cells #[.slice A2p nd.length c2p, .int .i64 (nd.length : Int), .int .i64 1] 33)) A2p nd) := Lib.hid (HBY.out.alloc _)
          have HO3 := Lib.hid (own_keptS HRW.out hK3)
          have HEL : Hid (ElO (fun j => wr.heap.size ≤ j) (w2.alloc (.cells #[.slice A2p nd.length c2p, .int .i64 (nd.length : Int), .int .i64 1] 33)) [.slice A2p nd.length c2p, .int .i64 (nd.length : Int), .int .i64 1] (nd, (nd.length : Int), 1)) := Lib.hid ⟨_, c2p, rfl, hcp, HBY3.out.mono fun j _ h => h.1⟩
          have HK3 := Lib.hid hK3
          clear hK3 HBY3 HK2 HBY
          go_wp2_with (at_builtin; refine wpList_append_gen _ rfl (.tmp 58) (.tmp 60) 23 rfl w.heap.size 33 i1 _ 3 40 Tryd.underlying23 hi1 hy0 hy1 hy2 rfl (by omega) _ k xs rfl (HO3.out.alloc _) (some ⟨w2.heap.size + 1, 0, none⟩) 1 1 [.slice A2p nd.length c2p, .int .i64 (nd.length : Int), .int .i64 1] rfl (by rfl) ((blk_new2' w2 _ 33 #[.slice A2p nd.length c2p, .int .i64 (nd.length : Int), .int .i64 1] rfl).news 1) (by simp [Value.oneCell']) (by unfold maxLen; omega) (by omega) (by simp; omega) ?_)
          intro A2 c2 w4 hap
          have HIn := Lib.hid (ss_next (w := w) (vs := [.slice A2p nd.length c2p, .int .i64 (nd.length : Int), .int .i64 1]) HRW.out HBE.out HK3.out ((Kept.refl (fun _ => False) _).alloc _) hap rfl HEL.out)
          clear hap
          go_wp2_with fail
          go_roundg (len - (k + 1))
          case measure => omega
          case rel => exact ⟨k + 1, A2, c2, pos + nd.length, by omega, rfl, by go_num, rfl, by go_num, hpb, _, Lib.hid (by rw [HF.out, HNX.out, List.append_assoc]; rfl), HIn⟩
        · rw [if_neg hc] at hnext
          have HNX := Lib.hid hnext
          have hc' : ¬ (n : Int) ≤ (pos : Int) := by omega
          clear hnext
          have _h := hc
          have hK3 : Kept (fun _ => False) wr (w2.alloc (.cells #[.slice A2p nd.length c2p, .int .i64 (nd.length : Int), .int .i64 0] 33)) := HK2.out.alloc _
          have HBY3 : Hid (BytesAt (fun j => wr.heap.size ≤ j ∧ j < w2.heap.size) (w2.alloc (.cells #[.slice A2p nd.length c2p, .int .i64 (nd.length : Int), .int .i64 0] 33)) A2p nd) := Lib.hid (HBY.out.alloc _)
          have HO3 := Lib.hid (own_keptS HRW.out hK3)
          have HEL : Hid (ElO (fun j => wr.heap.size ≤ j) (w2.alloc (.cells #[.slice A2p nd.length c2p, .int .i64 (nd.length : Int), .int .i64 0] 33)) [.slice A2p nd.length c2p, .int .i64 (nd.length : Int), .int .i64 0] (nd, (nd.length : Int), 0)) := Lib.hid ⟨_, c2p, rfl, hcp, HBY3.out.mono fun j _ h => h.1⟩
          have HK3 := Lib.hid hK3
          clear hK3 HBY3 HK2 HBY
          go_wp2_with (at_builtin; refine wpList_append_gen _ rfl (.tmp 58) (.tmp 60) 23 rfl w.heap.size 33 i1 _ 3 40 Tryd.underlying23 hi1 hy0 hy1 hy2 rfl (by omega) _ k xs rfl (HO3.out.alloc _) (some ⟨w2.heap.size + 1, 0, none⟩) 1 1 [.slice A2p nd.length c2p, .int .i64 (nd.length : Int), .int .i64 0] rfl (by rfl) ((blk_new2' w2 _ 33 #[.slice A2p nd.length c2p, .int .i64 (nd.length : Int), .int .i64 0] rfl).news 1) (by simp [Value.oneCell']) (by unfold maxLen; omega) (by omega) (by simp; omega) ?_)
          intro A2 c2 w4 hap
          have HIn := Lib.hid (ss_next (w := w) (vs := [.slice A2p nd.length c2p, .int .i64 (nd.length : Int), .int .i64 0]) HRW.out HBE.out HK3.out ((Kept.refl (fun _ => False) _).alloc _) hap rfl HEL.out)
          clear hap
          go_wp2_with fail
          go_roundg (len - (k + 1))
          case measure => omega
          case rel => exact ⟨k + 1, A2, c2, pos + nd.length, by omega, rfl, by go_num, rfl, by go_num, hpb, _, Lib.hid (by rw [HF.out, HNX.out, List.append_assoc]; rfl), HIn⟩
      · obtain ⟨bo, rfl⟩ : ∃ bo : Nat, b = (bo : Int) := ⟨b.toNat, by omega⟩
        have hbo : bo ≤ 1048576 := by omega
        obtain ⟨zn, rfl⟩ : ∃ zn : Nat, a = (zn : Int) := ⟨a.toNat, by omega⟩
        have hzn : zn ≤ 1048576 := by omega
        have hKa : Kept (fun _ => False) wr (wr.alloc (.cells #[.int .i64 1, .int .i64 (zn : Int), .int .i64 (bo : Int)] 26)) := (Kept.refl _ _).alloc _
        have C := part_any (cs - off) ((HALL.out.below HBE.out).alloc (.cells #[.int .i64 1, .int .i64 (zn : Int), .int .i64 (bo : Int)] 26)) (by rw [HAL.out]; omega) (by rw [HAL.out]; omega) bo zn (by omega) hzn
        have hst : opStep all pos (1, (zn : Int), (bo : Int)) = ((partOf all bo zn, ((partOf all bo zn).length : Int), if (partOf all bo zn).length < zn ∨ all.length ≤ bo then 1 else 0), pos) := by unfold opStep; rw [if_neg (show ¬ (1 : Int) = 0 by omega), if_pos rfl]; simp only [Int.toNat_natCast, Int.ofNat_lt, Int.ofNat_le]
        have hal := partOf_le all bo zn
        have hps := opStep_pos (all := all) (pos := pos) HOK.out
        have hnext := opRuns_at (all := all) (pos := pos) (k := k) (ops := ops) (by rw [HL.out]; exact hlt)
        rw [HOP.out] at hnext
        rw [hst] at hnext hps
        rw [HAL.out] at hnext C hps
        generalize partOf all bo zn = nd at *
        simp only at hnext hps
        have hpb : pos ≤ n + (k + 1) * 1048576 := le_more hpo
        have C' := Lib.hid C
        clear C hst hps hKa
        go_wp2_with fail
        refine C'.out.mono ?_
        rintro e w2 ⟨A2p, c2p, rfl, hcp, hby, hb2⟩
        have hsz2 := hb2.size
        simp at hsz2
        have HBY : Hid (BytesAt (fun j => wr.heap.size ≤ j ∧ j < w2.heap.size) w2 A2p nd) := Lib.hid (hby.mono fun j hj h => ⟨by simp at h; omega, hj⟩)
        have HK2 : Hid (Kept (fun _ => False) wr w2) := Lib.hid (((Kept.refl _ _).alloc _).of_below hb2)
        have o2' := (hb2.cell (p := ⟨wr.heap.size, 1, none⟩) (by simp)).trans (show (wr.alloc (.cells #[.int .i64 1, .int .i64 (zn : Int), .int .i64 (bo : Int)] 26)).cell? ⟨wr.heap.size, 1, none⟩ = some (.int .i64 (zn : Int)) by rw [(Blk.new wr _ _).cell]; rfl)
        have o3' := (hb2.cell (p := ⟨wr.heap.size, 2, none⟩) (by simp)).trans (show (wr.alloc (.cells #[.int .i64 1, .int .i64 (zn : Int), .int .i64 (bo : Int)] 26)).cell? ⟨wr.heap.size, 2, none⟩ = some (.int .i64 (bo : Int)) by rw [(Blk.new wr _ _).cell]; rfl)
        have hnlt : wr.heap.size < w2.heap.size := by omega
        have p2 := fun o : Obj => (World.cell?_alloc_lt w2 (a := ⟨wr.heap.size, 1, none⟩) o hnlt).trans o2'
        have p3 := fun o : Obj => (World.cell?_alloc_lt w2 (a := ⟨wr.heap.size, 2, none⟩) o hnlt).trans o3'
        have hnw : wr.heap.size ≠ w2.heap.size := by omega
        have hnw' : w2.heap.size ≠ wr.heap.size := by omega
        clear hby hb2 C' o1 o2 o3
        by_cases hc : nd.length < zn
        · rw [if_pos (.inl hc)] at hnext
          have HNX := Lib.hid hnext
          have hc' : (nd.length : Int) < (zn : Int) := by omega
          clear hnext
          have _h := hc
          have hK3 : Kept (fun _ => False) wr (w2.alloc (.cells #[.slice A2p nd.length c2p, .int .i64 (nd.length : Int), .int .i64 1] 33)) := HK2.out.alloc _
          have HBY3 : Hid (BytesAt (fun j => wr.heap.size ≤ j ∧ j < w2.heap.size) (w2.alloc (.cells #[.slice A2p nd.length c2p, .int .i64 (nd.length : Int), .int .i64 1] 33)) A2p nd) := Lib.hid (HBY.out.alloc _)
          have HO3 := Lib.hid (own_keptS HRW.out hK3)
          have HEL : Hid (ElO (fun j => wr.heap.size ≤ j) (w2.alloc (.cells #[.slice A2p nd.length c2p, .int .i64 (nd.length : Int), .int .i64 1] 33)) [.slice A2p nd.length c2p, .int .i64 (nd.length : Int), .int .i64 1] (nd, (nd.length : Int), 1)) := Lib.hid ⟨_, c2p, rfl, hcp, HBY3.out.mono fun j _ h => h.1⟩
          have HK3 := Lib.hid hK3
          clear hK3 HBY3 HK2 HBY
          go_wp2_with (at_builtin; refine wpList_append_gen _ rfl (.tmp 87) (.tmp 89) 23 rfl w.heap.size 33 i1 _ 3 40 Tryd.underlying23 hi1 hy0 hy1 hy2 rfl (by omega) _ k xs rfl (HO3.out.alloc _) (some ⟨w2.heap.size + 1, 0, none⟩) 1 1 [.slice A2p nd.length c2p, .int .i64 (nd.length : Int), .int .i64 1] rfl (by rfl) ((blk_new2' w2 _ 33 #[.slice A2p nd.length c2p, .int .i64 (nd.length : Int), .int .i64 1] rfl).news 1) (by simp [Value.oneCell']) (by unfold maxLen; omega) (by omega) (by simp; omega) ?_)
          intro A2 c2 w4 hap
          have HIn := Lib.hid (ss_next (w := w) (vs := [.slice A2p nd.length c2p, .int .i64 (nd.length : Int), .int .i64 1]) HRW.out HBE.out HK3.out ((Kept.refl (fun _ => False) _).alloc _) hap rfl HEL.out)
          clear hap
          go_wp2_with fail
          go_roundg (len - (k + 1))
          case measure => omega
          case rel => exact ⟨k + 1, A2, c2, pos, by omega, rfl, by go_num, rfl, by go_num, hpb, _, Lib.hid (by rw [HF.out, HNX.out, List.append_assoc]; rfl), HIn⟩
        · by_cases hd : n ≤ bo
          · rw [if_pos (.inr hd)] at hnext
            have HNX := Lib.hid hnext
            have hc' : ¬ (nd.length : Int) < (zn : Int) := by omega
            have hd' : (n : Int) ≤ (bo : Int) := by omega
            clear hnext
            have _h := hc
            have hK3 : Kept (fun _ => False) wr (w2.alloc (.cells #[.slice A2p nd.length c2p, .int .i64 (nd.length : Int), .int .i64 1] 33)) := HK2.out.alloc _
            have HBY3 : Hid (BytesAt (fun j => wr.heap.size ≤ j ∧ j < w2.heap.size) (w2.alloc (.cells #[.slice A2p nd.length c2p, .int .i64 (nd.length : Int), .int .i64 1] 33)) A2p nd) := Lib.hid (HBY.out.alloc _)
            have HO3 := Lib.hid (own_keptS HRW.out hK3)
            have HEL : Hid (ElO (fun j => wr.heap.size ≤ j) (w2.alloc (.cells #[.slice A2p nd.length c2p, .int .i64 (nd.length : Int), .int .i64 1] 33)) [.slice A2p nd.length c2p, .int .i64 (nd.length : Int), .int .i64 1] (nd, (nd.length : Int), 1)) := Lib.hid ⟨_, c2p, rfl, hcp, HBY3.out.mono fun j _ h => h.1⟩
            have HK3 := Lib.hid hK3
            clear hK3 HBY3 HK2 HBY
            go_wp2_with (at_builtin; refine wpList_append_gen _ rfl (.tmp 87) (.tmp 89) 23 rfl w.heap.size 33 i1 _ 3 40 Tryd.underlying23 hi1 hy0 hy1 hy2 rfl (by omega) _ k xs rfl (HO3.out.alloc _) (some ⟨w2.heap.size + 1, 0, none⟩) 1 1 [.slice A2p nd.length c2p, .int .i64 (nd.length : Int), .int .i64 1] rfl (by rfl) ((blk_new2' w2 _ 33 #[.slice A2p nd.length c2p, .int .i64 (nd.length : Int), .int .i64 1] rfl).news 1) (by simp [Value.oneCell']) (by unfold maxLen; omega) (by omega) (by simp; omega) ?_)
            intro A2 c2 w4 hap
            have HIn := Lib.hid (ss_next (w := w) (vs := [.slice A2p nd.length c2p, .int .i64 (nd.length : Int), .int .i64 1]) HRW.out HBE.out HK3.out ((Kept.refl (fun _ => False) _).alloc _) hap rfl HEL.out)
            clear hap
            go_wp2_with fail
            go_roundg (len - (k + 1))
            case measure => omega
            case rel => exact ⟨k + 1, A2, c2, pos, by omega, rfl, by go_num, rfl, by go_num, hpb, _, Lib.hid (by rw [HF.out, HNX.out, List.append_assoc]; rfl), HIn⟩
          · rw [if_neg (by omega)] at hnext
            have HNX := Lib.hid hnext
            have hc' : ¬ (nd.length : Int) < (zn : Int) := by omega
            have hd' : ¬ (n : Int) ≤ (bo : Int) := by omega
            clear hnext
            have _h := hc
            have hK3 : Kept (fun _ => False) wr (w2.alloc (.cells #[.slice A2p nd.length c2p, .int .i64 (nd.length : Int), .int .i64 0] 33)) := HK2.out.alloc _
            have HBY3 : Hid (BytesAt (fun j => wr.heap.size ≤ j ∧ j < w2.heap.size) (w2.alloc (.cells #[.slice A2p nd.length c2p, .int .i64 (nd.length : Int), .int .i64 0] 33)) A2p nd) := Lib.hid (HBY.out.alloc _)
            have HO3 := Lib.hid (own_keptS HRW.out hK3)
            have HEL : Hid (ElO (fun j => wr.heap.size ≤ j) (w2.alloc (.cells #[.slice A2p nd.length c2p, .int .i64 (nd.length : Int), .int .i64 0] 33)) [.slice A2p nd.length c2p, .int .i64 (nd.length : Int), .int .i64 0] (nd, (nd.length : Int), 0)) := Lib.hid ⟨_, c2p, rfl, hcp, HBY3.out.mono fun j _ h => h.1⟩
            have HK3 := Lib.hid hK3
            clear hK3 HBY3 HK2 HBY
            go_wp2_with (at_builtin; refine wpList_append_gen _ rfl (.tmp 87) (.tmp 89) 23 rfl w.heap.size 33 i1 _ 3 40 Tryd.underlying23 hi1 hy0 hy1 hy2 rfl (by omega) _ k xs rfl (HO3.out.alloc _) (some ⟨w2.heap.size + 1, 0, none⟩) 1 1 [.slice A2p nd.length c2p, .int .i64 (nd.length : Int), .int .i64 0] rfl (by rfl) ((blk_new2' w2 _ 33 #[.slice A2p nd.length c2p, .int .i64 (nd.length : Int), .int .i64 0] rfl).news 1) (by simp [Value.oneCell']) (by unfold maxLen; omega) (by omega) (by simp; omega) ?_)
            intro A2 c2 w4 hap
            have HIn := Lib.hid (ss_next (w := w) (vs := [.slice A2p nd.length c2p, .int .i64 (nd.length : Int), .int .i64 0]) HRW.out HBE.out HK3.out ((Kept.refl (fun _ => False) _).alloc _) hap rfl HEL.out)
            clear hap
            go_wp2_with fail
            go_roundg (len - (k + 1))
            case measure => omega
            case rel => exact ⟨k + 1, A2, c2, pos, by omega, rfl, by go_num, rfl, by go_num, hpb, _, Lib.hid (by rw [HF.out, HNX.out, List.append_assoc]; rfl), HIn⟩
      · have hps := opStep_pos (all := all) (pos := pos) HOK.out
        have hnext := opRuns_at (all := all) (pos := pos) (k := k) (ops := ops) (by rw [HL.out]; exact hlt)
        rw [HOP.out] at hnext
        have hst : opStep all pos (2, a, b) = if b < 0 ∨ 2 < b ∨ a + (if b = 1 then (pos : Int) else if b = 2 then (n : Int) else 0) < 0 then (([], 0, 7), pos) else (([], a + (if b = 1 then (pos : Int) else if b = 2 then (n : Int) else 0), 0), (a + (if b = 1 then (pos : Int) else if b = 2 then (n : Int) else 0)).toNat) := by
          unfold opStep seekTo
          rw [HAL.out]
          simp
        rw [hst] at hnext hps
        rw [HAL.out] at hps
        clear hst
        by_cases hb0 : b = 0
        · subst hb0
          simp only [show ¬ ((0 : Int) < 0) by omega, show ¬ ((2 : Int) < 0) by omega, show ¬ ((0 : Int) = 1) by omega, show ¬ ((0 : Int) = 2) by omega, if_false, false_or] at hnext hps
          by_cases hneg : a + 0 < 0
          · rw [if_pos hneg] at hnext hps
            simp only at hnext hps
            have HNX := Lib.hid hnext
            have hneg' : a < 0 := by omega
            have hpb : pos ≤ n + (k + 1) * 1048576 := le_more hpo
            clear hnext hps
            have hK3 : Kept (fun _ => False) wr (wr.alloc (.cells #[.int .i64 2, .int .i64 a, .int .i64 0] 26)) := (Kept.refl _ _).alloc _
            have HO3 := Lib.hid (own_keptS HRW.out hK3)
            have HEL : Hid (ElO (fun j => wr.heap.size ≤ j) (wr.alloc (.cells #[.int .i64 2, .int .i64 a, .int .i64 0] 26)) [.slice none 0 0, .int .i64 0, .int .i64 7] ([], 0, 7)) := Lib.hid ⟨none, 0, rfl, Nat.le_refl _, BytesAt.nil _ _ _⟩
            have HK3 := Lib.hid hK3
            clear hK3
            go_wp2_with (at_builtin; refine wpList_append_gen _ rfl (.tmp 120) (.tmp 122) 23 rfl w.heap.size 33 i1 _ 3 40 Tryd.underlying23 hi1 hy0 hy1 hy2 rfl (by omega) _ k xs rfl (HO3.out.alloc _) (some ⟨wr.heap.size + 1, 0, none⟩) 1 1 [.slice none 0 0, .int .i64 0, .int .i64 7] rfl (by rfl) ((blk_new2' wr _ 33 #[.slice none 0 0, .int .i64 0, .int .i64 7] rfl).news 1) (by simp [Value.oneCell']) (by unfold maxLen; omega) (by omega) (by simp; omega) ?_)
            intro A2 c2 w4 hap
            have HIn := Lib.hid (ss_next (w := w) (vs := [.slice none 0 0, .int .i64 0, .int .i64 7]) HRW.out HBE.out HK3.out ((Kept.refl (fun _ => False) _).alloc _) hap rfl HEL.out)
            clear hap
            go_wp2_with fail
            go_roundg (len - (k + 1))
            case measure => omega
            case rel => exact ⟨k + 1, A2, c2, pos, by omega, rfl, by go_num, rfl, by go_num, hpb, _, Lib.hid (by rw [HF.out, HNX.out, List.append_assoc]; rfl), HIn⟩
          · rw [if_neg hneg] at hnext hps
            obtain ⟨p', hp'⟩ : ∃ p' : Nat, a + 0 = (p' : Int) := ⟨(a + 0).toNat, by omega⟩
            rw [hp', Int.toNat_natCast] at hnext hps
            simp only at hnext hps
            have HNX := Lib.hid hnext
            have hval : a = (p' : Int) := by omega
            have hpb : p' ≤ n + (k + 1) * 1048576 := by omega
            have hp0 : ¬ (p' : Int) < 0 := by omega
            clear hnext hps hneg hp'
            obtain rfl := hval
            have hK3 : Kept (fun _ => False) wr (wr.alloc (.cells #[.int .i64 2, .int .i64 (p' : Int), .int .i64 0] 26)) := (Kept.refl _ _).alloc _
            have HO3 := Lib.hid (own_keptS HRW.out hK3)
            have HEL : Hid (ElO (fun j => wr.heap.size ≤ j) (wr.alloc (.cells #[.int .i64 2, .int .i64 (p' : Int), .int .i64 0] 26)) [.slice none 0 0, .int .i64 (p' : Int), .int .i64 0] ([], (p' : Int), 0)) := Lib.hid ⟨none, 0, rfl, Nat.le_refl _, BytesAt.nil _ _ _⟩
            have HK3 := Lib.hid hK3
            clear hK3
            go_wp2_with (at_builtin; refine wpList_append_gen _ rfl (.tmp 125) (.tmp 128) 23 rfl w.heap.size 33 i1 _ 3 40 Tryd.underlying23 hi1 hy0 hy1 hy2 rfl (by omega) _ k xs rfl (HO3.out.alloc _) (some ⟨wr.heap.size + 1, 0, none⟩) 1 1 [.slice none 0 0, .int .i64 (p' : Int), .int .i64 0] rfl (by rfl) ((blk_new2' wr _ 33 #[.slice none 0 0, .int .i64 (p' : Int), .int .i64 0] rfl).news 1) (by simp [Value.oneCell']) (by unfold maxLen; omega) (by omega) (by simp; omega) ?_)
            intro A2 c2 w4 hap
            have HIn := Lib.hid (ss_next (w := w) (vs := [.slice none 0 0, .int .i64 (p' : Int), .int .i64 0]) HRW.out HBE.out HK3.out ((Kept.refl (fun _ => False) _).alloc _) hap rfl HEL.out)
            clear hap
            go_wp2_with fail
            go_roundg (len - (k + 1))
            case measure => omega
            case rel => exact ⟨k + 1, A2, c2, p', by omega, rfl, by go_num, rfl, by go_num, hpb, _, Lib.hid (by rw [HF.out, HNX.out, List.append_assoc]; rfl), HIn⟩
        by_cases hb1 : b = 1
        · subst hb1
          simp only [show ¬ ((1 : Int) < 0) by omega, show ¬ ((2 : Int) < 1) by omega, if_true, if_false, false_or] at hnext hps
          by_cases hneg : a + (pos : Int) < 0
          · rw [if_pos hneg] at hnext hps
            simp only at hnext hps
            have HNX := Lib.hid hnext
            have hneg' : a + (pos : Int) < 0 := by omega
            have hpb : pos ≤ n + (k + 1) * 1048576 := le_more hpo
            clear hnext hps
            have hK3 : Kept (fun _ => False) wr (wr.alloc (.cells #[.int .i64 2, .int .i64 a, .int .i64 1] 26)) := (Kept.refl _ _).alloc _
            have HO3 := Lib.hid (own_keptS HRW.out hK3)
            have HEL : Hid (ElO (fun j => wr.heap.size ≤ j) (wr.alloc (.cells #[.int .i64 2, .int .i64 a, .int .i64 1] 26)) [.slice none 0 0, .int .i64 0, .int .i64 7] ([], 0, 7)) := Lib.hid ⟨none, 0, rfl, Nat.le_refl _, BytesAt.nil _ _ _⟩
            have HK3 := Lib.hid hK3
            clear hK3
            go_wp2_with (at_builtin; refine wpList_append_gen _ rfl (.tmp 120) (.tmp 122) 23 rfl w.heap.size 33 i1 _ 3 40 Tryd.underlying23 hi1 hy0 hy1 hy2 rfl (by omega) _ k xs rfl (HO3.out.alloc _) (some ⟨wr.heap.size + 1, 0, none⟩) 1 1 [.slice none 0 0, .int .i64 0, .int .i64 7] rfl (by rfl) ((blk_new2' wr _ 33 #[.slice none 0 0, .int .i64 0, .int .i64 7] rfl).news 1) (by simp [Value.oneCell']) (by unfold maxLen; omega) (by omega) (by simp; omega) ?_)
            intro A2 c2 w4 hap
            have HIn := Lib.hid (ss_next (w := w) (vs := [.slice none 0 0, .int .i64 0, .int .i64 7]) HRW.out HBE.out HK3.out ((Kept.refl (fun _ => False) _).alloc _) hap rfl HEL.out)
            clear hap
            go_wp2_with fail
            go_roundg (len - (k + 1))
            case measure => omega
            case rel => exact ⟨k + 1, A2, c2, pos, by omega, rfl, by go_num, rfl, by go_num, hpb, _, Lib.hid (by rw [HF.out, HNX.out, List.append_assoc]; rfl), HIn⟩
          · rw [if_neg hneg] at hnext hps
            obtain ⟨p', hp'⟩ : ∃ p' : Nat, a + (pos : Int) = (p' : Int) := ⟨(a + (pos : Int)).toNat, by omega⟩
            rw [hp', Int.toNat_natCast] at hnext hps
            simp only at hnext hps
            have HNX := Lib.hid hnext
            have hval : a + (pos : Int) = (p' : Int) := by omega
            have hpb : p' ≤ n + (k + 1) * 1048576 := by omega
            have hp0 : ¬ (p' : Int) < 0 := by omega
            clear hnext hps hneg hp'
            have hK3 : Kept (fun _ => False) wr (wr.alloc (.cells #[.int .i64 2, .int .i64 a, .int .i64 1] 26)) := (Kept.refl _ _).alloc _
            have HO3 := Lib.hid (own_keptS HRW.out hK3)
            have HEL : Hid (ElO (fun j => wr.heap.size ≤ j) (wr.alloc (.cells #[.int .i64 2, .int .i64 a, .int .i64 1] 26)) [.slice none 0 0, .int .i64 (p' : Int), .int .i64 0] ([], (p' : Int), 0)) := Lib.hid ⟨none, 0, rfl, Nat.le_refl _, BytesAt.nil _ _ _⟩
            have HK3 := Lib.hid hK3
            clear hK3
            go_wp2_with (at_builtin; refine wpList_append_gen _ rfl (.tmp 125) (.tmp 128) 23 rfl w.heap.size 33 i1 _ 3 40 Tryd.underlying23 hi1 hy0 hy1 hy2 rfl (by omega) _ k xs rfl (HO3.out.alloc _) (some ⟨wr.heap.size + 1, 0, none⟩) 1 1 [.slice none 0 0, .int .i64 (p' : Int), .int .i64 0] rfl (by rfl) ((blk_new2' wr _ 33 #[.slice none 0 0, .int .i64 (p' : Int), .int .i64 0] rfl).news 1) (by simp [Value.oneCell']) (by unfold maxLen; omega) (by omega) (by simp; omega) ?_)
            intro A2 c2 w4 hap
            have HIn := Lib.hid (ss_next (w := w) (vs := [.slice none 0 0, .int .i64 (p' : Int), .int .i64 0]) HRW.out HBE.out HK3.out ((Kept.refl (fun _ => False) _).alloc _) hap rfl HEL.out)
            clear hap
            go_wp2_with fail
            go_roundg (len - (k + 1))
            case measure => omega
            case rel => exact ⟨k + 1, A2, c2, p', by omega, rfl, by go_num, rfl, by go_num, hpb, _, Lib.hid (by rw [HF.out, HNX.out, List.append_assoc]; rfl), HIn⟩
        by_cases hb2 : b = 2
        · subst hb2
          simp only [show ¬ ((2 : Int) < 0) by omega, show ¬ ((2 : Int) < 2) by omega, show ¬ ((2 : Int) = 1) by omega, if_true, if_false, false_or] at hnext hps
          by_cases hneg : a + (n : Int) < 0
          · rw [if_pos hneg] at hnext hps
            simp only at hnext hps
            have HNX := Lib.hid hnext
            have hneg' : a + (n : Int) < 0 := by omega
            have hpb : pos ≤ n + (k + 1) * 1048576 := le_more hpo
            clear hnext hps
            have hK3 : Kept (fun _ => False) wr (wr.alloc (.cells #[.int .i64 2, .int .i64 a, .int .i64 2] 26)) := (Kept.refl _ _).alloc _
            have HO3 := Lib.hid (own_keptS HRW.out hK3)
            have HEL : Hid (ElO (fun j => wr.heap.size ≤ j) (wr.alloc (.cells #[.int .i64 2, .int .i64 a, .int .i64 2] 26)) [.slice none 0 0, .int .i64 0, .int .i64 7] ([], 0, 7)) := Lib.hid ⟨none, 0, rfl, Nat.le_refl _, BytesAt.nil _ _ _⟩
            have HK3 := Lib.hid hK3
            clear hK3
            go_wp2_with (at_builtin; refine wpList_append_gen _ rfl (.tmp 120) (.tmp 122) 23 rfl w.heap.size 33 i1 _ 3 40 Tryd.underlying23 hi1 hy0 hy1 hy2 rfl (by omega) _ k xs rfl (HO3.out.alloc _) (some ⟨wr.heap.size + 1, 0, none⟩) 1 1 [.slice none 0 0, .int .i64 0, .int .i64 7] rfl (by rfl) ((blk_new2' wr _ 33 #[.slice none 0 0, .int .i64 0, .int .i64 7] rfl).news 1) (by simp [Value.oneCell']) (by unfold maxLen; omega) (by omega) (by simp; omega) ?_)
            intro A2 c2 w4 hap
            have HIn := Lib.hid (ss_next (w := w) (vs := [.slice none 0 0, .int .i64 0, .int .i64 7]) HRW.out HBE.out HK3.out ((Kept.refl (fun _ => False) _).alloc _) hap rfl HEL.out)
            clear hap
            go_wp2_with fail
            go_roundg (len - (k + 1))
            case measure => omega
            case rel => exact ⟨k + 1, A2, c2, pos, by omega, rfl, by go_num, rfl, by go_num, hpb, _, Lib.hid (by rw [HF.out, HNX.out, List.append_assoc]; rfl), HIn⟩
          · rw [if_neg hneg] at hnext hps
            obtain ⟨p', hp'⟩ : ∃ p' : Nat, a + (n : Int) = (p' : Int) := ⟨(a + (n : Int)).toNat, by omega⟩
            rw [hp', Int.toNat_natCast] at hnext hps
            simp only at hnext hps
            have HNX := Lib.hid hnext
            have hval : a + (n : Int) = (p' : Int) := by omega
            have hpb : p' ≤ n + (k + 1) * 1048576 := by omega
            have hp0 : ¬ (p' : Int) < 0 := by omega
            clear hnext hps hneg hp'
            have hK3 : Kept (fun _ => False) wr (wr.alloc (.cells #[.int .i64 2, .int .i64 a, .int .i64 2] 26)) := (Kept.refl _ _).alloc _
            have HO3 := Lib.hid (own_keptS HRW.out hK3)
            have HEL : Hid (ElO (fun j => wr.heap.size ≤ j) (wr.alloc (.cells #[.int .i64 2, .int .i64 a, .int .i64 2] 26)) [.slice none 0 0, .int .i64 (p' : Int), .int .i64 0] ([], (p' : Int), 0)) := Lib.hid ⟨none, 0, rfl, Nat.le_refl _, BytesAt.nil _ _ _⟩
            have HK3 := Lib.hid hK3
            clear hK3
            go_wp2_with (at_builtin; refine wpList_append_gen _ rfl (.tmp 125) (.tmp 128) 23 rfl w.heap.size 33 i1 _ 3 40 Tryd.underlying23 hi1 hy0 hy1 hy2 rfl (by omega) _ k xs rfl (HO3.out.alloc _) (some ⟨wr.heap.size + 1, 0, none⟩) 1 1 [.slice none 0 0, .int .i64 (p' : Int), .int .i64 0] rfl (by rfl) ((blk_new2' wr _ 33 #[.slice none 0 0, .int .i64 (p' : Int), .int .i64 0] rfl).news 1) (by simp [Value.oneCell']) (by unfold maxLen; omega) (by omega) (by simp; omega) ?_)
            intro A2 c2 w4 hap
            have HIn := Lib.hid (ss_next (w := w) (vs := [.slice none 0 0, .int .i64 (p' : Int), .int .i64 0]) HRW.out HBE.out HK3.out ((Kept.refl (fun _ => False) _).alloc _) hap rfl HEL.out)
            clear hap
            go_wp2_with fail
            go_roundg (len - (k + 1))
            case measure => omega
            case rel => exact ⟨k + 1, A2, c2, p', by omega, rfl, by go_num, rfl, by go_num, hpb, _, Lib.hid (by rw [HF.out, HNX.out, List.append_assoc]; rfl), HIn⟩
        have hbad : b < 0 ∨ 2 < b := by omega
        rw [if_pos (by omega)] at hnext hps
        simp only at hnext hps
        have HNX := Lib.hid hnext
        have e1 : (b == 1) = false := by simp [hb1]
        have e2 : (b == 2) = false := by simp [hb2]
        have hpb : pos ≤ n + (k + 1) * 1048576 := le_more hpo
        clear hnext hps hb0 hb1 hb2
        by_cases hb0 : b < 0
        · have hK3 : Kept (fun _ => False) wr (wr.alloc (.cells #[.int .i64 2, .int .i64 a, .int .i64 b] 26)) := (Kept.refl _ _).alloc _
          have HO3 := Lib.hid (own_keptS HRW.out hK3)
          have HEL : Hid (ElO (fun j => wr.heap.size ≤ j) (wr.alloc (.cells #[.int .i64 2, .int .i64 a, .int .i64 b] 26)) [.slice none 0 0, .int .i64 0, .int .i64 7] ([], 0, 7)) := Lib.hid ⟨none, 0, rfl, Nat.le_refl _, BytesAt.nil _ _ _⟩
          have HK3 := Lib.hid hK3
          clear hK3
          go_wp2_with (at_builtin; refine wpList_append_gen _ rfl (.tmp 120) (.tmp 122) 23 rfl w.heap.size 33 i1 _ 3 40 Tryd.underlying23 hi1 hy0 hy1 hy2 rfl (by omega) _ k xs rfl (HO3.out.alloc _) (some ⟨wr.heap.size + 1, 0, none⟩) 1 1 [.slice none 0 0, .int .i64 0, .int .i64 7] rfl (by rfl) ((blk_new2' wr _ 33 #[.slice none 0 0, .int .i64 0, .int .i64 7] rfl).news 1) (by simp [Value.oneCell']) (by unfold maxLen; omega) (by omega) (by simp; omega) ?_)
          intro A2 c2 w4 hap
          have HIn := Lib.hid (ss_next (w := w) (vs := [.slice none 0 0, .int .i64 0, .int .i64 7]) HRW.out HBE.out HK3.out ((Kept.refl (fun _ => False) _).alloc _) hap rfl HEL.out)
          clear hap
          go_wp2_with fail
          go_roundg (len - (k + 1))
          case measure => omega
          case rel => exact ⟨k + 1, A2, c2, pos, by omega, rfl, by go_num, rfl, by go_num, hpb, _, Lib.hid (by rw [HF.out, HNX.out, List.append_assoc]; rfl), HIn⟩
        · have hb2 : 2 < b := by omega
          have hK3 : Kept (fun _ => False) wr (wr.alloc (.cells #[.int .i64 2, .int .i64 a, .int .i64 b] 26)) := (Kept.refl _ _).alloc _
          have HO3 := Lib.hid (own_keptS HRW.out hK3)
          have HEL : Hid (ElO (fun j => wr.heap.size ≤ j) (wr.alloc (.cells #[.int .i64 2, .int .i64 a, .int .i64 b] 26)) [.slice none 0 0, .int .i64 0, .int .i64 7] ([], 0, 7)) := Lib.hid ⟨none, 0, rfl, Nat.le_refl _, BytesAt.nil _ _ _⟩
          have HK3 := Lib.hid hK3
          clear hK3
          go_wp2_with (at_builtin; refine wpList_append_gen _ rfl (.tmp 120) (.tmp 122) 23 rfl w.heap.size 33 i1 _ 3 40 Tryd.underlying23 hi1 hy0 hy1 hy2 rfl (by omega) _ k xs rfl (HO3.out.alloc _) (some ⟨wr.heap.size + 1, 0, none⟩) 1 1 [.slice none 0 0, .int .i64 0, .int .i64 7] rfl (by rfl) ((blk_new2' wr _ 33 #[.slice none 0 0, .int .i64 0, .int .i64 7] rfl).news 1) (by simp [Value.oneCell']) (by unfold maxLen; omega) (by omega) (by simp; omega) ?_)
          intro A2 c2 w4 hap
          have HIn := Lib.hid (ss_next (w := w) (vs := [.slice none 0 0, .int .i64 0, .int .i64 7]) HRW.out HBE.out HK3.out ((Kept.refl (fun _ => False) _).alloc _) hap rfl HEL.out)
          clear hap
          go_wp2_with fail
          go_roundg (len - (k + 1))
          case measure => omega
          case rel => exact ⟨k + 1, A2, c2, pos, by omega, rfl, by go_num, rfl, by go_num, hpb, _, Lib.hid (by rw [HF.out, HNX.out, List.append_assoc]; rfl), HIn⟩
      · have hnext := opRuns_at (all := all) (pos := pos) (k := k) (ops := ops) (by rw [HL.out]; exact hlt)
        rw [HOP.out] at hnext
        have hst : opStep all pos (3, a, b) = (([], (n : Int), 0), pos) := by
          unfold opStep
          rw [if_neg (show ¬ (3 : Int) = 0 by omega), if_neg (show ¬ (3 : Int) = 1 by omega), if_neg (show ¬ (3 : Int) = 2 by omega), HAL.out]
        rw [hst] at hnext
        have HNX := Lib.hid hnext
        have hpb : pos ≤ n + (k + 1) * 1048576 := le_more hpo
        clear hnext hst
        have hK3 : Kept (fun _ => False) wr (wr.alloc (.cells #[.int .i64 3, .int .i64 a, .int .i64 b] 26)) := (Kept.refl _ _).alloc _
        have HO3 := Lib.hid (own_keptS HRW.out hK3)
        have HEL : Hid (ElO (fun j => wr.heap.size ≤ j) (wr.alloc (.cells #[.int .i64 3, .int .i64 a, .int .i64 b] 26)) [.slice none 0 0, .int .i64 (n : Int), .int .i64 0] ([], (n : Int), 0)) := Lib.hid ⟨none, 0, rfl, Nat.le_refl _, BytesAt.nil _ _ _⟩
        have HK3 := Lib.hid hK3
        clear hK3
        go_wp2_with (at_builtin; refine wpList_append_gen _ rfl (.tmp 132) (.tmp 136) 23 rfl w.heap.size 33 i1 _ 3 40 Tryd.underlying23 hi1 hy0 hy1 hy2 rfl (by omega) _ k xs rfl (HO3.out.alloc _) (some ⟨wr.heap.size + 1, 0, none⟩) 1 1 [.slice none 0 0, .int .i64 (n : Int), .int .i64 0] rfl (by rfl) ((blk_new2' wr _ 33 #[.slice none 0 0, .int .i64 (n : Int), .int .i64 0] rfl).news 1) (by simp [Value.oneCell']) (by unfold maxLen; omega) (by omega) (by simp; omega) ?_)
        intro A2 c2 w4 hap
        have HIn := Lib.hid (ss_next (w := w) (vs := [.slice none 0 0, .int .i64 (n : Int), .int .i64 0]) HRW.out HBE.out HK3.out ((Kept.refl (fun _ => False) _).alloc _) hap rfl HEL.out)
        clear hap
        go_wp2_with fail
        go_roundg (len - (k + 1))
        case measure => omega
        case rel => exact ⟨k + 1, A2, c2, pos, by omega, rfl, by go_num, rfl, by go_num, hpb, _, Lib.hid (by rw [HF.out, HNX.out, List.append_assoc]; rfl), HIn⟩
    · have HK : Hid (k = len) := Lib.hid (by omega)
      go_wp2_with fail
      go_ret
      have h1 := HF.out
      rw [List.drop_of_length_le (by have := HL.out; have := HK.out; omega)] at h1
      simp only [opRuns, List.append_nil] at h1
      have hl := HRW.out.len
      rw [h1]
      subst hl
      exact ⟨A', c', rfl, own_cap HRW.out.own, (HRW.out.els mvO).mono mvO (fun j _ hj => hj.1), HBE.out⟩

end Go.Proofs.YtdlgknaipljhhaaDoor
