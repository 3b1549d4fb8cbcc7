/- impl.Section, walked. -/
import Derived.Test.YtdlgknaipljhhaaDoorSecI
set_option linter.unusedVariables false
set_option linter.unusedSimpArgs false
namespace Go.Proofs.YtdlgknaipljhhaaDoor
open Go.RowKit

theorem own_keptX {base : Nat} {X D : Nat → Prop} {wr w' : World} {A : Option Addr} {k c : Nat} {l : List (List Int × Int × Int)} {xs : List Value} (h : ElRow ElO 3 33 base X wr A k c l xs) (hk : Kept D wr w') (hd : ∀ j, j < wr.heap.size → ¬ X j → ¬ D j) : w'.ownsRow base 33 3 (.slice A k c) k xs := (h.kept mvO hk fun j _ hj hX => hd j hj hX).own

set_option maxHeartbeats 2000000 in
set_option maxRecDepth 100000 in
theorem implSection_any {B : Nat} {S0 S1 : Nat → Prop} {w : World} {E : Nat → Addr} (hE : Errs B w E) (hBw : B ≤ w.heap.size) {A A1 : Option Addr} {data : List Int} {ops : List (Int × Int × Int)} (c c1 off n : Nat) (h : BytesAt S0 w A data) (hn : off + n ≤ data.length) (hbd : data.length ≤ 140737488355328)
    (ho : ElsAt ElP 3 S1 w A1 ops) (hok : ∀ op ∈ ops, OpOK op) (hol : ops.length ≤ 1048576) :
    Calls Tryd.prog 10 #[.slice A data.length c, .int .i64 (off : Int), .int .i64 (n : Int), .slice A1 ops.length c1] w (OpsPost (opRuns ((data.drop off).take n) ops 0) w) := by
  obtain ⟨i0, hi0, hz0, hz1, hz2⟩ := info_parts infoU8
  obtain ⟨i1, hi1, hy0, hy1, hy2⟩ := info_parts infoOp
  have HD := Lib.hid ((h.alloc (.cells #[] 5)).news)
  have HOW := Lib.hid (own_empty w w.heap.size 5 1 (Nat.le_refl _))
  have HE := Lib.hid hE
  have HO := Lib.hid (ho.mono mvP (S' := (· < w.heap.size)) fun k hk _ => hk)
  have HOKS := Lib.hid hok
  have CN := fun (v : Addr) (w' : World) => Lib.hid (section_new v off n (by omega) w')
  clear h hE ho hok
  generalize hlen : ops.length = len at *
  have HL := Lib.hid hlen
  generalize hdl : data.length = dl at *
  have HDL := Lib.hid hdl
  have HBV := Lib.hid (show (bytesV data).length = dl * 1 by rw [bytesV_length]; omega)
  clear hlen hdl
  go_enter Tryd.func10, Tryd.ntmps10
  go_wp2_with (at_builtin; refine wpList_append_new _ rfl (.tmp 21) (.tmp 22) 22 rfl w.heap.size 5 i0 _ 1 1 Tryd.underlying22 hi0 hz0 hz1 hz2 rfl (by omega) _ rfl HOW.out A dl c (bytesV data) rfl HBV.out HD.out (bytesV_one data) (by unfold maxLen; omega) (by omega) (by simp) ?_)
  intro Ad cd w1 hap
  have hs1 := hap.sizeLe
  simp at hs1
  have hcd : dl ≤ cd := own_cap hap.own
  have HBY := Lib.hid (own_bytes hap.own)
  have hlt1 : ∀ j, (Value.slice Ad dl cd).ownBlock = some j → w.heap.size ≤ j ∧ j < w1.heap.size := fun j e => own_block_lt hap.own e
  have HLT1 := Lib.hid hlt1
  have HB1 : Hid (Below w.heap.size w w1) := Lib.hid (((Below.refl _ _).alloc (Nat.le_refl _) _).grown hap.grown (by simp) fun j e => by
    have e2 : w.heap.size = j := by simpa [Value.ownBlock] using e
    omega)
  clear hap hlt1
  go_wp2_with fail
  refine (bytesReader_new Ad dl cd _).mono ?_
  rintro e w2 ⟨rfl, rfl⟩
  go_wp2_with fail
  refine (CN _ _).out.mono ?_
  rintro e w2 ⟨rfl, rfl⟩
  simp only [World.size_alloc]
  obtain ⟨S, hS⟩ : ∃ S : Nat → Prop, S = fun j => (Value.slice Ad dl cd).ownBlock = some j := ⟨_, rfl⟩
  have HI0 : Hid (SIInv S (w1.heap.size + 1) w1.heap.size data off n ops w 0 (some ⟨w1.heap.size + 1 + 1, 0, none⟩) 0 ((((w1.alloc (.cells #[.slice Ad dl cd, .int .i64 0, .int .i64 (-1)] 64)).alloc (.cells #[.iface 40 (.pointer (some ⟨w1.heap.size, 0, none⟩)), .int .i64 (off : Int), .int .i64 (off : Int), .int .i64 ((off : Int) + (n : Int)), .int .i64 (n : Int)] 62)).alloc (.cells #[] 33)))) := Lib.hid (by
    refine ⟨[], [], 0, ?_, ⟨Ad, cd, ?_, ?_, ?_, ?_, ?_⟩, by simp, ?_, by omega⟩
    · have := ElRow.empty (El := ElO) (size := 3) 33 ((w1.alloc (.cells #[.slice Ad dl cd, .int .i64 0, .int .i64 (-1)] 64)).alloc (.cells #[.iface 40 (.pointer (some ⟨w1.heap.size, 0, none⟩)), .int .i64 (off : Int), .int .i64 (off : Int), .int .i64 ((off + n : Nat) : Int), .int .i64 (n : Int)] 62)) w.heap.size (SX S (w1.heap.size + 1) w1.heap.size) (by simp; omega) (fun hX => by
        simp at hX
        rcases hX with h | h | h
        · rw [hS] at h; have := (HLT1.out _ h).2; omega
        · omega
        · omega)
      simpa using this
    · have := (Blk.new (w1.alloc (.cells #[.slice Ad dl cd, .int .i64 0, .int .i64 (-1)] 64)) 62 #[.iface 40 (.pointer (some ⟨w1.heap.size, 0, none⟩)), .int .i64 (off : Int), .int .i64 (off : Int), .int .i64 ((off + n : Nat) : Int), .int .i64 (n : Int)]).alloc (.cells #[] 33)
      simpa using this
    · rw [HDL.out]
      exact ((Blk.new w1 _ _).alloc _).alloc _
    · rw [HDL.out]; exact hcd
    · rw [hS]
      exact ((HBY.out.alloc _).alloc _).alloc _
    · intro j hj
      rw [hS] at hj
      have := (HLT1.out j hj).2
      omega
    · have := HB1.out.size
      exact ((HB1.out.alloc this _).alloc (by simp; omega) _).alloc (by simp; omega) _)
  have HXA : Hid (∀ (wr : World), w1.heap.size + 1 < wr.heap.size → ∀ j, SX S (w1.heap.size + 1) w1.heap.size j → w.heap.size ≤ j ∧ j < wr.heap.size) := Lib.hid fun wr hsz j hX => by
    rcases hX with h | h | h
    · rw [hS] at h; have := HLT1.out j h; omega
    · omega
    · omega
  clear CN HBY HLT1 HB1 hS
  generalize hsb : w1.heap.size + 1 = sb at *
  generalize hrb : w1.heap.size = rb at *
  go_wp2_with fail
  go_loopg [10, 32] len (fun f v i wr => ∃ (k : Nat) (A' : Option Addr) (c' : Nat), k ≤ len ∧ f = len - k ∧ i = .int .i64 k ∧ v = .slice A' k c' ∧ SIInv S sb rb data off n ops w k A' c' wr)
  case atStart => exact ⟨0, _, 0, Nat.zero_le _, by omega, rfl, rfl, HI0.out⟩
  case round =>
    obtain ⟨k, A', c', hk, rfl, rfl, rfl, done, xs, pos, hrow, hsec, hfut, hbe, hpo⟩ := hrel
    have hsbl : sb < wr.heap.size := by obtain ⟨_, _, h1, _⟩ := hsec; exact h1.lt
    have HX := Lib.hid (HXA.out wr hsbl)
    have HRW := Lib.hid hrow
    have HSC := Lib.hid hsec
    have HF := Lib.hid hfut
    have HBE := Lib.hid hbe
    have HPO := Lib.hid hpo
    clear hrow hsec hfut hbe hpo
    by_cases hlt : k < len
    · obtain ⟨ab, aoff, rfl, _, hab, hcs⟩ := (HO.out.below mvP HBE.out).opAt (by rw [HL.out]; omega)
      obtain ⟨o1, o2, o3⟩ := hcs k (by rw [HL.out]; omega)
      have HOK := Lib.hid (HOKS.out (ops.getD k (0, 0, 0)) (by rw [List.getD_eq_getElem?_getD, List.getElem?_eq_getElem (by rw [HL.out]; exact hlt)]; exact List.getElem_mem _))
      generalize hop : ops.getD k (0, 0, 0) = op at *
      have HOP := Lib.hid hop
      obtain ⟨kd, a, b⟩ := op
      simp only at o1 o2 o3
      have hpos2 : pos ≤ 1152921504606846976 := by have := HPO.out; have := HDL.out; omega
      have hbd2 : data.length ≤ 281474976710656 := by have := HDL.out; omega
      have hn2 : off + n ≤ data.length := by have := HDL.out; omega
      clear hcs hop
      have hok := HOK.out
      unfold OpOK at hok
      simp only at hok
      rcases hok with ⟨rfl, ha0, ha1⟩ | ⟨rfl, ha0, ha1, hb0, hb1⟩ | ⟨rfl, ha0, ha1⟩ | rfl
      · obtain ⟨zn, rfl⟩ : ∃ zn : Nat, a = (zn : Int) := ⟨a.toNat, by omega⟩
        have hzn : zn ≤ 1048576 := by omega
        obtain ⟨pc, hpc, hmk⟩ := make_bytes zn (by omega)
        have hKa : Kept (fun _ => False) wr ((wr.alloc (.cells #[.int .i64 0, .int .i64 (zn : Int), .int .i64 b] 26)).alloc (.cells pc.toArray 5)) := ((Kept.refl _ _).alloc _).alloc _
        have hsz0 := HBE.out.size
        have hpb : Blk ((wr.alloc (.cells #[.int .i64 0, .int .i64 (zn : Int), .int .i64 b] 26)).alloc (.cells pc.toArray 5)) (wr.heap.size + 1) 5 pc.toArray := by
          have := Blk.new (wr.alloc (.cells #[.int .i64 0, .int .i64 (zn : Int), .int .i64 b] 26)) 5 pc.toArray
          simpa using this
        have hE1 := HE.out.below ((HBE.out.trans (hKa.below hsz0 fun _ _ hf => hf)).mono hBw)
        have hSp : ¬ S (wr.heap.size + 1) := fun hS => by have := (HX.out _ (.inl hS)).2; omega
        have C := sec_read (B := B) (pb := wr.heap.size + 1) (cp := zn) hE1 (HSC.out.kept hKa fun _ _ _ hf => hf) hn2 hbd2 hpos2 hpb hSp (by omega) (Nat.le_refl _) hzn
        have hall : ((data.drop off).take n).length = n := by simp; omega
        have hst : opStep ((data.drop off).take n) pos (0, (zn : Int), b) = ((partOf ((data.drop off).take n) pos zn, ((partOf ((data.drop off).take n) pos zn).length : Int), if n ≤ pos then 1 else 0), pos + (partOf ((data.drop off).take n) pos zn).length) := by unfold opStep; rw [if_pos rfl, hall]; rfl
        have hal := partOf_le ((data.drop off).take n) pos zn
        have hps := opStep_pos (all := (data.drop off).take n) (pos := pos) HOK.out
        have hnext := opRuns_at (all := (data.drop off).take n) (pos := pos) (k := k) (ops := ops) (by rw [HL.out]; exact hlt)
        rw [HOP.out] at hnext
        rw [hst] at hnext hps
        simp only [hall] at hps
        generalize partOf ((data.drop off).take n) pos zn = nd at *
        generalize hne : (if n ≤ pos then (1 : Int) else 0) = ne at *
        have hne01 : ne = 0 ∨ ne = 1 := by rw [← hne]; split <;> simp
        generalize pos + nd.length = pos' at C hnext hps

        simp only at hnext hps
        have HNX := Lib.hid hnext
        have HPS := Lib.hid (show pos' ≤ data.length + (k + 1) * 1048576 by have := HPO.out; omega)
        have C' := Lib.hid C
        clear C hst hall hnext hps hne hE1 hKa hpb hSp
        go_wp2_with fail
        refine C'.out.mono ?_
        rintro e w3 ⟨rfl, hsec3, ⟨rest, hblk3⟩, hk3⟩
        have hsz3 := hk3.size
        simp at hsz3
        have hK3 : Kept (fun j => j = sb ∨ j = wr.heap.size + 1) wr w3 := (((Kept.refl _ _).alloc _).alloc _).trans hk3 fun _ _ h => h
        have hE3 : Errs B w3 E := HE.out.below ((HBE.out.trans (hK3.below hsz0 fun j hj hD => by
          rcases hD with h | h
          · have := (HX.out j (.inr (.inl h))).1; omega
          · omega)).mono hBw)
        have CE' := Lib.hid (fromError_any hE3.drew ne (by rcases hne01 with h | h; exact .inl h; exact .inr ⟨1, h, rfl⟩))
        rw [show codeI ne = ne by rcases hne01 with rfl | rfl <;> rfl] at CE'
        have HO3 := Lib.hid (own_keptX HRW.out hK3 fun j hj hX hD => by
          rcases hD with h | h
          · exact hX (.inr (.inl h))
          · omega)
        have HEL : Hid (ElO (fun j => wr.heap.size ≤ j) w3 [.slice (some ⟨wr.heap.size + 1, 0, none⟩) nd.length zn, .int .i64 nd.length, .int .i64 ne] (nd, (nd.length : Int), ne)) := Lib.hid ⟨_, zn, rfl, hal, (blk_bytes hblk3).mono fun j _ e => by omega⟩
        have HSEC := Lib.hid hsec3
        have HK3 := Lib.hid hK3
        have hsl := slice_bytes_to (some ⟨wr.heap.size + 1, 0, none⟩) zn zn nd.length hal
        clear hsec3 hblk3 hk3 hK3 hE3 hmk C' o1 o2 o3
        go_wp2_with fail
        go_region_law (first
          | (refine step_append_gen _ (by rfl) (.tmp 49) (.tmp 57) 23 (by rfl) w.heap.size 33 i1 _ 3 40 Tryd.underlying23 hi1 hy0 hy1 hy2 rfl (by omega) _ k xs (by rfl) (own_drew (HO3.out.alloc _)) (some ⟨w3.heap.size, 0, none⟩) 1 1 [.slice (some ⟨wr.heap.size + 1, 0, none⟩) nd.length zn, .int .i64 nd.length, .int .i64 ne] (by rfl) (by rfl) (((Blk.new w3 33 #[.slice (some ⟨wr.heap.size + 1, 0, none⟩) nd.length zn, .int .i64 nd.length, .int .i64 ne]).drew).news 1) (by simp [Value.oneCell']) (by unfold maxLen; omega) (by omega) (by simp; omega) ?_; intro A2 c2 w4 hap)
          | (go_simp; go_at_call 20; refine CE'.out.mono ?_; rintro e w' ⟨rfl, rfl⟩))
        have HIn := Lib.hid (si_next (w := w) (vs := [.slice (some ⟨wr.heap.size + 1, 0, none⟩) nd.length zn, .int .i64 nd.length, .int .i64 ne]) HRW.out HBE.out HX.out HK3.out (fun j hj hD => by rcases hD with h | h; exact h; omega) HSEC.out (by rw [HF.out, HNX.out]) HPS.out (((Kept.refl (fun _ => False) w3).alloc _).drew) hap rfl HEL.out)
        clear hap
        go_wp2_with fail
        go_roundg (len - (k + 1))
        case measure => omega
        case rel => exact ⟨k + 1, A2, c2, by omega, rfl, by go_num, rfl, HIn.out⟩
      · obtain ⟨bo, rfl⟩ : ∃ bo : Nat, b = (bo : Int) := ⟨b.toNat, by omega⟩
        have hbo : bo ≤ 1048576 := by omega
        obtain ⟨zn, rfl⟩ : ∃ zn : Nat, a = (zn : Int) := ⟨a.toNat, by omega⟩
        have hzn : zn ≤ 1048576 := by omega
        obtain ⟨pc, hpc, hmk⟩ := make_bytes zn (by omega)
        have hKa : Kept (fun _ => False) wr ((wr.alloc (.cells #[.int .i64 1, .int .i64 (zn : Int), .int .i64 (bo : Int)] 26)).alloc (.cells pc.toArray 5)) := ((Kept.refl _ _).alloc _).alloc _
        have hsz0 := HBE.out.size
        have hpb : Blk ((wr.alloc (.cells #[.int .i64 1, .int .i64 (zn : Int), .int .i64 (bo : Int)] 26)).alloc (.cells pc.toArray 5)) (wr.heap.size + 1) 5 pc.toArray := by
          have := Blk.new (wr.alloc (.cells #[.int .i64 1, .int .i64 (zn : Int), .int .i64 (bo : Int)] 26)) 5 pc.toArray
          simpa using this
        have hE1 := HE.out.below ((HBE.out.trans (hKa.below hsz0 fun _ _ hf => hf)).mono hBw)
        have hSp : ¬ S (wr.heap.size + 1) := fun hS => by have := (HX.out _ (.inl hS)).2; omega
        have C := sec_readAt (B := B) (pb := wr.heap.size + 1) (cp := zn) (bo := bo) hE1 (HSC.out.kept hKa fun _ _ _ hf => hf) hn2 hbd2 hbo hpb hSp (by omega) (by omega) (Nat.le_refl _) hzn
        have hall : ((data.drop off).take n).length = n := by simp; omega
        have hst : opStep ((data.drop off).take n) pos (1, (zn : Int), (bo : Int)) = ((partOf ((data.drop off).take n) bo zn, ((partOf ((data.drop off).take n) bo zn).length : Int), if (partOf ((data.drop off).take n) bo zn).length < zn ∨ n ≤ bo then 1 else 0), pos) := by unfold opStep; rw [if_neg (show ¬ (1 : Int) = 0 by omega), if_pos rfl, hall]; simp only [Int.toNat_natCast, Int.ofNat_lt, Int.ofNat_le]
        have hal := partOf_le ((data.drop off).take n) bo zn
        have hps := opStep_pos (all := (data.drop off).take n) (pos := pos) HOK.out
        have hnext := opRuns_at (all := (data.drop off).take n) (pos := pos) (k := k) (ops := ops) (by rw [HL.out]; exact hlt)
        rw [HOP.out] at hnext
        rw [hst] at hnext hps
        simp only [hall] at hps
        generalize partOf ((data.drop off).take n) bo zn = nd at *
        generalize hne : (if nd.length < zn ∨ n ≤ bo then (1 : Int) else 0) = ne at *
        have hne01 : ne = 0 ∨ ne = 1 := by rw [← hne]; split <;> simp
        obtain ⟨pos', hpp⟩ : ∃ pos', pos' = pos := ⟨_, rfl⟩
        rw [← hpp] at C
        simp only at hnext hps
        have HNX : Hid (opRuns ((data.drop off).take n) (ops.drop k) pos = (nd, (nd.length : Int), ne) :: opRuns ((data.drop off).take n) (ops.drop (k + 1)) pos') := Lib.hid (by rw [hpp]; exact hnext)
        have HPS := Lib.hid (show pos' ≤ data.length + (k + 1) * 1048576 by have := HPO.out; omega)
        have C' := Lib.hid C
        clear C hst hall hnext hps hne hE1 hKa hpb hSp
        go_wp2_with fail
        refine C'.out.mono ?_
        rintro e w3 ⟨rfl, hsec3, ⟨rest, hblk3⟩, hk3⟩
        have hsz3 := hk3.size
        simp at hsz3
        have hK3 : Kept (fun j => j = sb ∨ j = wr.heap.size + 1) wr w3 := (((Kept.refl _ _).alloc _).alloc _).trans hk3 fun _ _ h => h
        have hE3 : Errs B w3 E := HE.out.below ((HBE.out.trans (hK3.below hsz0 fun j hj hD => by
          rcases hD with h | h
          · have := (HX.out j (.inr (.inl h))).1; omega
          · omega)).mono hBw)
        have CE' := Lib.hid (fromError_any hE3.drew ne (by rcases hne01 with h | h; exact .inl h; exact .inr ⟨1, h, rfl⟩))
        rw [show codeI ne = ne by rcases hne01 with rfl | rfl <;> rfl] at CE'
        have HO3 := Lib.hid (own_keptX HRW.out hK3 fun j hj hX hD => by
          rcases hD with h | h
          · exact hX (.inr (.inl h))
          · omega)
        have HEL : Hid (ElO (fun j => wr.heap.size ≤ j) w3 [.slice (some ⟨wr.heap.size + 1, 0, none⟩) nd.length zn, .int .i64 nd.length, .int .i64 ne] (nd, (nd.length : Int), ne)) := Lib.hid ⟨_, zn, rfl, hal, (blk_bytes hblk3).mono fun j _ e => by omega⟩
        have HSEC := Lib.hid hsec3
        have HK3 := Lib.hid hK3
        have hsl := slice_bytes_to (some ⟨wr.heap.size + 1, 0, none⟩) zn zn nd.length hal
        clear hsec3 hblk3 hk3 hK3 hE3 hmk C' o1 o2 o3
        go_wp2_with fail
        go_region_law (first
          | (refine step_append_gen _ (by rfl) (.tmp 72) (.tmp 80) 23 (by rfl) w.heap.size 33 i1 _ 3 40 Tryd.underlying23 hi1 hy0 hy1 hy2 rfl (by omega) _ k xs (by rfl) (own_drew (HO3.out.alloc _)) (some ⟨w3.heap.size, 0, none⟩) 1 1 [.slice (some ⟨wr.heap.size + 1, 0, none⟩) nd.length zn, .int .i64 nd.length, .int .i64 ne] (by rfl) (by rfl) (((Blk.new w3 33 #[.slice (some ⟨wr.heap.size + 1, 0, none⟩) nd.length zn, .int .i64 nd.length, .int .i64 ne]).drew).news 1) (by simp [Value.oneCell']) (by unfold maxLen; omega) (by omega) (by simp; omega) ?_; intro A2 c2 w4 hap)
          | (go_simp; go_at_call 20; refine CE'.out.mono ?_; rintro e w' ⟨rfl, rfl⟩))
        have HIn := Lib.hid (si_next (w := w) (vs := [.slice (some ⟨wr.heap.size + 1, 0, none⟩) nd.length zn, .int .i64 nd.length, .int .i64 ne]) HRW.out HBE.out HX.out HK3.out (fun j hj hD => by rcases hD with h | h; exact h; omega) HSEC.out (by rw [HF.out, HNX.out]) HPS.out (((Kept.refl (fun _ => False) w3).alloc _).drew) hap rfl HEL.out)
        clear hap
        go_wp2_with fail
        go_roundg (len - (k + 1))
        case measure => omega
        case rel => exact ⟨k + 1, A2, c2, by omega, rfl, by go_num, rfl, HIn.out⟩
      · have hKa : Kept (fun _ => False) wr (wr.alloc (.cells #[.int .i64 2, .int .i64 a, .int .i64 b] 26)) := (Kept.refl _ _).alloc _
        have hsz0 := HBE.out.size
        have hE1 := HE.out.below ((HBE.out.trans (hKa.below hsz0 fun _ _ hf => hf)).mono hBw)
        have C := sec_seek (B := B) (b := b) hE1 (HSC.out.kept hKa fun _ _ _ hf => hf) hn2 hbd2 hpos2 ⟨ha0, ha1⟩
        have hall : ((data.drop off).take n).length = n := by simp; omega
        have hps := opStep_pos (all := (data.drop off).take n) (pos := pos) HOK.out
        have hnext := opRuns_at (all := (data.drop off).take n) (pos := pos) (k := k) (ops := ops) (by rw [HL.out]; exact hlt)
        rw [HOP.out] at hnext
        have hd0 : (opStep ((data.drop off).take n) pos (2, a, b)).1.1 = [] := by
          unfold opStep
          rw [if_neg (show ¬ (2 : Int) = 0 by omega), if_neg (show ¬ (2 : Int) = 1 by omega), if_pos rfl]
          split <;> rfl
        rw [hall] at hps
        generalize opStep ((data.drop off).take n) pos (2, a, b) = r at *
        obtain ⟨⟨nd, nn, ne⟩, pos'⟩ := r
        simp only at hnext hps C hd0
        subst hd0
        have HNX := Lib.hid hnext
        have HPS := Lib.hid (show pos' ≤ data.length + (k + 1) * 1048576 by have := HPO.out; omega)
        have C' := Lib.hid C
        clear C hall hnext hps hE1 hKa
        go_wp2_with fail
        refine C'.out.mono ?_
        rintro e w3 ⟨x, rfl, hcx, hx, hsec3, hk3⟩
        have hsz3 := hk3.size
        simp at hsz3
        have hK3 : Kept (fun j => j = sb) wr w3 := ((Kept.refl _ _).alloc _).trans hk3 fun _ _ h => h
        have hE3 : Errs B w3 E := HE.out.below ((HBE.out.trans (hK3.below hsz0 fun j hj hD => by have := (HX.out j (.inr (.inl hD))).1; omega)).mono hBw)
        have CE' := Lib.hid (fromError_any hE3 x hx)
        rw [hcx] at CE'
        have HO3 := Lib.hid (own_keptX HRW.out hK3 fun j hj hX hD => hX (.inr (.inl hD)))
        have HEL : Hid (ElO (fun j => wr.heap.size ≤ j) w3 [.slice none 0 0, .int .i64 nn, .int .i64 ne] ([], nn, ne)) := Lib.hid ⟨none, 0, rfl, Nat.le_refl _, BytesAt.nil _ _ _⟩
        have HSEC := Lib.hid hsec3
        have HK3 := Lib.hid hK3
        clear hsec3 hk3 hK3 hE3 C' o1 o2 o3 hcx hx
        generalize errV E x = ev at *
        go_wp2_with fail
        refine CE'.out.mono ?_
        rintro e w' ⟨rfl, rfl⟩
        go_wp2_with (at_builtin; refine wpList_append_gen _ rfl (.tmp 93) (.tmp 98) 23 rfl w.heap.size 33 i1 _ 3 40 Tryd.underlying23 hi1 hy0 hy1 hy2 rfl (by omega) _ k xs rfl (HO3.out.alloc _) (some ⟨w3.heap.size, 0, none⟩) 1 1 [.slice none 0 0, .int .i64 nn, .int .i64 ne] rfl (by rfl) ((Blk.new w3 33 #[.slice none 0 0, .int .i64 nn, .int .i64 ne]).news 1) (by simp [Value.oneCell']) (by unfold maxLen; omega) (by omega) (by simp; omega) ?_)
        intro A2 c2 w4 hap
        have HIn := Lib.hid (si_next (w := w) (vs := [.slice none 0 0, .int .i64 nn, .int .i64 ne]) HRW.out HBE.out HX.out HK3.out (fun j hj hD => hD) HSEC.out (by rw [HF.out, HNX.out]) HPS.out ((Kept.refl (fun _ => False) w3).alloc _) hap rfl HEL.out)
        clear hap
        go_wp2_with fail
        go_roundg (len - (k + 1))
        case measure => omega
        case rel => exact ⟨k + 1, A2, c2, by omega, rfl, by go_num, rfl, HIn.out⟩
      · have hKa : Kept (fun _ => False) wr (wr.alloc (.cells #[.int .i64 3, .int .i64 a, .int .i64 b] 26)) := (Kept.refl _ _).alloc _
        have hsz0 := HBE.out.size
        have C' := Lib.hid (sec_size (HSC.out.kept hKa fun _ _ _ hf => hf) hn2 hbd2)
        have hall : ((data.drop off).take n).length = n := by simp; omega
        have hnext := opRuns_at (all := (data.drop off).take n) (pos := pos) (k := k) (ops := ops) (by rw [HL.out]; exact hlt)
        rw [HOP.out] at hnext
        have hst : opStep ((data.drop off).take n) pos (3, a, b) = (([], (n : Int), 0), pos) := by
          unfold opStep
          rw [if_neg (show ¬ (3 : Int) = 0 by omega), if_neg (show ¬ (3 : Int) = 1 by omega), if_neg (show ¬ (3 : Int) = 2 by omega), hall]
        rw [hst] at hnext
        have HNX := Lib.hid hnext
        have HPS : Hid (pos ≤ data.length + (k + 1) * 1048576) := Lib.hid (Nat.le_trans HPO.out (Nat.add_le_add_left (Nat.mul_le_mul_right _ (Nat.le_succ k)) _))
        clear hall hnext hKa hst
        go_wp2_with fail
        refine C'.out.mono ?_
        rintro e w3 ⟨rfl, q, rfl⟩
        have hsz3 : wr.heap.size ≤ ((wr.alloc (.cells #[.int .i64 3, .int .i64 a, .int .i64 b] 26)).drewN q).heap.size := by show wr.heap.size ≤ (wr.alloc (.cells #[.int .i64 3, .int .i64 a, .int .i64 b] 26)).heap.size; simp
        have hK3 : Kept (fun _ => False) wr ((wr.alloc (.cells #[.int .i64 3, .int .i64 a, .int .i64 b] 26)).drewN q) := ((Kept.refl _ _).alloc _).drewN q
        generalize (wr.alloc (.cells #[.int .i64 3, .int .i64 a, .int .i64 b] 26)).drewN q = w3 at *
        have HO3 := Lib.hid (own_keptX HRW.out hK3 fun j hj hX hD => hD)
        have HEL : Hid (ElO (fun j => wr.heap.size ≤ j) w3 [.slice none 0 0, .int .i64 (n : Int), .int .i64 0] ([], (n : Int), 0)) := Lib.hid ⟨none, 0, rfl, Nat.le_refl _, BytesAt.nil _ _ _⟩
        have HSEC := Lib.hid (HSC.out.kept hK3 fun _ _ _ hf => hf)
        have HK3 := Lib.hid hK3
        clear hK3 C' o1 o2 o3
        go_wp2_with (at_builtin; refine wpList_append_gen _ rfl (.tmp 102) (.tmp 106) 23 rfl w.heap.size 33 i1 _ 3 40 Tryd.underlying23 hi1 hy0 hy1 hy2 rfl (by omega) _ k xs rfl (HO3.out.alloc _) (some ⟨w3.heap.size, 0, none⟩) 1 1 [.slice none 0 0, .int .i64 (n : Int), .int .i64 0] rfl (by rfl) ((Blk.new w3 33 #[.slice none 0 0, .int .i64 (n : Int), .int .i64 0]).news 1) (by simp [Value.oneCell']) (by unfold maxLen; omega) (by omega) (by simp; omega) ?_)
        intro A2 c2 w4 hap
        have HIn := Lib.hid (si_next (w := w) (vs := [.slice none 0 0, .int .i64 (n : Int), .int .i64 0]) HRW.out HBE.out HX.out HK3.out (fun j hj hD => hD.elim) HSEC.out (by rw [HF.out, HNX.out]) HPS.out ((Kept.refl (fun _ => False) w3).alloc _) hap rfl HEL.out)
        clear hap
        go_wp2_with fail
        go_roundg (len - (k + 1))
        case measure => omega
        case rel => exact ⟨k + 1, A2, c2, by omega, rfl, by go_num, rfl, HIn.out⟩
    · have hkl : k = len := by omega
      have HDN := Lib.hid (si_done (show SIInv S sb rb data off n ops w k A' c' wr from ⟨done, xs, pos, HRW.out, HSC.out, HF.out, HBE.out, HPO.out⟩) (by have := HL.out; omega))
      go_wp2_with fail
      go_ret
      exact HDN.out

end Go.Proofs.YtdlgknaipljhhaaDoor
