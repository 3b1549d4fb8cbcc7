/- impl.ReadFull, walked: it returns what filling buffers one after the other gives. -/
import Derived.Test.YtmhhblfolfojbaaDoorSrcNew
import Derived.Test.YtmhhblfolfojbaaDoorIo
set_option linter.unusedVariables false
set_option linter.unusedSimpArgs false
namespace Go.Proofs.YtmhhblfolfojbaaDoor
open Go.RowKit

/-- what holds at the head of a round: k answers are there, and the source is left at stk -/
def FullInv (E : Nat → Addr) (b g base : Nat) (S : Nat → Prop) (L : Int) (zs : List Int) (st : List (List Int × Int)) (w : World) (k : Nat) (A' : Option Addr) (c' : Nat) (wr : World) : Prop :=
  ∃ done xs stk, OutAt base wr A' k c' done xs ∧ Src S wr b g stk L ∧ readFulls L zs st = done ++ readFulls L (zs.drop k) stk ∧ Below w.heap.size w wr ∧ base ≤ wr.heap.size

set_option maxHeartbeats 1000000 in
set_option maxRecDepth 100000 in
theorem implReadFull_any {B : Nat} {S S1 : Nat → Prop} {w : World} {E : Nat → Addr} (hE : Errs B w E) (hBw : B ≤ w.heap.size) {A A1 : Option Addr} {st : List (List Int × Int)} {L : Int} {zs : List Int} (c c1 : Nat) (h : RecsAt S w A st)
    (hn : st.length * 32 ≤ 140737488355328) (hd : ∀ i, i < st.length → (dat st i).length ≤ 140737488355328) (hv : Valid L st) (hL : st = [] → L = 1) (hz : IntsAt S1 w A1 zs) (hzs : SizesOK zs) (hzn : zs.length * 32 ≤ 140737488355328) :
    Calls Tryd.prog 19 #[.agg #[.slice A st.length c], .slice A1 zs.length c1] w (GotsPost (readFulls L zs st) w) := by
  obtain ⟨i1, hi1, hy0, hy1, hy2⟩ := info_parts infoGot
  have C := fun o : Obj => Lib.hid (newReader_src c (h.alloc o) hn hd hv hL)
  have HZ := Lib.hid (hz.mono (S' := (· < w.heap.size)) fun k hk _ => hk)
  have HZS := Lib.hid hzs
  have HE := Lib.hid hE
  clear h hd hv hL hz hzs hE
  generalize hlen : zs.length = len at *
  have HL := Lib.hid hlen
  clear hlen
  go_enter Tryd.func19, Tryd.ntmps19
  go_wp2_with fail
  refine (C _).out.mono ?_
  rintro e w1 ⟨b, g, rfl, hb1, hg1, hb2, hsrc, hbel, hg2⟩
  simp at hb1 hg1
  have HBEL : Hid (Below w.heap.size w w1) := Lib.hid (((Below.refl _ _).alloc (Nat.le_refl _) _).trans (hbel.mono (by simp)))
  obtain ⟨S0, hS0, hsrc'⟩ : ∃ S0 : Nat → Prop, (∀ j, S0 j → j < w1.heap.size ∧ j ≠ b ∧ j ≠ g) ∧ Src S0 w1 b g st L := ⟨_, fun j hj => ⟨hj.2.1, hj.2.2.1, hj.2.2.2⟩, hsrc⟩
  have HSRC := Lib.hid hsrc'
  have HS0 := Lib.hid hS0
  clear hsrc hsrc' hbel hS0
  go_wp2_with fail
  generalize hbase : w1.heap.size = base at *
  have hbw : w.heap.size ≤ base := by have := HBEL.out.size; omega
  have HBASE := Lib.hid hbase
  clear hbase
  go_loopg [6, 17] len (fun f v i wr => ∃ (k : Nat) (A' : Option Addr) (c' : Nat), k ≤ len ∧ f = len - k ∧ i = .int .i64 k ∧ v = .slice A' k c' ∧ FullInv E b g base S0 L zs st w k A' c' wr)
  case atStart =>
    refine ⟨0, _, 0, Nat.zero_le _, by omega, rfl, rfl, [], [], st, ?_, ?_, by simp, ?_, ?_⟩
    · have := OutAt.empty w1 base (by rw [HBASE.out]; exact Nat.le_refl _)
      rw [HBASE.out] at this
      exact this
    · exact HSRC.out.kept ((Kept.refl (fun _ => False) _).alloc _) fun _ _ _ hf => hf
    · exact HBEL.out.alloc (by rw [HBASE.out]; exact hbw) _
    · have := HBASE.out
      simp; omega
  case round =>
    obtain ⟨k, A', c', hk, rfl, rfl, rfl, done, xs, stk, hout, hsrc, hfut, hbel, hbs⟩ := hrel
    have HO := Lib.hid hout
    have HS := Lib.hid hsrc
    have HF := Lib.hid hfut
    have HBr := Lib.hid hbel
    clear hout hsrc hfut hbel
    by_cases hlt : k < len
    · obtain ⟨ab, aoff, rfl, _, _, hcs⟩ := HZ.out.below HBr.out (by rw [HL.out]; omega)
      have g2 := hcs k (by rw [HL.out]; omega)
      have hzk := HZS.out.1 k (by rw [HL.out]; omega)
      rw [nth_def] at hzk
      have hdrop : zs.drop k = nth zs k :: zs.drop (k + 1) := by
        rw [List.drop_eq_getElem_cons (by rw [HL.out]; exact hlt), nth_get (by rw [HL.out]; exact hlt)]
      have HDR := Lib.hid hdrop
      clear hcs hdrop
      generalize hzz : nth zs k = z at *
      obtain ⟨zn, rfl⟩ : ∃ zn : Nat, z = (zn : Int) := ⟨z.toNat, by omega⟩
      clear hzz
      have hz1 : zn ≤ 1048576 := by omega
      obtain ⟨pc, hpc, hmk⟩ := make_bytes zn (by omega)
      have hKa : Kept (fun _ => False) wr (wr.alloc (.cells pc.toArray 5)) := (Kept.refl _ _).alloc _
      have hBwr : B ≤ wr.heap.size := by omega
      have hEr : Errs B (wr.alloc (.cells pc.toArray 5)) E := (HE.out.below (HBr.out.mono hBw)).below (hKa.below hBwr fun _ _ hf => hf)
      have C2 := readFull_any hEr (b := b) (g := g) (pb := wr.heap.size) (by omega) (by omega) hBwr (by simp; omega) (HS.out.kept hKa fun _ _ _ hf => hf) (fun j hj => by
        have := HS0.out j hj
        exact ⟨this.2.1, this.2.2, by omega⟩) (Blk.new wr 5 pc.toArray) (size := zn) (c := zn) (by omega) (Nat.le_refl _) (by omega)
      have hal := atLeast_len L zn zn stk
      have hae := atLeast_err zn zn HS.out.1
      have hnext : readFulls L (zs.drop k) stk = (atLeast L zn zn stk).1 :: readFulls L (zs.drop (k + 1)) (atLeast L zn zn stk).2 := by rw [HDR.out, readFulls, Int.toNat_natCast]
      unfold RalPost at C2
      generalize atLeast L zn zn stk = R at *
      obtain ⟨⟨nd, ne⟩, ns⟩ := R
      simp only at hal
      have C2' := Lib.hid C2
      have HAE := Lib.hid hae
      have HNX := Lib.hid hnext
      clear C2 hae hnext hKa hEr
      go_wp2_with fail
      refine C2'.out.mono ?_
      rintro e w3 ⟨rfl, hsrc3, hblk3, hkept3⟩
      have hsz3 := hkept3.size
      simp at hsz3
      have hK3 : Kept (fun j => j = b ∨ j = g) wr w3 := ((Kept.refl (fun j => j = b ∨ j = g) wr).alloc (.cells pc.toArray 5)).trans hkept3 (fun j hj hD => by
        rcases hD with h | h | h
        · exact .inl h
        · exact .inr h
        · omega)
      have hB3 : Below w.heap.size w w3 := HBr.out.trans (hK3.below HBr.out.size fun j hj hD => by omega)
      have hE3 : Errs B w3 E := HE.out.below (hB3.mono hBw)
      have CE' := Lib.hid (fromError_any hE3.drew ne (isErr_small HAE.out))
      rw [codeI_small HAE.out] at CE'
      have hO3 := HO.out.kept hK3 (fun j hj _ hD => by omega)
      have HS3 := Lib.hid hsrc3
      have HB3 := Lib.hid hblk3
      have HK3 := Lib.hid hK3
      have HBel3 := Lib.hid hB3
      have HO3 := Lib.hid hO3
      have hsl := slice_bytes_to (some ⟨wr.heap.size, 0, none⟩) zn zn nd.length hal
      clear hsrc3 hblk3 hkept3 hK3 hB3 hE3 hO3 hmk g2
      go_wp2_with fail
      go_region_law (first
        | (refine step_append_gen _ (by rfl) (.tmp 30) (.tmp 37) 37 (by rfl) base 45 i1 _ 2 32 Tryd.underlying37 hi1 hy0 hy1 hy2 rfl (by omega) _ k xs (by rfl) (own_drew (HO3.out.own.alloc _)) (some ⟨w3.heap.size, 0, none⟩) 1 1 [.slice (some ⟨wr.heap.size, 0, none⟩) nd.length zn, .int .i64 ne] (by rfl) (by rfl) (((Blk.new w3 45 #[.slice (some ⟨wr.heap.size, 0, none⟩) nd.length zn, .int .i64 ne]).drew).news 1) (by simp [Value.oneCell']) (by unfold maxLen; omega) (by omega) (by simp; omega) ?_; intro A2 c2 w4 hap)
        | (go_simp; go_at_call 32; refine CE'.out.mono ?_; rintro e w' ⟨rfl, rfl⟩))
      have hown := HO.out.own
      have hne : ∀ j, base ≤ j → (Value.slice A' k c').ownBlock = some j → j < wr.heap.size := fun j _ e => (own_block_lt hown e).2
      have hpb : BytesAt (fun j => base ≤ j ∧ some j ≠ (Value.slice A' k c').ownBlock) w3.drew (some ⟨wr.heap.size, 0, none⟩) nd :=
        (blk_bytes HB3.out.drew).mono fun j _ e => by
          subst e
          exact ⟨hbs, fun e => by have := hne _ hbs e.symm; omega⟩
      have hOn := OutAt.snoc (wr := w3.drew) (o := .cells #[.slice (some ⟨wr.heap.size, 0, none⟩) nd.length zn, .int .i64 ne] 45) (HO3.out.kept ((Kept.refl (fun _ => False) _).drew) fun _ _ _ hf => hf) hap hal hpb
      have hKn := hap.kept
      have hgeo : ∀ j, some j = (Value.slice A' k c').ownBlock → base ≤ j := fun j e => (own_block_lt hown e.symm).1
      have hSn : Src S0 w4 b g ns L := (HS3.out.kept (((Kept.refl (fun _ => False) _).alloc (.cells #[.slice (some ⟨wr.heap.size, 0, none⟩) nd.length zn, .int .i64 ne] 45)).drew) fun _ _ _ hf => hf).kept hKn fun j _ hj hD => by
        have h1 := hgeo j hD
        rcases hj with hj | hj | hj
        · have := (HS0.out j hj).1; omega
        · omega
        · omega
      have hBn : Below w.heap.size w w4 := ((HBel3.out.alloc HBel3.out.size _).drew).grown hap.grown (by have := HBel3.out.size; simp; omega) fun j e => by have := hgeo j e.symm; omega
      have hszn := hap.sizeLe
      simp at hszn
      have HOn := Lib.hid hOn
      have HSn := Lib.hid hSn
      have HBn := Lib.hid hBn
      clear hap hown hne hpb hOn hKn hgeo hSn hBn
      go_wp2_with fail
      go_roundg (len - (k + 1))
      case measure => omega
      case rel =>
        refine ⟨k + 1, A2, c2, by omega, rfl, by go_num, rfl, done ++ [(nd, ne)], _, ns, HOn.out, HSn.out, ?_, HBn.out, by omega⟩
        rw [HF.out, HNX.out, List.append_assoc]
        rfl
    · have HK : Hid (k = len) := Lib.hid (by omega)
      go_wp2_with fail
      go_ret
      have h1 := HF.out
      rw [List.drop_of_length_le (by have := HL.out; have := HK.out; omega)] at h1
      rw [h1]
      simp only [readFulls, List.append_nil]
      exact HO.out.post hbw HBr.out

end Go.Proofs.YtmhhblfolfojbaaDoor
