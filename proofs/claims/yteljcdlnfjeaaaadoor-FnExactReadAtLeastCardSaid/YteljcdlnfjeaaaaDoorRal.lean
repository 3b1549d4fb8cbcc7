/- impl.ReadAtLeast and spec.ReadAtLeast over a valid source. -/
import Derived.Test.YteljcdlnfjeaaaaDoorSrcNew
import Derived.Test.YteljcdlnfjeaaaaDoorIo
import Derived.Test.YteljcdlnfjeaaaaDoorSAt
import Derived.Deep.RegionWith
import Derived.Deep.RegionHeld3
set_option linter.unusedVariables false
set_option linter.unusedSimpArgs false
namespace Go.Proofs.YteljcdlnfjeaaaaDoor
open Go.RowKit

/-- io.ReadAtLeast, whatever the number of bytes asked for -/
theorem readAtLeast_gen {B : Nat} {S : Nat → Prop} {w : World} {E : Nat → Addr} (hE : Errs B w E) {b g pb : Nat} (hBb : B ≤ b) (hBg : B ≤ g) (hBp : B ≤ pb) (hBw : B ≤ w.heap.size) {st : List (List Int × Int)} {L : Int} (h : Src S w b g st L)
    (hS : ∀ k, S k → k ≠ b ∧ k ≠ g ∧ k ≠ pb) {pc : List Value} (hp : Blk w pb 5 pc.toArray) {size c : Nat} (least : Nat) (hsz : size ≤ pc.length) (hcc : size ≤ c) (hbd : size ≤ 281474976710656) :
    Calls Tryd.prog 34 #[.iface 65 (.pointer (some ⟨b, 0, none⟩)), .slice (some ⟨pb, 0, none⟩) size c, .int .i64 least] w (RalPost S E b g pb pc size least st L w) := by
  by_cases hle : least ≤ size
  · exact readAtLeast_any hE hBb hBg hBp hBw h hS hp hsz hcc hbd hle
  · have := readAtLeast_short (c := c) hE h hp (least := (least : Int)) (show (size : Int) < (least : Int) by omega)
    rwa [Int.toNat_natCast] at this

/-- two answers, their bytes in new memory -/
def Got2Post (R1 R2 : List Int × Int) (w : World) (e : Ending) (w' : World) : Prop :=
  ∃ A1 c1 A2 c2, e = .returned (.tuple #[.agg #[.slice A1 R1.1.length c1, .int .i64 R1.2], .agg #[.slice A2 R2.1.length c2, .int .i64 R2.2]]) ∧ R1.1.length ≤ c1 ∧ R2.1.length ≤ c2 ∧ BytesAt (fun j => w.heap.size ≤ j) w' A1 R1.1 ∧ BytesAt (fun j => w.heap.size ≤ j) w' A2 R2.1 ∧ Below w.heap.size w w'

set_option maxHeartbeats 1000000 in
set_option maxRecDepth 100000 in
theorem implReadAtLeast_any {B : Nat} {S : Nat → Prop} {w : World} {E : Nat → Addr} (hE : Errs B w E) (hBw : B ≤ w.heap.size) {A : Option Addr} {st : List (List Int × Int)} {L : Int} (c : Nat) (h : RecsAt S w A st)
    (hn : st.length * 32 ≤ 140737488355328) (hd : ∀ i, i < st.length → (dat st i).length ≤ 140737488355328) (hv : Valid L st) (hL : st = [] → L = 1) (size least thn : Nat) (hs1 : size ≤ 1048576) (hs2 : thn ≤ 1048576) :
    Calls Tryd.prog 19 #[.agg #[.slice A st.length c], .int .i64 size, .int .i64 least, .int .i64 thn] w (Got2Post (atLeast L size least st).1 (atLeast L thn thn (atLeast L size least st).2).1 w) := by
  have C := fun (o1 o2 o3 : Obj) => Lib.hid (newReader_src c (((h.alloc o1).alloc o2).alloc o3) hn hd hv hL)
  have HE := Lib.hid hE
  have HG1 : Hid (Blk (((w.alloc (.cells #[.slice A st.length c] 25)).alloc (.cells #[.slice none 0 0, .int .i64 0] 39)).alloc (.cells #[.slice none 0 0, .int .i64 0] 39)) (w.heap.size + 1) 39 #[.slice none 0 0, .int .i64 0]) := Lib.hid (by
    have := (Blk.new (w.alloc (.cells #[.slice A st.length c] 25)) 39 #[.slice none 0 0, .int .i64 0]).alloc (.cells #[.slice none 0 0, .int .i64 0] 39)
    simpa using this)
  have HG2 : Hid (Blk (((w.alloc (.cells #[.slice A st.length c] 25)).alloc (.cells #[.slice none 0 0, .int .i64 0] 39)).alloc (.cells #[.slice none 0 0, .int .i64 0] 39)) (w.heap.size + 2) 39 #[.slice none 0 0, .int .i64 0]) := Lib.hid (by
    have := Blk.new ((w.alloc (.cells #[.slice A st.length c] 25)).alloc (.cells #[.slice none 0 0, .int .i64 0] 39)) 39 #[.slice none 0 0, .int .i64 0]
    simpa using this)
  obtain ⟨pc1, hpc1, hmk1⟩ := make_bytes size (by omega)
  obtain ⟨pc2, hpc2, hmk2⟩ := make_bytes thn (by omega)
  have hae1 := atLeast_err size least hv
  have hal1 := atLeast_len L size least st
  have hv1 := atLeast_valid size least hv
  have hae2 := atLeast_err thn thn hv1
  have hal2 := atLeast_len L thn thn (atLeast L size least st).2
  clear h hd hL hE hv hv1
  go_enter Tryd.func19, Tryd.ntmps19
  go_wp2_with fail
  refine (C _ _ _).out.mono ?_
  rintro e w1 ⟨b, g, rfl, hb1, hg1, hb2, hsrc, hbel, hg2⟩
  simp at hb1 hg1
  have hBel1 : Below w.heap.size w w1 := ((((Below.refl _ _).alloc (Nat.le_refl _) _).alloc (by simp) _).alloc (by simp; omega) _).trans (hbel.mono (by simp; omega))
  have hz1 := hbel.size
  simp at hz1
  have G1 := HG1.out.below hbel (by simp)
  have G2 := HG2.out.below hbel (by simp)
  obtain ⟨S0, hS0, hsrc'⟩ : ∃ S0 : Nat → Prop, (∀ j, S0 j → j < w1.heap.size ∧ j ≠ b ∧ j ≠ g) ∧ Src S0 w1 b g st L := ⟨_, fun j hj => ⟨hj.2.1, hj.2.2.1, hj.2.2.2⟩, hsrc⟩
  have hKa : Kept (fun _ => False) w1 (w1.alloc (.cells pc1.toArray 5)) := (Kept.refl _ _).alloc _
  have hE1 := HE.out.below (hBel1.mono hBw)
  have hEa : Errs B (w1.alloc (.cells pc1.toArray 5)) E := hE1.below (hKa.below (by omega) fun _ _ hf => hf)
  have C1 := readAtLeast_gen hEa (b := b) (g := g) (pb := w1.heap.size) (by omega) (by omega) (by omega) (by simp; omega) (hsrc'.kept hKa fun _ _ _ hf => hf) (fun j hj => by
    have := hS0 j hj
    exact ⟨this.2.1, this.2.2, by omega⟩) (Blk.new w1 5 pc1.toArray) (size := size) (c := size) least (by omega) (Nat.le_refl _) (by omega)
  unfold RalPost at C1
  have HS0 := Lib.hid hS0
  have HBel1 := Lib.hid hBel1
  have HG1' := Lib.hid G1
  have HG2' := Lib.hid G2
  have C1' := Lib.hid C1
  generalize hR1 : atLeast L size least st = R at *
  obtain ⟨⟨nd1, ne1⟩, ns⟩ := R
  simp only at *
  clear C HG1 HG2 hsrc hsrc' hbel hBel1 G1 G2 hKa hE1 hEa C1 hS0 hR1 hmk2
  go_wp2_with fail
  refine C1'.out.mono ?_
  rintro e w2 ⟨rfl, hsrc2, hblk2, hkept2⟩
  have hz2 := hkept2.size
  simp at hz2
  have hK2 : Kept (fun j => j = b ∨ j = g) w1 w2 := ((Kept.refl (fun j => j = b ∨ j = g) w1).alloc (.cells pc1.toArray 5)).trans hkept2 (fun j hj hD => by
    rcases hD with h | h | h
    · exact .inl h
    · exact .inr h
    · omega)
  have hBel2 : Below w.heap.size w w2 := HBel1.out.trans (hK2.below HBel1.out.size fun j hj hD => by omega)
  have hKb : Kept (fun _ => False) w2 (w2.alloc (.cells pc2.toArray 5)) := (Kept.refl _ _).alloc _
  have hE2 := HE.out.below (hBel2.mono hBw)
  have hEb : Errs B (w2.alloc (.cells pc2.toArray 5)) E := hE2.below (hKb.below (by omega) fun _ _ hf => hf)
  obtain ⟨pc2', hpc2', hmk2'⟩ := make_bytes thn (by omega)
  have C2 := readAtLeast_gen (hE2.below (((Kept.refl (fun _ => False) w2).alloc (.cells pc2'.toArray 5)).below (by omega) fun _ _ hf => hf)) (b := b) (g := g) (pb := w2.heap.size) (by omega) (by omega) (by omega) (by simp; omega) (hsrc2.kept ((Kept.refl (fun _ => False) w2).alloc (.cells pc2'.toArray 5)) fun _ _ _ hf => hf) (fun j hj => by
    have := HS0.out j hj
    exact ⟨this.2.1, this.2.2, by omega⟩) (Blk.new w2 5 pc2'.toArray) (size := thn) (c := thn) thn (by omega) (Nat.le_refl _) (by omega)
  unfold RalPost at C2
  have HBY1 : Hid (BytesAt (· = w1.heap.size) w2 (some ⟨w1.heap.size, 0, none⟩) nd1) := Lib.hid (blk_bytes hblk2)
  have HK2 := Lib.hid hK2
  have HBel2 := Lib.hid hBel2
  have C2' := Lib.hid C2
  generalize hR2 : atLeast L thn thn ns = R at *
  obtain ⟨⟨nd2, ne2⟩, ns2⟩ := R
  simp only at *
  clear hsrc2 hblk2 hkept2 hK2 hBel2 hKb hE2 hEb C2 hR2 C1' hmk1
  go_wp2_with fail
  refine C2'.out.mono ?_
  rintro e w3 ⟨rfl, hsrc3, hblk3, hkept3⟩
  have hz3 := hkept3.size
  simp at hz3
  have hK3 : Kept (fun j => j = b ∨ j = g) w2 w3 := ((Kept.refl (fun j => j = b ∨ j = g) w2).alloc (.cells pc2'.toArray 5)).trans hkept3 (fun j hj hD => by
    rcases hD with h | h | h
    · exact .inl h
    · exact .inr h
    · omega)
  have hBel3 : Below w.heap.size w w3 := HBel2.out.trans (hK3.below HBel2.out.size fun j hj hD => by omega)
  have hE3 := HE.out.below (hBel3.mono hBw)
  have CE1 := fromError_any hE3.drew ne1 (isErr_small hae1)
  have CE2 := fromError_any hE3.drew ne2 (isErr_small hae2)
  rw [codeI_small hae1] at CE1
  rw [codeI_small hae2] at CE2
  have hK13 : Kept (fun j => j = b ∨ j = g) w1 w3 := HK2.out.trans hK3 fun _ _ h => h
  have Q1 := HG1'.out.kept hK13 (by omega)
  have Q2 := HG2'.out.kept hK13 (by omega)
  have q1 := Q1.cell 0
  have q2 := Q1.cell 1
  have q3 := Q1.frozen 0
  have q4 := Q1.frozen 1
  have q5 := Q2.cell 0
  have q6 := Q2.cell 1
  have q7 := Q2.frozen 0
  have q8 := Q2.frozen 1
  simp at q1 q2 q5 q6
  have hsl1 := fun w' : World => slice_bytes_to (some ⟨w1.heap.size, 0, none⟩) size size nd1.length hal1 w'
  have hsl2 := fun w' : World => slice_bytes_to (some ⟨w2.heap.size, 0, none⟩) thn thn nd2.length hal2 w'
  have HCE1 := Lib.hid CE1
  have HCE2 := Lib.hid CE2
  have HP : Hid (∀ u1 u2 u3 u4 : Value, Got2Post (nd1, ne1) (nd2, ne2) w (.returned (.tuple #[.agg #[.slice (some ⟨w1.heap.size, 0, none⟩) nd1.length size, .int .i64 ne1], .agg #[.slice (some ⟨w2.heap.size, 0, none⟩) nd2.length thn, .int .i64 ne2]])) ((((w3.drew.setCell ⟨w.heap.size + 1, 0, none⟩ u1).setCell ⟨w.heap.size + 1, 1, none⟩ u2).setCell ⟨w.heap.size + 2, 0, none⟩ u3).setCell ⟨w.heap.size + 2, 1, none⟩ u4)) := Lib.hid fun u1 u2 u3 u4 => by
    have hk : Kept (fun j => j = w.heap.size + 1 ∨ j = w.heap.size + 2) w3 ((((w3.drew.setCell ⟨w.heap.size + 1, 0, none⟩ u1).setCell ⟨w.heap.size + 1, 1, none⟩ u2).setCell ⟨w.heap.size + 2, 0, none⟩ u3).setCell ⟨w.heap.size + 2, 1, none⟩ u4) :=
      ((((((Kept.refl _ w3).drew).setCell (p := ⟨w.heap.size + 1, 0, none⟩) (fun _ => .inl rfl) u1).setCell (p := ⟨w.heap.size + 1, 1, none⟩) (fun _ => .inl rfl) u2).setCell (p := ⟨w.heap.size + 2, 0, none⟩) (fun _ => .inr rfl) u3).setCell (p := ⟨w.heap.size + 2, 1, none⟩) (fun _ => .inr rfl) u4)
    refine ⟨_, size, _, thn, rfl, hal1, hal2, ?_, ?_, hBel3.trans (hk.below hBel3.size fun j hj hD => by omega)⟩
    · exact ((HBY1.out.kept hK3 (fun k _ e hD => by omega)).kept hk (fun k _ e hD => by omega)).mono fun k _ e => by omega
    · exact ((blk_bytes hblk3).kept hk (fun k _ e hD => by omega)).mono fun k _ e => by omega
  clear CE1 CE2 hsrc3 hblk3 hkept3 hK3 hBel3 hE3 hK13 Q1 Q2 C2' hmk2' HBY1 HK2
  generalize errV E ne1 = ev1 at *
  generalize errV E ne2 = ev2 at *
  go_wp2_with fail
  go_region_with (go_at_call 32; first
    | ((with_reducible refine HCE1.out.mono ?_); rintro e w' ⟨rfl, rfl⟩; clear HCE1)
    | ((with_reducible refine HCE2.out.mono ?_); rintro e w' ⟨rfl, rfl⟩))
  all_goals
    go_wp2_with fail
    refine bodyPost_ret (v := .tuple #[.agg #[.slice (some ⟨w1.heap.size, 0, none⟩) nd1.length size, .int .i64 ne1], .agg #[.slice (some ⟨w2.heap.size, 0, none⟩) nd2.length thn, .int .i64 ne2]]) ?_ rfl ?_
    · simp [results, Tryd.results19, go_sem, q1, q2, q5, q6]
    · exact HP.out _ _ _ _

set_option maxRecDepth 100000 in
theorem sAtLeast_short {S : Nat → Prop} {w : World} {sb : Nat} {rem : List (List Int × Int)} {L : Int} {size least : Nat} (h : SpAt S w sb rem L) (hle : size < least) :
    Calls Tryd.prog 35 #[.pointer (some ⟨sb, 0, none⟩), .int .i64 size, .int .i64 least] w
      (GotPost S sb (atLeast L size least rem).1.1 (atLeast L size least rem).1.2 (atLeast L size least rem).2 L w) := by
  rw [atLeast_short hle]
  have hle' : (size : Int) < (least : Int) := by omega
  have HP : Hid (∀ o o', GotPost S sb [] 5 rem L w (.returned (.agg #[.slice (some ⟨w.heap.size + 1, 0, none⟩) 0 0, .int .i64 5])) ((w.alloc o).alloc o')) := Lib.hid fun o o' => by
    have hk : Kept (fun _ => False) w ((w.alloc o).alloc o') := ((Kept.refl _ w).alloc _).alloc _
    exact ⟨_, 0, rfl, Nat.le_refl _, BytesAt.nil _ _ _, h.kept hk (fun _ _ _ hf => hf), hk.mono fun _ _ hf => hf.elim⟩
  clear h
  go_enter Tryd.func35, Tryd.ntmps35
  go_wp2_with fail
  refine bodyPost_ret (v := .agg #[.slice (some ⟨w.heap.size + 1, 0, none⟩) 0 0, .int .i64 5]) ?_ rfl ?_
  · simp [results, Tryd.results35, go_sem]
  · exact HP.out _ _

theorem sAtLeast_gen {S : Nat → Prop} {w : World} {sb : Nat} {rem : List (List Int × Int)} {L : Int} {size : Nat} (least : Nat) (h : SpAt S w sb rem L) (hS : ∀ j, S j → j < w.heap.size) (hv : Valid L rem) (hsz : size ≤ 70368744177664) :
    Calls Tryd.prog 35 #[.pointer (some ⟨sb, 0, none⟩), .int .i64 size, .int .i64 least] w
      (GotPost S sb (atLeast L size least rem).1.1 (atLeast L size least rem).1.2 (atLeast L size least rem).2 L w) := by
  by_cases hle : least ≤ size
  · exact sAtLeast_any h hS hv hle hsz
  · exact sAtLeast_short h (by omega)

end Go.Proofs.YteljcdlnfjeaaaaDoor
