/- io.Copy, impl.Copy and spec.Copy over a valid source. -/
import Derived.Test.YtmhhblfolfojbaaDoorCopyB
import Derived.Test.YtmhhblfolfojbaaDoorSame
import Derived.Deep.RegionHeld3
set_option linter.unusedVariables false
set_option linter.unusedSimpArgs false
namespace Go.Proofs.YtmhhblfolfojbaaDoor
open Go.RowKit

theorem Errs.drewN {B : Nat} {w : World} {E : Nat → Addr} (h : Errs B w E) (n : Nat) : Errs B (w.drewN n) E := h.keep fun _ _ => rfl

theorem reader_noWriteTo (v : Value) (w : World) : (Instr.typeAssert (.iface 65 v) 82 93 true).run Tryd.prog w = .ok (.tuple #[.nilIface, .bool false]) w :=
  run_typeAssert_lacksB Tryd.underlying93 (by kernel_rfl) (by kernel_rfl) v _ w
theorem reader_noLimited (v : Value) (w : World) : (Instr.typeAssert (.iface 65 v) 82 89 true).run Tryd.prog w = .ok (.tuple #[.pointer none, .bool false]) w := by kernel_rfl

/-- what a copy of a source to a sink with a limit comes to: what the sink has, and the error -/
def copyR (L : Int) (st : List (List Int × Int)) (lim : Nat) : List Int × Int := if lim < (joinD st).length then ((joinD st).take lim, 3) else (joinD st, if L = 1 then 0 else L)

theorem copyR_err {L : Int} {st : List (List Int × Int)} (hv : Valid L st) (lim : Nat) : (copyR L st lim).2 = 0 ∨ (copyR L st lim).2 = 1 ∨ (copyR L st lim).2 = 2 ∨ (copyR L st lim).2 = 3 := by
  have := hv.ends
  unfold copyR
  split
  · simp
  · simp only
    split <;> omega
theorem copyR_len (L : Int) (st : List (List Int × Int)) (lim : Nat) : (copyR L st lim).1.length ≤ (joinD st).length := by
  unfold copyR
  split
  · simp; omega
  · simp

theorem ioCopy_src {B : Nat} {E : Nat → Addr} {L : Int} {b g : Nat} {w : World} (hE : Errs B w E) (hBw : B ≤ w.heap.size) {st : List (List Int × Int)} {F G : Nat → Prop} (hI : SrcI B L b g st F w) {sb left : Nat} (hW : WrAt G w sb left []) (hBG : ∀ k, G k → B ≤ k) (hFG : ∀ k, F k → ¬ G k) (hleft : (left : Int) ≤ 9223372036854775807) (hN : (joinD st).length ≤ 70368744177664) :
    Calls Tryd.prog 35 #[.iface 58 (.pointer (some ⟨sb, 0, none⟩)), .iface 65 (.pointer (some ⟨b, 0, none⟩))] w (CpPost E sb F G (copyR L st left) w) := by
  have hv : Valid L st := by
    obtain ⟨S, h, _⟩ := hI
    exact h.1
  have C := copyBuffer_src (src_rdr B E L b g) srcM (fun st => (joinD st).length) (fun t F w m ⟨S, h, _⟩ hm he => rd_m h.1 hm he) (fun t F w m _ => rd_n L t m) (fun w => reader_noWriteTo _ w) (fun w => reader_noLimited _ w) hE hBw hI hW hBG hFG hleft hN
  rw [copy_src (bufSize_pos none) (srcM st + 1) st left [] hv (Nat.le_refl _)] at C
  simp only [List.nil_append] at C
  have C' : Hid (Calls Tryd.prog 41 #[.iface 58 (.pointer (some ⟨sb, 0, none⟩)), .iface 65 (.pointer (some ⟨b, 0, none⟩)), .slice none 0 0] w (CpPost E sb F G (copyR L st left) w)) := Lib.hid C
  clear C hE hI hW hBG hFG hN hv
  go_enter Tryd.func35, Tryd.ntmps35
  go_wp2_with fail
  refine C'.out.mono ?_
  rintro e w1 ⟨rfl, hq⟩
  have HQ := Lib.hid hq
  clear hq
  go_wp2_with fail
  go_ret2
  exact ⟨rfl, HQ.out⟩

/-- a number, an error's number and bytes in new memory -/
def Post3 (R : List Int × Int) (w : World) (e : Ending) (w' : World) : Prop :=
  ∃ A c, e = .returned (.tuple #[.int .i64 R.1.length, .int .i64 R.2, .slice A R.1.length c]) ∧ R.1.length ≤ c ∧ BytesAt (fun j => w.heap.size ≤ j) w' A R.1 ∧ Below w.heap.size w w'

theorem codeI_3 {c : Int} (h : c = 0 ∨ c = 1 ∨ c = 2 ∨ c = 3) : codeI c = c := by rcases h with rfl | rfl | rfl | rfl <;> rfl
theorem isErr_of3 {c : Int} (h : c = 0 ∨ c = 1 ∨ c = 2 ∨ c = 3) : c = 0 ∨ ∃ k : Nat, c = k ∧ isErr k = true := by
  rcases h with rfl | rfl | rfl | rfl
  · exact .inl rfl
  · exact .inr ⟨1, rfl, rfl⟩
  · exact .inr ⟨2, rfl, rfl⟩
  · exact .inr ⟨3, rfl, rfl⟩

set_option maxHeartbeats 1000000 in
set_option maxRecDepth 100000 in
theorem implCopy_any {B : Nat} {S : Nat → Prop} {w : World} {E : Nat → Addr} (hE : Errs B w E) (hBw : B ≤ w.heap.size) {A : Option Addr} {st : List (List Int × Int)} {L : Int} (c : Nat) (h : RecsAt S w A st)
    (hn : st.length * 32 ≤ 140737488355328) (hd : ∀ i, i < st.length → (dat st i).length ≤ 140737488355328) (hv : Valid L st) (hL : st = [] → L = 1) (lim : Nat) (hlim : (lim : Int) ≤ 9223372036854775807) (hj : (joinD st).length ≤ 70368744177664) :
    Calls Tryd.prog 21 #[.agg #[.slice A st.length c], .agg #[.int .i64 lim]] w (Post3 (copyR L st lim) w) := by
  have C := fun (o1 o2 o3 : Obj) => Lib.hid (newReader_src c (((h.alloc o1).alloc o2).alloc o3) hn hd hv hL)
  have HE := Lib.hid hE
  have HW0 := Lib.hid (wr_new ((w.alloc (.cells #[.slice A st.length c] 25)).alloc (.cells #[.int .i64 lim] 27)) lim)
  have hRe := copyR_err hv lim
  have HJ := Lib.hid hj
  clear h hd hv hL hE hj
  go_enter Tryd.func21, Tryd.ntmps21
  go_wp2_with fail
  refine (C _ _ _).out.mono ?_
  rintro e w1 hnew
  obtain ⟨b, g, F, rfl, hI, hF, hFb, hbel⟩ := srcI_new (B := B) hnew (by simp; omega)
  have hW1 := HW0.out.keep hbel.size fun k hk _ => hbel.block k hk
  have hb1 : Below w.heap.size w w1 := ((((Below.refl _ _).alloc (Nat.le_refl _) _).alloc (by simp) _).alloc (by simp; omega) _).trans (hbel.mono (by simp; omega))
  have hs1 := hbel.size
  simp at hs1 hW1 hF
  have hE1 := HE.out.below (hb1.mono hBw)
  have C2 := Lib.hid (ioCopy_src hE1 (by omega) hI hW1 (fun k hk => by subst hk; omega) (fun k hk e => by have := (hF k hk).1; omega) hlim HJ.out)
  have HB1 := Lib.hid hb1
  have HF := Lib.hid hF
  clear C HW0 hnew hI hF hFb hbel hW1 hb1 hE1
  generalize copyR L st lim = R at *
  go_wp2_with fail
  refine C2.out.mono ?_
  rintro e w2 ⟨rfl, ⟨G', left', hW2, hG'⟩, hkept⟩
  obtain ⟨A', c', hb2, ho2, _, hG2, _⟩ := hW2
  have hB2 : Below w.heap.size w w2 := HB1.out.trans (hkept.below HB1.out.size fun i hi hD => by
    rcases hD with h | h
    · have := (HF.out i h).1; omega
    · omega)
  have y := hb2.cell 1
  simp at y
  have CE : ∀ n, Calls Tryd.prog 32 #[errV E R.2] (w2.drewN n) fun e w' => e = .returned (.int .i64 R.2) ∧ w' = w2.drewN n := fun n => by
    have := fromError_any ((HE.out.below (hB2.mono hBw)).drewN n) R.2 (isErr_of3 hRe)
    rw [codeI_3 hRe] at this
    exact this.mono fun e w' ⟨h1, h2⟩ => ⟨h1, h2.symm⟩
  have HCE := Lib.hid CE
  have HP : Hid (∀ n, Post3 R w (.returned (.tuple #[.int .i64 R.1.length, .int .i64 R.2, .slice A' R.1.length c'])) (w2.drewN n)) := Lib.hid fun n => by
    refine ⟨A', c', rfl, own_cap ho2, ((own_bytes ho2).mono fun k _ hk => ?_).drewN n, below_drewN hB2 n⟩
    rcases hG' k (hG2 k hk) with h | h
    · omega
    · have := HB1.out.size; omega
  clear CE hkept hb2 ho2 hG2 hB2 hG' C2
  generalize errV E R.2 = ev at *
  generalize R.2 = rc at *
  go_wp2_with fail
  go_quiet ((go_at_call 32; exact Calls.quiet_of_same (HCE.out _)))
  go_wp2_with fail
  go_ret3
  exact HP.out _

end Go.Proofs.YtmhhblfolfojbaaDoor
