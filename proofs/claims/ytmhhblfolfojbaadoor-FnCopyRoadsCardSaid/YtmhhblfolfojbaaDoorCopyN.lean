/- io.CopyN, impl.CopyN and spec.CopyN over a valid source. -/
import Derived.Test.YtmhhblfolfojbaaDoorCopyL
import Derived.Test.YtmhhblfolfojbaaDoorCopyNP
import Derived.Test.YtmhhblfolfojbaaDoorCopy
set_option linter.unusedVariables false
set_option linter.unusedSimpArgs false
namespace Go.Proofs.YtmhhblfolfojbaaDoor
open Go.RowKit

theorem lim_noWriteTo (v : Value) (w : World) : (Instr.typeAssert (.iface 89 v) 82 93 true).run Tryd.prog w = .ok (.tuple #[.nilIface, .bool false]) w :=
  run_typeAssert_lacksB Tryd.underlying93 (by kernel_rfl) (by kernel_rfl) v _ w
theorem lim_isLimited (v : Value) (w : World) : (Instr.typeAssert (.iface 89 v) 82 89 true).run Tryd.prog w = .ok (.tuple #[v, .bool true]) w := by kernel_rfl

theorem limStep_m {L : Int} {s : List (List Int × Int) × Int} {m : Nat} (hv : Valid L s.1) (hm : 0 < m) (he : (limStep (rd L) s m).1.2 = 0) : srcM (limStep (rd L) s m).2.1 < srcM s.1 := by
  unfold limStep at he ⊢
  split at he
  · simp at he
  · next h =>
    rw [if_neg h]
    exact rd_m hv (by omega) he
theorem limStep_n (L : Int) (s : List (List Int × Int) × Int) (m : Nat) : (limStep (rd L) s m).1.1.length + (joinD (limStep (rd L) s m).2.1).length ≤ (joinD s.1).length := by
  unfold limStep
  split
  · simp
  · exact rd_n L s.1 _

theorem ioCopy_lim {B : Nat} {E : Nat → Addr} {L : Int} {b g lb : Nat} {w : World} (hE : Errs B w E) (hBw : B ≤ w.heap.size) {st : List (List Int × Int)} {n : Nat} {F G : Nat → Prop} (hI : LimI B (SrcI B L b g) 65 b lb (st, (n : Int)) F w) {sb left : Nat} (hW : WrAt G w sb left []) (hBG : ∀ k, G k → B ≤ k) (hFG : ∀ k, F k → ¬ G k) (hleft : (left : Int) ≤ 9223372036854775807) (hN : (joinD st).length ≤ 70368744177664) :
    Calls Tryd.prog 35 #[.iface 58 (.pointer (some ⟨sb, 0, none⟩)), .iface 89 (.pointer (some ⟨lb, 0, none⟩))] w (CpPost E sb F G (copyP (limStep (rd L)) (bufSize (some n)) (srcM st + 1) (st, (n : Int)) left []) w) := by
  have hc : w.cell? ⟨lb, 1, none⟩ = some (.int .i64 n) := by
    obtain ⟨F0, _, h2, _⟩ := hI
    have := h2.cell 1
    simpa using this
  have hnb : (n : Int) ≤ 9223372036854775807 := by
    obtain ⟨F0, _, _, _, _, _, _, h⟩ := hI
    exact h
  have C := copyBuffer_lim (lim_rdr (src_rdr B E L b g) lb) (fun s => srcM s.1) (fun s => (joinD s.1).length) (fun s F w m ⟨F0, ⟨S, h, _⟩, _⟩ hm he => limStep_m h.1 hm he) (fun s F w m _ => limStep_n L s m) (fun w => lim_noWriteTo _ w) n hnb hc (fun w => lim_isLimited _ w) hE hBw hI hW hBG hFG hleft hN
  have C' := Lib.hid C
  clear C hE hI hW hBG hFG hN hc
  go_enter Tryd.func35, Tryd.ntmps35
  go_wp2_with fail
  refine C'.out.mono ?_
  rintro e w1 ⟨rfl, hq⟩
  have HQ := Lib.hid hq
  clear hq
  go_wp2_with fail
  go_ret2
  exact ⟨rfl, HQ.out⟩

set_option maxRecDepth 100000 in
theorem ioCopyN_src {B : Nat} {E : Nat → Addr} {L : Int} {b g : Nat} {w : World} (hE : Errs B w E) (hBw : B ≤ w.heap.size) {st : List (List Int × Int)} {F G : Nat → Prop} (hI : SrcI B L b g st F w) {sb left : Nat} (hW : WrAt G w sb left []) (hBG : ∀ k, G k → B ≤ k) (hFG : ∀ k, F k → ¬ G k) (hleft : (left : Int) ≤ 9223372036854775807) (hN : (joinD st).length ≤ 70368744177664) (n : Nat) (hn : (n : Int) ≤ 9223372036854775807) :
    Calls Tryd.prog 30 #[.iface 58 (.pointer (some ⟨sb, 0, none⟩)), .iface 65 (.pointer (some ⟨b, 0, none⟩)), .int .i64 n] w (CpPost E sb F G (copyNR L st left n) w) := by
  have hv : Valid L st := by
    obtain ⟨S, h, _⟩ := hI
    exact h.1
  have R := src_rdr B E L b g
  have hFl : ∀ k, F k → k < w.heap.size := fun k hk => (R.lo hI hk).2
  have hGl := hW.flt
  have hIl := limI_new R hI hBw n (by omega) hn
  have hWl := hW.kept ((Kept.refl (fun _ => False) w).alloc (.cells #[.iface 65 (.pointer (some ⟨b, 0, none⟩)), .int .i64 (n : Int)] 91)) fun _ _ _ hf => hf
  have hEl : Errs B (w.alloc (.cells #[.iface 65 (.pointer (some ⟨b, 0, none⟩)), .int .i64 (n : Int)] 91)) E := hE.below ((Below.refl _ _).alloc hBw _)
  have C := ioCopy_lim hEl (by simp; omega) hIl hWl hBG (fun k hk => by
    rcases hk with h | h
    · exact hFG k h
    · intro hG; have := hGl k hG; omega) hleft hN
  obtain ⟨l1, l2, l3⟩ := copy_lim (L := L) (bufSize_pos (some n)) (srcM st + 1) st n left [] hv (Nat.le_refl _)
  simp only [List.nil_append] at l1 l2 l3
  obtain ⟨k1, k2⟩ := copyN_of hv l1 l2 l3
  have HFG0 : Hid (∀ (w2 : World) (G' : Nat → Prop) (left' : Nat) (R : List Int × Int) (v : Value) (z : Int), WrAt G' w2 sb left' R.1 → (∀ k, G' k → G k ∨ w.heap.size + 1 ≤ k) → Kept (fun k => (F k ∨ k = w.heap.size) ∨ G k) (w.alloc (.cells #[.iface 65 (.pointer (some ⟨b, 0, none⟩)), .int .i64 (n : Int)] 91)) w2 →
      copyNR L st left n = R → z = R.1.length → v = errV E R.2 → CpPost E sb F G (copyNR L st left n) w (.returned (.tuple #[.int .i64 z, v])) w2) := Lib.hid fun w2 G' left' R v z q1 q2 q3 q4 q5 q6 => by
    subst q5
    subst q6
    rw [q4]
    refine ⟨rfl, ⟨G', left', q1, fun k hk => ?_⟩, ((Kept.refl (fun k => F k ∨ G k) w).alloc _).trans q3 fun k hk hD => ?_⟩
    · rcases q2 k hk with h | h
      · exact .inl h
      · exact .inr (by omega)
    · rcases hD with (h | h) | h
      · exact .inl h
      · omega
      · exact .inr h
  generalize copyP (limStep (rd L)) (bufSize (some n)) (srcM st + 1) (st, (n : Int)) left [] = Q at *
  obtain ⟨qd, qe⟩ := Q
  have HK1 := Lib.hid k1
  have HK2 := Lib.hid k2
  have C' := Lib.hid C
  have HE := Lib.hid hE
  have HBF : Hid (∀ k, F k ∨ G k → B ≤ k) := Lib.hid fun k hk => by
    rcases hk with h | h
    · exact (R.lo hI h).1
    · exact hBG k h
  clear C l1 l2 l3 k1 k2 hIl hWl hEl hE hI hW hBG hFG hN hv R hFl hGl
  go_enter Tryd.func30, Tryd.ntmps30
  go_wp2_with fail
  refine (limitReader_any _ _ _ _).mono ?_
  rintro e w1 ⟨rfl, rfl⟩
  go_wp2_with fail
  refine C'.out.mono ?_
  rintro e w2 ⟨rfl, ⟨G', left', hW2, hG2⟩, hk2⟩
  simp at hG2
  have HW2 := Lib.hid hW2
  have HG2 := Lib.hid hG2
  have HKK := Lib.hid hk2
  have hE2 : Errs B w2 E := HE.out.below (((Below.refl _ _).alloc hBw _).trans (hk2.below (by simp; omega) fun i hi hD => by
    rcases hD with (h | h) | h
    · have := HBF.out i (.inl h); omega
    · omega
    · have := HBF.out i (.inr h); omega))
  have h1 := hE2.cell 1 rfl
  simp only [errG] at h1
  clear C' hW2 hG2 hk2 hE2
  simp only at HK1 HK2 ⊢
  by_cases heq : qd.length = n
  · have hb : ((qd.length : Int) == (n : Int)) = true := by simp [heq]
    have HR := Lib.hid (HK1.out heq)
    have HEQ := Lib.hid heq
    clear HK1 HK2 heq
    generalize errV E qe = ev at *
    go_wp2_with fail
    go_ret2
    exact HFG0.out w2 G' left' (qd, 0) _ _ HW2.out HG2.out HKK.out HR.out (by simp only; rw [HEQ.out]) rfl
  · have hb : ((qd.length : Int) == (n : Int)) = false := by simp [heq]; omega
    obtain ⟨hlt, hR⟩ := HK2.out heq
    have HR := Lib.hid hR
    clear HK1 HK2 heq hR
    by_cases hq0 : qe = 0
    · subst hq0
      rw [if_pos rfl] at HR
      rw [errV_zero]
      go_wp2_with fail
      go_ret2
      exact HFG0.out w2 G' left' (qd, 1) _ _ HW2.out HG2.out HKK.out HR.out rfl (errV_pos E 1 rfl).symm
    · rw [if_neg hq0] at HR
      have hev : ∃ a, errV E qe = .iface 101 (.pointer (some a)) := ⟨E qe.toNat, by unfold errV; rw [if_neg hq0]⟩
      obtain ⟨a, ha⟩ := hev
      have HA := Lib.hid ha
      rw [ha]
      clear ha hq0
      go_wp2_with fail
      go_ret2
      exact HFG0.out w2 G' left' (qd, qe) _ _ HW2.out HG2.out HKK.out HR.out rfl HA.out.symm

set_option maxHeartbeats 1000000 in
set_option maxRecDepth 100000 in
theorem implCopyN_any {B : Nat} {S : Nat → Prop} {w : World} {E : Nat → Addr} (hE : Errs B w E) (hBw : B ≤ w.heap.size) {A : Option Addr} {st : List (List Int × Int)} {L : Int} (c : Nat) (h : RecsAt S w A st)
    (hn : st.length * 32 ≤ 140737488355328) (hd : ∀ i, i < st.length → (dat st i).length ≤ 140737488355328) (hv : Valid L st) (hL : st = [] → L = 1) (lim n : Nat) (hlim : (lim : Int) ≤ 9223372036854775807) (hnn : (n : Int) ≤ 9223372036854775807) (hj : (joinD st).length ≤ 70368744177664) :
    Calls Tryd.prog 15 #[.agg #[.slice A st.length c], .agg #[.int .i64 lim], .int .i64 n] w (Post3 (copyNR L st lim n) w) := by
  have C := fun (o1 o2 o3 : Obj) => Lib.hid (newReader_src c (((h.alloc o1).alloc o2).alloc o3) hn hd hv hL)
  have HE := Lib.hid hE
  have HW0 := Lib.hid (wr_new ((w.alloc (.cells #[.slice A st.length c] 25)).alloc (.cells #[.int .i64 lim] 27)) lim)
  have hRe := copyNR_err hv lim n
  have HJ := Lib.hid hj
  clear h hd hv hL hE hj
  go_enter Tryd.func15, Tryd.ntmps15
  go_wp2_with fail
  refine (C _ _ _).out.mono ?_
  rintro e w1 hnew
  obtain ⟨b, g, F, rfl, hI, hF, hFb, hbel⟩ := srcI_new (B := B) hnew (by simp; omega)
  have hW1 := HW0.out.keep hbel.size fun k hk _ => hbel.block k hk
  have hb1 : Below w.heap.size w w1 := ((((Below.refl _ _).alloc (Nat.le_refl _) _).alloc (by simp) _).alloc (by simp; omega) _).trans (hbel.mono (by simp; omega))
  have hs1 := hbel.size
  simp at hs1 hW1 hF
  have hE1 := HE.out.below (hb1.mono hBw)
  have C2 := Lib.hid (ioCopyN_src hE1 (by omega) hI hW1 (fun k hk => by subst hk; omega) (fun k hk e => by have := (hF k hk).1; omega) hlim HJ.out n hnn)
  have HB1 := Lib.hid hb1
  have HF := Lib.hid hF
  clear C HW0 hnew hI hF hFb hbel hW1 hb1 hE1
  generalize copyNR L st lim n = R at *
  go_wp2_with fail
  refine C2.out.mono ?_
  rintro e w2 ⟨rfl, ⟨G', left', hW2, hG'⟩, hkept⟩
  obtain ⟨A', c', hb2, ho2, _, hG2, _⟩ := hW2
  have hB2 : Below w.heap.size w w2 := HB1.out.trans (hkept.below HB1.out.size fun i hi hD => by
    rcases hD with h | h
    · have := (HF.out i h).1; omega
    · omega)
  have y := hb2.cell 1
  simp at y
  have CE : ∀ n, Calls Tryd.prog 32 #[errV E R.2] (w2.drewN n) fun e w' => e = .returned (.int .i64 R.2) ∧ w' = w2.drewN n := fun n => by
    have := fromError_any ((HE.out.below (hB2.mono hBw)).drewN n) R.2 (isErr_of3 hRe)
    rw [codeI_3 hRe] at this
    exact this.mono fun e w' ⟨h1, h2⟩ => ⟨h1, h2.symm⟩
  have HCE := Lib.hid CE
  have HP : Hid (∀ n, Post3 R w (.returned (.tuple #[.int .i64 R.1.length, .int .i64 R.2, .slice A' R.1.length c'])) (w2.drewN n)) := Lib.hid fun n => by
    refine ⟨A', c', rfl, own_cap ho2, ((own_bytes ho2).mono fun k _ hk => ?_).drewN n, below_drewN hB2 n⟩
    rcases hG' k (hG2 k hk) with h | h
    · omega
    · have := HB1.out.size; omega
  clear CE hkept hb2 ho2 hG2 hB2 hG' C2
  generalize errV E R.2 = ev at *
  generalize R.2 = rc at *
  go_wp2_with fail
  go_quiet ((go_at_call 32; exact Calls.quiet_of_same (HCE.out _)))
  go_wp2_with fail
  go_ret3
  exact HP.out _

end Go.Proofs.YtmhhblfolfojbaaDoor
