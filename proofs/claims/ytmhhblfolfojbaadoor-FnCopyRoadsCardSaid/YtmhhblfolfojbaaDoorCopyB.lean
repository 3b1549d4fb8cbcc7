/- io.copyBuffer and io.Copy, from whatever reader to the program's own sink. -/
import Derived.Test.YtmhhblfolfojbaaDoorRdr
import Derived.Test.YtmhhblfolfojbaaDoorCopyP
import Derived.Stop.Asserts
set_option linter.unusedVariables false
set_option linter.unusedSimpArgs false
namespace Go.Proofs.YtmhhblfolfojbaaDoor
open Go.RowKit

theorem nilAhead_write (a : Addr) (w : World) : (nilAhead 223 58 (.pointer (some a)) "Write").run Tryd.prog w = .ok (some false) w := by kernel_rfl
theorem method_write (a : Addr) (w : World) : (method 223 58 (.pointer (some a)) "Write").run Tryd.prog w = .ok (58, .pointer (some a)) w := by kernel_rfl
theorem noReadFrom (v : Value) (w : World) : (Instr.typeAssert (.iface 58 v) 80 97 true).run Tryd.prog w = .ok (.tuple #[.nilIface, .bool false]) w :=
  run_typeAssert_lacksB Tryd.underlying97 (by kernel_rfl) (by kernel_rfl) v _ w
theorem nilBuf (w : World) : (binOp .eql 22 (.slice none 0 0) (.slice none 0 0)).run Tryd.prog w = .ok (.bool true) w := by kernel_rfl

/-- the size of the buffer, by the limit of a limited reader -/
def bufSize : Option Nat → Nat
  | none => 32768
  | some n => if n < 32768 then (if n < 1 then 1 else n) else 32768
theorem bufSize_pos (l : Option Nat) : 0 < bufSize l := by
  unfold bufSize
  split
  · omega
  · split
    · split <;> omega
    · omega
theorem bufSize_le (l : Option Nat) : bufSize l ≤ 32768 := by
  unfold bufSize
  split
  · omega
  · split
    · split <;> omega
    · omega

section
variable {τ : Type} {B : Nat} {E : Nat → Addr} {ty : TypeId} {rb : Nat} {f : FuncId} {I : τ → (Nat → Prop) → World → Prop} {step : τ → Nat → (List Int × Int) × τ}

/-- the reader, the sink and the buffer while copying -/
def CpSt (B : Nat) (I : τ → (Nat → Prop) → World → Prop) (size sb pb : Nat) (F G : Nat → Prop) (w0 : World) (t' : τ) (left' : Nat) (data : List Int) (F' G' : Nat → Prop) (pc : List Value) (wr : World) : Prop :=
  I t' F' wr ∧ WrAt G' wr sb left' data ∧ Blk wr pb 5 pc.toArray ∧ pc.length = size ∧ Kept (fun k => F k ∨ G k) w0 wr ∧ (∀ k, F' k → ¬ G' k ∧ k ≠ pb ∧ (F k ∨ w0.heap.size ≤ k)) ∧ (∀ k, G' k → k ≠ pb ∧ B ≤ k ∧ (G k ∨ w0.heap.size ≤ k))

theorem WrAt.flt {F : Nat → Prop} {w : World} {sb left : Nat} {data : List Int} (h : WrAt F w sb left data) : ∀ k, F k → k < w.heap.size := by
  obtain ⟨A, c, _, _, _, _, h5⟩ := h
  exact h5

theorem CpSt.drewN {size sb pb left' : Nat} {F G F' G' : Nat → Prop} {w0 wr : World} {t' : τ} {data : List Int} {pc : List Value} (R : Rdr B E ty rb f I step) (h : CpSt B I size sb pb F G w0 t' left' data F' G' pc wr) (n : Nat) : CpSt B I size sb pb F G w0 t' left' data F' G' pc (wr.drewN n) := by
  obtain ⟨h1, h2, h3, h4, h5, h6, h7⟩ := h
  exact ⟨R.keep h1 (Nat.le_refl _) fun _ _ _ => rfl, h2.keep (Nat.le_refl _) fun _ _ _ => rfl, h3, h4, h5.drewN n, h6, h7⟩

theorem cp_read {size sb pb left' : Nat} {F G F' G' F1 : Nat → Prop} {w0 wr w1 : World} {t' t1 : τ} {data nd : List Int} {pc : List Value} (R : Rdr B E ty rb f I step) (h : CpSt B I size sb pb F G w0 t' left' data F' G' pc wr) (hp : w0.heap.size ≤ pb)
    (hI1 : I t1 F1 w1) (hF1 : ∀ k, F1 k → F' k ∨ wr.heap.size ≤ k) (hb1 : Blk w1 pb 5 (splice pc 0 (bytesV nd)).toArray) (hk1 : Kept (fun k => F' k ∨ k = pb) wr w1) (hnd : nd.length ≤ size) :
    CpSt B I size sb pb F G w0 t1 left' data F1 G' (splice pc 0 (bytesV nd)) w1 := by
  obtain ⟨h1, h2, h3, h4, h5, h6, h7⟩ := h
  have hz := h5.size
  have hlt := h2.flt
  have hpl := h3.lt
  refine ⟨hI1, h2.kept hk1 fun k hk hG hD => ?_, hb1, ?_, h5.trans hk1 fun k hk hD => ?_, fun k hF => ?_, h7⟩
  · rcases hD with h | h
    · exact (h6 k h).1 hG
    · exact (h7 k hG).1 h
  · unfold splice; simp [bytesV_length]; omega
  · rcases hD with h | h
    · rcases (h6 k h).2.2 with h' | h'
      · exact .inl h'
      · omega
    · omega
  · rcases hF1 k hF with h | h
    · exact h6 k h
    · refine ⟨fun hG => ?_, by omega, .inr (by omega)⟩
      have := hlt k hG; omega

theorem cp_write {size sb pb left' left1 : Nat} {F G F' G' G1 : Nat → Prop} {w0 wr w1 : World} {t' : τ} {data data1 : List Int} {pc : List Value} (R : Rdr B E ty rb f I step) (h : CpSt B I size sb pb F G w0 t' left' data F' G' pc wr) (hBw : B ≤ w0.heap.size)
    (hW1 : WrAt G1 w1 sb left1 data1) (hG1 : ∀ k, G1 k → G' k ∨ wr.heap.size ≤ k) (hk1 : Kept G' wr w1) : CpSt B I size sb pb F G w0 t' left1 data1 F' G1 pc w1 := by
  obtain ⟨h1, h2, h3, h4, h5, h6, h7⟩ := h
  have hz := h5.size
  have hpl := h3.lt
  refine ⟨R.kept h1 hk1 fun k hk hF hD => (h6 k hF).1 hD, hW1, h3.kept hk1 (fun e => (h7 pb e).1 rfl), h4, h5.trans hk1 fun k hk hD => ?_, fun k hF => ⟨fun hG => ?_, (h6 k hF).2⟩, fun k hG => ?_⟩
  · rcases (h7 k hD).2.2 with h | h
    · exact .inr h
    · omega
  · rcases hG1 k hG with h | h
    · exact (h6 k hF).1 h
    · have := (R.lo h1 hF).2; omega
  · rcases hG1 k hG with h | h
    · exact h7 k h
    · exact ⟨by omega, by omega, .inr (by omega)⟩

/-- what holds at the head of a round of copying -/
def CpInv (B : Nat) (I : τ → (Nat → Prop) → World → Prop) (step : τ → Nat → (List Int × Int) × τ) (μ ν : τ → Nat) (size N sb pb left : Nat) (F G : Nat → Prop) (R : List Int × Int) (w0 : World) (f : Nat) (n y : Value) (wr : World) : Prop :=
  ∃ (t' : τ) (F' G' : Nat → Prop) (left' : Nat) (data : List Int) (pc : List Value), n = .int .i64 data.length ∧ y = .nilIface ∧ copyP step size f t' left' data = R ∧ μ t' + 1 ≤ f ∧ data.length + ν t' ≤ N ∧ left' ≤ left ∧ CpSt B I size sb pb F G w0 t' left' data F' G' pc wr

/-- what copying leaves -/
def CpPost (E : Nat → Addr) (sb : Nat) (F G : Nat → Prop) (R : List Int × Int) (w0 : World) (e : Ending) (w' : World) : Prop :=
  e = .returned (.tuple #[.int .i64 R.1.length, errV E R.2]) ∧ (∃ G' left', WrAt G' w' sb left' R.1 ∧ ∀ k, G' k → G k ∨ w0.heap.size ≤ k) ∧ Kept (fun k => F k ∨ G k) w0 w'

theorem cp_post {size sb pb left' : Nat} {F G F' G' : Nat → Prop} {w0 wr : World} {t' : τ} {data : List Int} {pc : List Value} {Res : List Int × Int} {n x : Int} {v : Value} (h : CpSt B I size sb pb F G w0 t' left' data F' G' pc wr) (hR : Res = (data, x)) (hn : n = data.length) (hv : v = errV E x) : CpPost E sb F G Res w0 (.returned (.tuple #[.int .i64 n, v])) wr := by
  subst hR
  subst hn
  subst hv
  exact ⟨rfl, ⟨G', left', h.2.1, fun k hk => (h.2.2.2.2.2.2 k hk).2.2⟩, h.2.2.2.2.1⟩

theorem slice_bytes_0 (A : Option Addr) (len cap n : Nat) (hn : n ≤ cap) (w : World) :
    (Instr.slice 22 (.slice A len cap) (some (.int .i64 0)) (some (.int .i64 (n : Int))) none).run Tryd.prog w = .ok (.slice A n cap) w := by
  obtain ⟨i0, hi, _, hs, _⟩ := info_parts infoU8
  rw [run_slice_lh (P := Tryd.prog) w 22 A len cap (by rw [elemU8]; exact Tryd.underlying22) .i64 .i64 0 (n : Int) (by omega) (by omega) (by omega)]
  rw [elemU8]
  cases A <;> simp [sizeOf, typeInfo, hi, hs, sliced, Result.andThen, Addr.add]

theorem isErr_3 {c : Int} (h : c = 0 ∨ c = 1 ∨ c = 2 ∨ c = 3) (h0 : c ≠ 0) : ∃ k : Nat, c = k ∧ isErr k = true ∧ (k = 1 ∨ k = 2 ∨ k = 3) := by
  rcases h with rfl | rfl | rfl | rfl
  · exact absurd rfl h0
  · exact ⟨1, rfl, rfl, by omega⟩
  · exact ⟨2, rfl, rfl, by omega⟩
  · exact ⟨3, rfl, rfl, by omega⟩

set_option maxHeartbeats 4000000 in
set_option maxRecDepth 100000 in
theorem copyBuffer_src (R : Rdr B E ty rb f I step) (μ ν : τ → Nat) (hμ : ∀ t F w m, I t F w → 0 < m → (step t m).1.2 = 0 → μ (step t m).2 < μ t) (hν : ∀ t F w m, I t F w → (step t m).1.1.length + ν (step t m).2 ≤ ν t)
    (hWT : ∀ w, (Instr.typeAssert (.iface ty (.pointer (some ⟨rb, 0, none⟩))) 82 93 true).run Tryd.prog w = .ok (.tuple #[.nilIface, .bool false]) w)
    {w : World} (hta : ∀ w, (Instr.typeAssert (.iface ty (.pointer (some ⟨rb, 0, none⟩))) 82 89 true).run Tryd.prog w = .ok (.tuple #[.pointer none, .bool false]) w)
    (hE : Errs B w E) (hBw : B ≤ w.heap.size) {t : τ} {F G : Nat → Prop} (hI : I t F w) {sb left : Nat} (hW : WrAt G w sb left []) (hBG : ∀ k, G k → B ≤ k) (hFG : ∀ k, F k → ¬ G k) (hleft : (left : Int) ≤ 9223372036854775807) (hN : ν t ≤ 70368744177664) :
    Calls Tryd.prog 41 #[.iface 58 (.pointer (some ⟨sb, 0, none⟩)), .iface ty (.pointer (some ⟨rb, 0, none⟩)), .slice none 0 0] w (CpPost E sb F G (copyP step (bufSize none) (μ t + 1) t left []) w) := by
  have hRF := noReadFrom (.pointer (some ⟨sb, 0, none⟩))
  have hNB := nilBuf
  have hsz0 := bufSize_pos none
  have hsz1 := bufSize_le none
  obtain ⟨pc, hpc, hmk⟩ := make_bytes (bufSize none) (by omega)
  have HI0 : Hid (CpInv B I step μ ν (bufSize none) (ν t) sb w.heap.size left F G (copyP step (bufSize none) (μ t + 1) t left []) w (μ t + 1) (.int .i64 0) .nilIface (w.alloc (.cells pc.toArray 5))) := Lib.hid (by
    refine ⟨t, F, G, left, [], pc, rfl, rfl, rfl, Nat.le_refl _, by simp, Nat.le_refl _, ⟨R.kept hI ((Kept.refl (fun _ => False) _).alloc _) fun _ _ _ hf => hf, hW.kept ((Kept.refl (fun _ => False) _).alloc _) fun _ _ _ hf => hf, Blk.new _ _ _, hpc, (Kept.refl _ _).alloc _, fun k hF => ⟨hFG k hF, fun e => ?_, .inl hF⟩, fun k hG => ⟨fun e => ?_, hBG k hG, .inl hG⟩⟩⟩
    · have := (R.lo hI hF).2; omega
    · obtain ⟨_, _, _, _, _, _, h5⟩ := hW
      have := h5 k hG; omega)
  have HE := Lib.hid hE
  have HBFG : Hid (∀ k, F k ∨ G k → B ≤ k) := Lib.hid fun k hk => by
    rcases hk with h | h
    · exact (R.lo hI h).1
    · exact hBG k h
  have HR := Lib.hid R
  have HM := Lib.hid hμ
  have HNU := Lib.hid hν
  have hnilR := R.nil
  have hmetR := R.met
  have hentR := R.ent
  have hnilW := nilAhead_write ⟨sb, 0, none⟩
  have hmetW := method_write ⟨sb, 0, none⟩
  generalize hRes : copyP step (bufSize none) (μ t + 1) t left [] = Res at *
  clear hE R hμ hν hI hW hBG hFG hRes hpc
  have hmk' : ∀ z : Int, z = ((bufSize none : Nat) : Int) → ∀ w, (Instr.makeSlice 22 (.int .i64 z) (.int .i64 z)).run Tryd.prog w = .ok (.slice (some ⟨w.heap.size, 0, none⟩) (bufSize none) (bufSize none)) (w.alloc (.cells pc.toArray 5)) := fun z hz => by subst hz; exact hmk
  have hmz := hmk' 32768 rfl
  clear hmk hmk'
  generalize bufSize none = size at *
  go_enter Tryd.func41, Tryd.ntmps41
  go_wp2_with fail
  clear hta hmz hRF hWT hNB
  go_loopg [6, 7] (μ t + 1) (fun f n y wr => CpInv B I step μ ν size (ν t) sb w.heap.size left F G Res w f n y wr)
  case atStart => exact HI0.out
  case round =>
    obtain ⟨t', F', G', left', data, pc', rfl, rfl, hfut, hroom, hN', hle', hst⟩ := hrel
    obtain ⟨f', rfl⟩ : ∃ f', gk = f' + 1 := ⟨gk - 1, by omega⟩
    have hEr : Errs B wr E := HE.out.below (hst.2.2.2.2.1.below hBw fun i hi e => by have := HBFG.out i e; omega)
    have hszr := hst.2.2.2.2.1.size
    have C := HR.out.read (pb := w.heap.size) (pc := pc') (P := some ⟨w.heap.size, 0, none⟩) (m := size) (poff := 0) size hst.1 hEr (Nat.le_trans hBw hszr) hst.2.2.1 (fun h => (hst.2.2.2.2.2.1 _ h).2.1 rfl) hBw (by have := hst.2.2.2.1; omega) (fun _ => rfl) (Nat.le_refl _) (by omega)
    have hlen := HR.out.len t' size
    have herr := HR.out.err size hst.1
    have hm := HM.out t' F' wr size hst.1 hsz0
    have hn' := HNU.out t' F' wr size hst.1
    have hfull := copyP_full (step := step) (size := size) (f := f') (left := left') (t := t') (data := data)
    have hgo := copyP_go (step := step) (size := size) (f := f') (left := left') (t := t') (data := data)
    have hend := copyP_end (step := step) (size := size) (f := f') (left := left') (t := t') (data := data)
    unfold ReadPost at C
    rw [hfut] at hfull hgo hend
    generalize step t' size = r at C hlen herr hm hn' hfull hgo hend
    obtain ⟨⟨nd, ne⟩, t1⟩ := r
    simp only at C hlen herr hm hn' hfull hgo hend
    have C' := Lib.hid C
    have HST := Lib.hid hst
    have HERR := Lib.hid herr
    have HMM := Lib.hid hm
    have HFU := Lib.hid hfull
    have HGO := Lib.hid hgo
    have HEN := Lib.hid hend
    clear C hst herr hm hfull hgo hend hfut hEr
    go_wp2_with fail
    refine C'.out.mono ?_
    rintro e w1 ⟨rfl, ⟨F1, hI1, hF1⟩, hblk1, hkept1⟩
    have hst1 := cp_read HR.out HST.out (Nat.le_refl _) hI1 hF1 hblk1 hkept1 hlen
    have hsz1' := hkept1.size
    have hby : BytesAt (· = w.heap.size) w1.drew (some ⟨w.heap.size, 0, none⟩) nd := by
      have := hblk1
      unfold splice at this
      rw [List.take_zero, List.nil_append] at this
      exact (blk_bytes this).drew
    have hE1 : Errs B w1 E := HE.out.below (hst1.2.2.2.2.1.below hBw fun i hi e => by have := HBFG.out i e; omega)
    have hst1d := hst1.drewN HR.out 1
    have CW := write_any hE1.drew (show B ≤ w1.heap.size by omega) (fun k hG => (hst1d.2.2.2.2.2.2 k hG).2.1) hst1d.2.1 size hby hlen (by omega) (by omega)
    have HST1 := Lib.hid hst1
    have HST1D := Lib.hid hst1d
    have HE1 := Lib.hid hE1
    have CW' := Lib.hid CW
    have hnw := List.length_take (i := left') (l := nd)
    clear C' HST hI1 hF1 hblk1 hkept1 hst1 hst1d hE1 CW hby
    by_cases h0 : nd.length = 0
    · have hnil : nd = [] := List.eq_nil_of_length_eq_zero h0
      subst hnil
      simp only [List.length_nil, Nat.not_lt_zero, not_false_eq_true, Nat.sub_zero, List.append_nil, forall_const] at HGO HEN ⊢
      clear CW' HFU hnw h0
      by_cases hne : ne = 0
      · subst hne
        have hm0 := HMM.out rfl
        have HG1 := Lib.hid (HGO.out rfl)
        clear HGO HEN HMM HERR
        rw [errV_zero]
        go_wp2_with fail
        go_roundg f'
        case measure => omega
        case rel => exact ⟨t1, F1, G', left', data, _, rfl, rfl, HG1.out.symm, by omega, by simp at hn'; omega, hle', HST1.out⟩
      · obtain ⟨k, rfl, hk, hk3⟩ := isErr_3 HERR.out hne
        have HR1 := Lib.hid (HEN.out hne)
        have hneq := neqE HE1.out k 1 hk rfl
        have hc1 := HE1.out.cell 1 rfl
        simp only [errG] at hc1
        rw [errV_pos E k hk]
        clear HGO HEN HMM HERR hne
        rcases hk3 with rfl | rfl | rfl
        all_goals
          go_wp2_with fail
          go_ret2
          exact cp_post HST1.out HR1.out rfl rfl
    · have h0' : 0 < nd.length := by omega
      have hsl := slice_bytes_0 (some ⟨w.heap.size, 0, none⟩) size size nd.length hlen
      unfold WrPost at CW'
      clear h0
      by_cases hfl : left' < nd.length
      · rw [if_pos hfl, show errV E 3 = .iface 101 (.pointer (some (E 3))) from errV_pos E 3 rfl, hnw, Nat.min_eq_left (by omega)] at CW'
        have ha : ¬ ((left' : Int) < 0) := by omega
        have hb : decide (nd.length < left') = false := by simp; omega
        have hbd : (data.length : Int) + (left' : Int) ≤ 9223372036854775807 := by omega
        have HR1 := Lib.hid (HFU.out hfl)
        have HNL := Lib.hid (show (data.length : Int) + (left' : Int) = ((data ++ nd.take left').length : Int) by rw [List.length_append, hnw]; omega)
        clear HFU HGO HEN HMM HERR hfl hnw
        go_wp2_with fail
        go_region_with (go_at_call 58; refine CW'.out.mono ?_; rintro e w2 ⟨rfl, ⟨G1, hW2, hG1⟩, hkept2⟩; have hst2 := cp_write HR.out HST1D.out hBw hW2 hG1 hkept2; have HST2 := Lib.hid hst2; clear hst2 hW2 hG1 hkept2)
        go_wp2_with fail
        go_ret2
        exact cp_post HST2.out HR1.out HNL.out (errV_pos E 3 rfl).symm
      · rw [if_neg hfl, errV_zero, List.take_of_length_le (by omega)] at CW'
        have ha : ¬ ((nd.length : Int) < 0) := by omega
        have HNL := Lib.hid (show (data.length : Int) + (nd.length : Int) = ((data ++ nd).length : Int) by rw [List.length_append]; omega)
        by_cases hne : ne = 0
        · subst hne
          have hm0 := HMM.out rfl
          have HG1 := Lib.hid (HGO.out hfl rfl)
          clear HFU HGO HEN HMM HERR hfl hnw
          rw [errV_zero]
          go_wp2_with fail
          go_region_with (go_at_call 58; refine CW'.out.mono ?_; rintro e w2 ⟨rfl, ⟨G1, hW2, hG1⟩, hkept2⟩; have hst2 := cp_write HR.out HST1D.out hBw hW2 hG1 hkept2; have HST2 := Lib.hid hst2; clear hst2 hW2 hG1 hkept2)
          go_wp2_with fail
          go_roundg f'
          case measure => omega
          case rel => exact ⟨t1, F1, G1, left' - nd.length, data ++ nd, _, by rw [HNL.out], rfl, HG1.out.symm, by omega, by rw [List.length_append]; omega, by omega, HST2.out⟩
        · obtain ⟨k, rfl, hk, hk3⟩ := isErr_3 HERR.out hne
          have HR1 := Lib.hid (HEN.out hfl hne)
          rw [errV_pos E k hk]
          clear HFU HGO HEN HMM HERR hfl hne hnw
          go_wp2_with fail
          go_region_with (go_at_call 58; refine CW'.out.mono ?_; rintro e w2 ⟨rfl, ⟨G1, hW2, hG1⟩, hkept2⟩; have hst2 := cp_write HR.out HST1D.out hBw hW2 hG1 hkept2; have hE2 : Errs B w2 E := HE.out.below (hst2.2.2.2.2.1.below hBw fun i hi e => by have := HBFG.out i e; omega); have HST2 := Lib.hid hst2; have hneq := neqE hE2 k 1 hk rfl; have hc1 := hE2.cell 1 rfl; clear hst2 hW2 hG1 hkept2 hE2)
          simp only [errG] at hc1
          rcases hk3 with rfl | rfl | rfl
          all_goals
            go_wp2_with fail
            go_ret2
            exact cp_post HST2.out HR1.out HNL.out rfl
end

end Go.Proofs.YtmhhblfolfojbaaDoor
