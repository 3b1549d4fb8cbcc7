/- io.ReadAtLeast and io.ReadFull over the reader of a valid source. -/
import Derived.Test.YteljcdlnfjeaaaaDoorSrc
set_option linter.unusedVariables false
set_option linter.unusedSimpArgs false
namespace Go.Proofs.YteljcdlnfjeaaaaDoor
open Go.RowKit

theorem splice_next (data new : List Int) (pc : List Value) (h : data.length + new.length ≤ pc.length) :
    splice (bytesV data ++ pc.drop data.length) data.length (bytesV new) = bytesV (data ++ new) ++ pc.drop (data ++ new).length := by
  have e1 : (bytesV data ++ pc.drop data.length).take data.length = bytesV data := by
    rw [List.take_append_of_le_length (by rw [bytesV_length]; omega)]
    exact List.take_of_length_le (by rw [bytesV_length]; omega)
  have e2 : (bytesV data ++ pc.drop data.length).drop (data.length + new.length) = pc.drop (data.length + new.length) := by
    rw [List.drop_append, List.drop_eq_nil_of_le (by rw [bytesV_length]; omega), bytesV_length, List.drop_drop]
    simp
  unfold splice
  rw [e1, bytesV_length, e2, List.length_append]
  simp [bytesV]

theorem length_next (data : List Int) (pc : List Value) (h : data.length ≤ pc.length) : (bytesV data ++ pc.drop data.length).length = pc.length := by
  rw [List.length_append, bytesV_length, List.length_drop]; omega

def RalInv (S : Nat → Prop) (E : Nat → Addr) (b g pb : Nat) (pc : List Value) (size least : Nat) (st : List (List Int × Int)) (L : Int) (w : World) (f : Nat) (n v : Value) (wr : World) : Prop :=
  ∃ (data : List Int) (err : Int) (st' : List (List Int × Int)), n = .int .i64 data.length ∧ v = errV E err ∧ (err = 0 ∨ err = 1 ∨ err = 2) ∧ data.length ≤ size ∧ Room size least f st' data err ∧
    fill L size least f st' data err = fill L size least (st.length + 1) st [] 0 ∧ Src S wr b g st' L ∧ Blk wr pb 5 (bytesV data ++ pc.drop data.length).toArray ∧ Kept (fun k => k = b ∨ k = g ∨ k = pb) w wr

def RalPost (S : Nat → Prop) (E : Nat → Addr) (b g pb : Nat) (pc : List Value) (size least : Nat) (st : List (List Int × Int)) (L : Int) (w : World) (e : Ending) (w' : World) : Prop :=
  e = .returned (.tuple #[.int .i64 (atLeast L size least st).1.1.length, errV E (atLeast L size least st).1.2]) ∧ Src S w' b g (atLeast L size least st).2 L ∧
    Blk w' pb 5 (bytesV (atLeast L size least st).1.1 ++ pc.drop (atLeast L size least st).1.1.length).toArray ∧ Kept (fun k => k = b ∨ k = g ∨ k = pb) w w'

set_option maxRecDepth 100000 in
theorem readAtLeast_any {B : Nat} {S : Nat → Prop} {w : World} {E : Nat → Addr} (hE : Errs B w E) {b g pb : Nat} (hBb : B ≤ b) (hBg : B ≤ g) (hBp : B ≤ pb) (hBw : B ≤ w.heap.size) {st : List (List Int × Int)} {L : Int} (h : Src S w b g st L)
    (hS : ∀ k, S k → k ≠ b ∧ k ≠ g ∧ k ≠ pb) {pc : List Value} (hp : Blk w pb 5 pc.toArray) {size least c : Nat} (hsz : size ≤ pc.length) (hcc : size ≤ c) (hbd : size ≤ 281474976710656) (hle : least ≤ size) :
    Calls Tryd.prog 34 #[.iface 65 (.pointer (some ⟨b, 0, none⟩)), .slice (some ⟨pb, 0, none⟩) size c, .int .i64 least] w (RalPost S E b g pb pc size least st L w) := by
  have HE := Lib.hid hE
  have H := Lib.hid h
  have HS := Lib.hid hS
  have HP := Lib.hid hp
  have hdec : decide (size < least) = false := by simp; omega
  clear hE h hS hp
  go_enter Tryd.func34, Tryd.ntmps34
  go_wp2
  clear hdec
  go_loopg [6, 7] (st.length + 1) (fun f n v wr => RalInv S E b g pb pc size least st L w f n v wr)
  case atStart => exact ⟨[], 0, st, rfl, rfl, .inl rfl, Nat.zero_le _, fun _ => Nat.le_refl _, rfl, H.out, by simpa [bytesV] using HP.out, Kept.refl _ _⟩
  case round =>
    obtain ⟨data, err, st', rfl, hv, herr, hdl, hroom, hfill, hsrc, hblk, hkept⟩ := hrel
    have HF := Lib.hid hfill
    have HR := Lib.hid hroom
    have HSR := Lib.hid hsrc
    have HB := Lib.hid hblk
    have HK := Lib.hid hkept
    clear hfill hroom hsrc hblk hkept
    by_cases hlt : data.length < least
    · by_cases he : err = 0
      · subst he
        rw [errV_zero] at hv
        subst hv
        clear herr
        obtain ⟨A2, hsl, hA2⟩ := slice_bytes (some ⟨pb, 0, none⟩) size c data.length (by omega) hcc
        have HA := Lib.hid hA2
        clear hA2
        have hnil := fun w => nilAhead_read ⟨b, 0, none⟩ w
        have hmet := fun w => method_read ⟨b, 0, none⟩ w
        obtain ⟨f', rfl, hfill', hroom'⟩ := fill_go HSR.out.1.ends hle hlt rfl HR.out
        have hlen' := rd_len L st' (size - data.length)
        have herr' := HSR.out.1.err (size - data.length)
        have C := src_read ((HE.out.below (HK.out.below hBw (fun i hi e => by omega))).drew) hBb hBg hBp (Nat.le_trans hBw HK.out.size) HSR.out.drew HS.out HB.out.drew (P := A2) (m := size - data.length) (poff := data.length) (c - data.length)
          (by rw [length_next data pc (by omega)]; omega) (fun hpos => by
            rw [HA.out (by omega)]
            simp [Addr.add_lit])
        unfold SrcPost at C
        generalize rd L st' (size - data.length) = R at *
        obtain ⟨⟨nd, ne⟩, ns⟩ := R
        have C' := Lib.hid C
        have HF' := Lib.hid hfill'
        have HR' := Lib.hid hroom'
        have HE' := Lib.hid herr'
        simp only at hlen'
        clear C hfill' hroom' herr'
        go_wp2_with fail
        go_region_with (go_at_call 59; refine C'.out.mono ?_; rintro e w' ⟨rfl, hsrc', hblk', hkept'⟩; have HS1 := Lib.hid hsrc'; have HB1 := Lib.hid hblk'; have HK1 := Lib.hid hkept'; clear hsrc' hblk' hkept')
        go_wp2_with fail
        go_roundg f'
        case measure => omega
        case rel =>
          refine ⟨data ++ nd, ne, ns, by simp, rfl, HE'.out, by simp; omega, HR'.out, HF'.out.symm.trans HF.out, HS1.out, ?_, ?_⟩
          · have := HB1.out
            rw [splice_next data nd pc (by omega)] at this
            exact this
          · exact (HK.out.drew).trans HK1.out fun _ _ hh => hh
      · have hEr := HE.out.below (HK.out.below hBw (fun i hi e => by omega))
        have hfin := (fill_stop (L := L) (size := size) (f := gk) (st := st') (fun hh => he hh.2)).symm.trans HF.out
        have hat := atLeast_of hle hfin.symm
        rw [if_neg (by omega : ¬ least ≤ data.length)] at hat
        have h1 := hEr.cell 1 rfl
        have h4 := hEr.cell 4 rfl
        simp only [errG] at h1 h4
        have herr' : err = 1 ∨ err = 2 := by omega
        clear hfin herr
        rcases herr' with rfl | rfl
        · have e1 := eqlE hEr 1 1 rfl rfl
          rw [show errV E 1 = .iface 101 (.pointer (some (E 1))) from errV_pos E 1 rfl] at hv
          subst hv
          clear hEr he
          by_cases h0 : 0 < data.length
          · rw [if_pos ⟨h0, rfl⟩] at hat
            have HA := Lib.hid hat
            clear hat
            go_wp2_with fail
            go_ret2
            unfold RalPost
            rw [HA.out]
            exact ⟨rfl, HSR.out, HB.out, HK.out⟩
          · rw [if_neg (fun hh => h0 hh.1)] at hat
            have HA := Lib.hid hat
            clear hat
            have h00 : ¬ (0 : Int) < (data.length : Int) := by omega
            go_wp2_with fail
            go_ret2
            unfold RalPost
            rw [HA.out]
            exact ⟨rfl, HSR.out, HB.out, HK.out⟩
        · have e1 := eqlE hEr 2 1 rfl rfl
          rw [show errV E 2 = .iface 101 (.pointer (some (E 2))) from errV_pos E 2 rfl] at hv
          subst hv
          clear hEr he
          rw [if_neg (fun hh => by omega)] at hat
          have HA := Lib.hid hat
          clear hat
          by_cases h0 : 0 < data.length
          · go_wp2_with fail
            go_ret2
            unfold RalPost
            rw [HA.out]
            exact ⟨rfl, HSR.out, HB.out, HK.out⟩
          · have h00 : ¬ (0 : Int) < (data.length : Int) := by omega
            go_wp2_with fail
            go_ret2
            unfold RalPost
            rw [HA.out]
            exact ⟨rfl, HSR.out, HB.out, HK.out⟩
    · have hfin := (fill_stop (L := L) (size := size) (f := gk) (st := st') (err := err) (fun hh => hlt hh.1)).symm.trans HF.out
      have hat := atLeast_of hle hfin.symm
      rw [if_pos (by omega : least ≤ data.length)] at hat
      have HA := Lib.hid hat
      clear hat hfin herr hv
      go_wp2_with fail
      go_ret2
      unfold RalPost
      rw [HA.out]
      exact ⟨rfl, HSR.out, HB.out, HK.out⟩

theorem readAtLeast_short {B : Nat} {S : Nat → Prop} {w : World} {E : Nat → Addr} (hE : Errs B w E) {b g pb : Nat} {st : List (List Int × Int)} {L : Int} (h : Src S w b g st L)
    {pc : List Value} (hp : Blk w pb 5 pc.toArray) {size c : Nat} {least : Int} (hle : (size : Int) < least) :
    Calls Tryd.prog 34 #[.iface 65 (.pointer (some ⟨b, 0, none⟩)), .slice (some ⟨pb, 0, none⟩) size c, .int .i64 least] w (RalPost S E b g pb pc size least.toNat st L w) := by
  have h5 := hE.cell 5 rfl
  simp only [errG] at h5
  have H := Lib.hid h
  have HP := Lib.hid hp
  have HA := Lib.hid (atLeast_short (L := L) (st := st) (show size < least.toNat by omega))
  clear hE h hp
  go_enter Tryd.func34, Tryd.ntmps34
  go_wp2_with fail
  go_quiet (fail)
  go_wp2_with fail
  go_ret2
  unfold RalPost
  rw [HA.out]
  exact ⟨rfl, H.out.drewN _, HP.out, (Kept.refl _ _).drewN _⟩

theorem readFull_any {B : Nat} {S : Nat → Prop} {w : World} {E : Nat → Addr} (hE : Errs B w E) {b g pb : Nat} (hBb : B ≤ b) (hBg : B ≤ g) (hBp : B ≤ pb) (hBw : B ≤ w.heap.size) {st : List (List Int × Int)} {L : Int} (h : Src S w b g st L)
    (hS : ∀ k, S k → k ≠ b ∧ k ≠ g ∧ k ≠ pb) {pc : List Value} (hp : Blk w pb 5 pc.toArray) {size c : Nat} (hsz : size ≤ pc.length) (hcc : size ≤ c) (hbd : size ≤ 281474976710656) :
    Calls Tryd.prog 36 #[.iface 65 (.pointer (some ⟨b, 0, none⟩)), .slice (some ⟨pb, 0, none⟩) size c] w (RalPost S E b g pb pc size size st L w) := by
  have C := Lib.hid (readAtLeast_any hE hBb hBg hBp hBw h hS hp hsz hcc hbd (Nat.le_refl size))
  clear hE h hS hp
  go_enter Tryd.func36, Tryd.ntmps36
  go_wp2_with fail
  refine C.out.mono ?_
  rintro e w' ⟨rfl, hq⟩
  have HQ := Lib.hid hq
  clear hq
  go_wp2_with fail
  go_ret2
  exact ⟨rfl, HQ.out⟩

end Go.Proofs.YteljcdlnfjeaaaaDoor
