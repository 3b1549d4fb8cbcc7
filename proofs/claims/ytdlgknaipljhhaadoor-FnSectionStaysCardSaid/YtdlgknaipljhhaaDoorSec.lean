/- The section reader over bytes.Reader: its memory; Read, ReadAt, Seek, Size. -/
import Derived.Test.YtdlgknaipljhhaaDoorFull
import Derived.Test.YtdlgknaipljhhaaDoorSecP
import Derived.Deep.QuietTactic
import Derived.BigQuiet
import Derived.Deep.RegionWith
set_option linter.unusedVariables false
set_option linter.unusedSimpArgs false
namespace Go.Proofs.YtdlgknaipljhhaaDoor
open Go.RowKit

theorem nilAhead_rat (a : Addr) (w : World) : (nilAhead 186 40 (.pointer (some a)) "ReadAt").run Tryd.prog w = .ok (some false) w := by kernel_rfl
theorem method_rat (a : Addr) (w : World) : (method 186 40 (.pointer (some a)) "ReadAt").run Tryd.prog w = .ok (44, .pointer (some a)) w := by kernel_rfl

/-- the section reader at block sb, its bytes.Reader at block rb -/
def SecAt (S : Nat → Prop) (w : World) (sb rb : Nat) (data : List Int) (off n pos : Nat) : Prop :=
  ∃ A c, Blk w sb 62 #[.iface 40 (.pointer (some ⟨rb, 0, none⟩)), .int .i64 (off : Int), .int .i64 ((off + pos : Nat) : Int), .int .i64 ((off + n : Nat) : Int), .int .i64 (n : Int)] ∧
    Blk w rb 64 #[.slice A data.length c, .int .i64 0, .int .i64 (-1)] ∧ data.length ≤ c ∧ BytesAt S w A data ∧ (∀ k, S k → k ≠ sb ∧ k ≠ rb)

theorem SecAt.kept {D S : Nat → Prop} {w w' : World} {sb rb : Nat} {data : List Int} {off n pos : Nat} (h : SecAt S w sb rb data off n pos) (hk : Kept D w w') (hd : ∀ k, k < w.heap.size → (S k ∨ k = sb ∨ k = rb) → ¬ D k) : SecAt S w' sb rb data off n pos := by
  obtain ⟨A, c, h1, h2, h3, h4, h5⟩ := h
  exact ⟨A, c, h1.kept hk (hd sb h1.lt (.inr (.inl rfl))), h2.kept hk (hd rb h2.lt (.inr (.inr rfl))), h3, h4.kept hk (fun k hk' hS => hd k hk' (.inl hS)), h5⟩

/-- what a read at an offset leaves: the buffer's block begins with the bytes -/
def RatPost (pb m : Nat) (part : List Int) (pc : List Value) (w : World) (e : Ending) (w' : World) : Prop :=
  e = .returned (.tuple #[.int .i64 m, .nilIface]) ∧ Blk w' pb 5 (splice pc 0 (bytesV part)).toArray ∧ Kept (· = pb) w w'

set_option maxRecDepth 100000 in
theorem rat_any {S : Nat → Prop} {w : World} {rb pb o m : Nat} {A : Option Addr} {c cp : Nat} {data : List Int} {pc : List Value} (hrb : Blk w rb 64 #[.slice A data.length c, .int .i64 0, .int .i64 (-1)]) (hc : data.length ≤ c) (hd : BytesAt S w A data)
    (hp : Blk w pb 5 pc.toArray) (hm : m ≤ pc.length) (ho : o < data.length) (hom : o + m ≤ data.length) (hbd : data.length ≤ 281474976710656) :
    Calls Tryd.prog 44 #[.pointer (some ⟨rb, 0, none⟩), .slice (some ⟨pb, 0, none⟩) m cp, .int .i64 o] w (RatPost pb m ((data.drop o).take m) pc w) := by
  have hlen : ((data.drop o).take m).length = m := by simp; omega
  obtain ⟨A2, hsl, hA2⟩ := slice_bytes A data.length c o (by omega) hc
  have z0 := hrb.cell 0
  simp at z0
  have hs : BytesAt S w A2 ((data.drop o).take m) := ((hd.drop o).take m).addr fun hp => hA2 (by omega)
  have HP := Lib.hid hp
  have HS := Lib.hid hs
  have HM : Hid (((data.drop o).take m).length = min (data.length - o) m) := Lib.hid (by omega)
  have HF : Hid (0 + ((data.drop o).take m).length ≤ pc.length) := Lib.hid (by omega)
  clear hp hs hA2 hrb hd
  generalize (data.drop o).take m = part at *
  have HLN := Lib.hid hlen
  clear hlen
  generalize data.length = dl at *
  go_enter Tryd.func44, Tryd.ntmps44
  go_wp2_with (with_reducible refine wpList_copy_kept rfl (.tmp 19) (.tmp 25) 22 5 rfl Tryd.underlying22 info5 (some ⟨pb, 0, none⟩) A2 m cp (dl - o) (c - o) rfl rfl pb 0 pc 5 HP.out part HM.out (fun _ => rfl) S HS.out HF.out ?_)
  intro w1 HB HK
  rw [HLN.out]
  go_wp2_with fail
  go_ret2
  exact ⟨rfl, HB.out, HK.out⟩

theorem part_eq {data : List Int} {off n pos m : Nat} : partOf ((data.drop off).take n) pos m = (data.drop (off + pos)).take (min m (n - pos)) := by
  unfold partOf
  rw [List.drop_take, List.take_take, List.drop_drop]

/-- x[0:n] of bytes -/
theorem slice_bytes_0 (a : Addr) (len cap n : Nat) (hn : n ≤ cap) (h0 : 0 < cap) (w : World) :
    (Instr.slice 22 (.slice (some a) len cap) (some (.int .i64 0)) (some (.int .i64 (n : Int))) none).run Tryd.prog w = .ok (.slice (some a) n cap) w := by
  obtain ⟨i0, hi, _, hs, _⟩ := info_parts infoU8
  obtain ⟨A2, h1, h2⟩ := slice_mid (P := Tryd.prog) 22 (by rw [elemU8]; exact Tryd.underlying22) i0 1 (by rw [elemU8]; exact hi) hs (some a) len cap 0 n (by omega)
  have := h1 w
  rw [h2 h0] at this
  simpa [Addr.add] using this

theorem splice_head (pc : List Value) (l : List Int) : ∃ rest, splice pc 0 (bytesV l) = bytesV l ++ rest := ⟨pc.drop (0 + (bytesV l).length), by simp [splice]⟩

/-- what a read of a section leaves -/
def SecPost (E : Nat → Addr) (S : Nat → Prop) (sb rb pb : Nat) (data : List Int) (off n : Nat) (r : List Int) (x : Int) (pos' : Nat) (w : World) (e : Ending) (w' : World) : Prop :=
  e = .returned (.tuple #[.int .i64 r.length, errV E x]) ∧ SecAt S w' sb rb data off n pos' ∧ (∃ rest, Blk w' pb 5 (bytesV r ++ rest).toArray) ∧ Kept (fun k => k = sb ∨ k = pb) w w'

theorem sec_moved {S : Nat → Prop} {w w1 : World} {sb rb pb : Nat} {data : List Int} {off n pos k : Nat} {pc : List Value} {r : List Int} (h : SecAt S w sb rb data off n pos) (hSp : ¬ S pb) (hp : Blk w pb 5 pc.toArray) (hb : Blk w1 pb 5 (splice pc 0 (bytesV r)).toArray) (hk : Kept (· = pb) w w1) (hr : r.length = k) (q : Nat) :
    SecAt S ((w1.setCell ⟨sb, 2, none⟩ (.int .i64 ((off + pos : Nat) + (k : Int)))).drewN q) sb rb data off n (pos + r.length) ∧ (∃ rest, Blk ((w1.setCell ⟨sb, 2, none⟩ (.int .i64 ((off + pos : Nat) + (k : Int)))).drewN q) pb 5 (bytesV r ++ rest).toArray) ∧ Kept (fun k => k = sb ∨ k = pb) w ((w1.setCell ⟨sb, 2, none⟩ (.int .i64 ((off + pos : Nat) + (k : Int)))).drewN q) := by
  obtain ⟨A, c, h1, h2, h3, h4, h5⟩ := h
  have n1 : sb ≠ pb := h1.ne_of hp (by decide)
  have n2 : rb ≠ pb := h2.ne_of hp (by decide)
  have n3 : rb ≠ sb := h2.ne_of h1 (by decide)
  have e1 := (h1.kept hk n1).put 2 (.int .i64 ((off + pos : Nat) + (k : Int)))
  have e2 := (h2.kept hk n2).far (p := ⟨sb, 2, none⟩) n3 (.int .i64 ((off + pos : Nat) + (k : Int)))
  obtain ⟨rest, hrest⟩ := splice_head pc r
  refine ⟨⟨A, c, ?_, e2.drewN q, h3, ((h4.kept hk fun j _ hS e => hSp (e ▸ hS)).setCell (fun hS => (h5 _ hS).1 rfl) _).drewN q, h5⟩, ⟨rest, ?_⟩, ((hk.mono fun _ _ e => .inr e).setCell (p := ⟨sb, 2, none⟩) (fun _ => .inl rfl) _).drewN q⟩
  · have e3 : ((off + (pos + r.length) : Nat) : Int) = ((off + pos : Nat) : Int) + (k : Int) := by omega
    rw [e3]
    simpa using e1.drewN q
  · rw [← hrest]
    exact (hb.far (p := ⟨sb, 2, none⟩) (fun e => n1 e.symm) _).drewN q

set_option maxHeartbeats 1000000 in
set_option maxRecDepth 100000 in
theorem sec_read {B : Nat} {S : Nat → Prop} {w : World} {E : Nat → Addr} (hE : Errs B w E) {sb rb pb : Nat} {data : List Int} {off n pos m cp : Nat} {pc : List Value} (h : SecAt S w sb rb data off n pos) (hn : off + n ≤ data.length) (hbd : data.length ≤ 281474976710656) (hpos : pos ≤ 1152921504606846976)
    (hp : Blk w pb 5 pc.toArray) (hSp : ¬ S pb) (hm : m ≤ pc.length) (hmc : m ≤ cp) (hm2 : m ≤ 1048576) :
    Calls Tryd.prog 19 #[.pointer (some ⟨sb, 0, none⟩), .slice (some ⟨pb, 0, none⟩) m cp] w (SecPost E S sb rb pb data off n (partOf ((data.drop off).take n) pos m) (if n ≤ pos then 1 else 0) (pos + (partOf ((data.drop off).take n) pos m).length) w) := by
  have g1 := hE.cell 1 rfl
  simp only [errG] at g1
  have hmv := fun (w1 : World) (k : Nat) (r : List Int) (hb : Blk w1 pb 5 (splice pc 0 (bytesV r)).toArray) (hk : Kept (· = pb) w w1) (hr : r.length = k) (q : Nat) => sec_moved h hSp hp hb hk hr q
  obtain ⟨A, c, h1, h2, h3, h4, h5⟩ := h
  have z0 := h1.cell 0
  have z1 := h1.cell 1
  have z2 := h1.cell 2
  have z3 := h1.cell 3
  have f2 := h1.frozen 2
  have hne : sb ≠ pb := h1.ne_of hp (by decide)
  simp only [List.getElem?_toArray, List.getElem?_cons_zero, List.getElem?_cons_succ] at z0 z1 z2 z3
  by_cases hend : n ≤ pos
  · rw [if_pos hend, part_eq, show min m (n - pos) = 0 by omega, List.take_zero]
    have hle : ((off + n : Nat) : Int) ≤ ((off + pos : Nat) : Int) := by omega
    have HPO : Hid (∀ q q', SecPost E S sb rb pb data off n [] 1 (pos + 0) w (.returned (.tuple #[.int .i64 0, .iface 65 (.pointer (some (E 1)))])) ((w.drewN q).drewN q')) := Lib.hid fun q q' => ⟨by rw [show errV E 1 = .iface 65 (.pointer (some (E 1))) from errV_pos E 1 rfl]; rfl, ⟨A, c, (h1.drewN q).drewN q', (h2.drewN q).drewN q', h3, (h4.drewN q).drewN q', h5⟩, ⟨pc, by simpa [bytesV] using (hp.drewN q).drewN q'⟩, ((Kept.refl _ w).drewN q).drewN q'⟩
    clear hE h1 h2 h4 h5 hp hmv hend hn hpos
    generalize off + n = l at *
    generalize off + pos = o at *
    go_enter Tryd.func19, Tryd.ntmps19
    go_wp2_with fail
    go_quiet (fail)
    go_wp2_with fail
    go_quiet (fail)
    go_wp2_with fail
    go_ret2
    exact HPO.out _ _
  · have hlt : ¬ ((off + n : Nat) : Int) ≤ ((off + pos : Nat) : Int) := by omega
    obtain ⟨k, hk⟩ : ∃ k, n - pos = k := ⟨_, rfl⟩
    have hsub : ((off + n : Nat) : Int) - ((off + pos : Nat) : Int) = (k : Int) := by omega
    have hk0 : 0 < k := by omega
    have hkb : k ≤ 281474976710656 := by omega
    have hnil := nilAhead_rat ⟨rb, 0, none⟩
    have hmet := method_rat ⟨rb, 0, none⟩
    rw [if_neg hend, part_eq, hk]
    by_cases hmk : k < m
    · have hmk' : (k : Int) < (m : Int) := by omega
      have hsl := fun w => slice_bytes_0 ⟨pb, 0, none⟩ m cp k (by omega) (by omega) w
      rw [Nat.min_eq_right (Nat.le_of_lt hmk)]
      have HLN : Hid (((data.drop (off + pos)).take k).length = k) := Lib.hid (by simp; omega)
      have HC := Lib.hid fun (w' : World) (hk' : Kept (fun _ => False) w w') => rat_any (w := w') (cp := cp) (h2.kept hk' (fun h => h)) h3 (h4.kept hk' fun _ _ _ h => h) (hp.kept hk' (fun h => h)) (m := k) (by omega) (show off + pos < data.length by omega) (by omega) hbd
      generalize hpart : (data.drop (off + pos)).take k = part at *
      have HMV := Lib.hid fun (w1 : World) (hb : Blk w1 pb 5 (splice pc 0 (bytesV part)).toArray) (hk' : Kept (· = pb) w w1) => hmv w1 k part hb hk' HLN.out 0
      have HT := Lib.hid fun (w1 : World) (hk' : Kept (· = pb) w w1) => h1.kept hk' hne
      have hln := HLN.out
      rw [hln] at HMV ⊢
      have hob : off + pos + 1048576 ≤ 562949953421312 := by omega
      clear hpart h1 h2 h4 h5 hp hmv hn hend hln hpos hk
      generalize off + n = l at *
      generalize hoo : off + pos = o at *
      have HOO := Lib.hid hoo
      clear hoo
      go_enter Tryd.func19, Tryd.ntmps19
      go_wp2_with fail
      go_quiet (fail)
      go_wp2_with fail
      go_quiet (fail)
      go_wp2_with fail
      go_region_with (go_at_call 44; refine (HC.out _ ((Kept.refl _ w).drewN _)).mono ?_; rintro e w1 ⟨rfl, hb1, hk1⟩; have hK1 : Kept (· = pb) w w1 := ((Kept.refl _ w).drewN _).trans hk1 fun _ _ h => h; have T1 := HT.out w1 hK1; have y2 := T1.cell 2; have y4 := T1.frozen 2; simp only [List.getElem?_toArray, List.getElem?_cons_zero, List.getElem?_cons_succ] at y2; have HB1 := Lib.hid hb1; have HK1 := Lib.hid hK1; clear hb1 hk1 hK1 T1)
      all_goals
        go_wp2_with fail
        go_ret2
        have HX := HMV.out w1 HB1.out HK1.out
        exact ⟨by rw [HLN.out]; rfl, HX⟩
    · have hmk' : ¬ (k : Int) < (m : Int) := by omega
      rw [Nat.min_eq_left (by omega)]
      have HLN : Hid (((data.drop (off + pos)).take m).length = m) := Lib.hid (by simp; omega)
      have HC := Lib.hid fun (w' : World) (hk' : Kept (fun _ => False) w w') => rat_any (w := w') (cp := cp) (h2.kept hk' (fun h => h)) h3 (h4.kept hk' fun _ _ _ h => h) (hp.kept hk' (fun h => h)) (m := m) (by omega) (show off + pos < data.length by omega) (by omega) hbd
      generalize hpart : (data.drop (off + pos)).take m = part at *
      have HMV := Lib.hid fun (w1 : World) (hb : Blk w1 pb 5 (splice pc 0 (bytesV part)).toArray) (hk' : Kept (· = pb) w w1) => hmv w1 m part hb hk' HLN.out 0
      have HT := Lib.hid fun (w1 : World) (hk' : Kept (· = pb) w w1) => h1.kept hk' hne
      have hln := HLN.out
      rw [hln] at HMV ⊢
      have hob : off + pos + 1048576 ≤ 562949953421312 := by omega
      clear hpart h1 h2 h4 h5 hp hmv hn hend hln hpos hk
      generalize off + n = l at *
      generalize hoo : off + pos = o at *
      have HOO := Lib.hid hoo
      clear hoo
      go_enter Tryd.func19, Tryd.ntmps19
      go_wp2_with fail
      go_quiet (fail)
      go_wp2_with fail
      go_quiet (fail)
      go_wp2_with fail
      go_region_with (go_at_call 44; refine (HC.out _ ((Kept.refl _ w).drewN _)).mono ?_; rintro e w1 ⟨rfl, hb1, hk1⟩; have hK1 : Kept (· = pb) w w1 := ((Kept.refl _ w).drewN _).trans hk1 fun _ _ h => h; have T1 := HT.out w1 hK1; have y2 := T1.cell 2; have y4 := T1.frozen 2; simp only [List.getElem?_toArray, List.getElem?_cons_zero, List.getElem?_cons_succ] at y2; have HB1 := Lib.hid hb1; have HK1 := Lib.hid hK1; clear hb1 hk1 hK1 T1)
      all_goals
        go_wp2_with fail
        go_ret2
        have HX := HMV.out w1 HB1.out HK1.out
        exact ⟨by rw [HLN.out]; rfl, HX⟩

end Go.Proofs.YtdlgknaipljhhaaDoor
