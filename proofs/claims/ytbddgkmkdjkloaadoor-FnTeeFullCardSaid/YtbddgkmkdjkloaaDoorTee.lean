/- io.TeeReader and the Read of a teeReader over whatever reader and the program's own sink; impl.Tee. -/
import Derived.Test.YtbddgkmkdjkloaaDoorScript
import Derived.Test.YtbddgkmkdjkloaaDoorCopyP
import Derived.Deep.QuietTactic
import Derived.BigQuiet
set_option linter.unusedVariables false
set_option linter.unusedSimpArgs false
namespace Go.Proofs.YtbddgkmkdjkloaaDoor
open Go.RowKit

theorem nilAhead_tee (a : Addr) (w : World) : (nilAhead 213 88 (.pointer (some a)) "Read").run Tryd.prog w = .ok (some false) w := by kernel_rfl
theorem method_tee (a : Addr) (w : World) : (method 213 88 (.pointer (some a)) "Read").run Tryd.prog w = .ok (61, .pointer (some a)) w := by kernel_rfl
theorem nilAhead_write (a : Addr) (w : World) : (nilAhead 213 72 (.pointer (some a)) "Write").run Tryd.prog w = .ok (some false) w := by kernel_rfl
theorem method_write (a : Addr) (w : World) : (method 213 72 (.pointer (some a)) "Write").run Tryd.prog w = .ok (60, .pointer (some a)) w := by kernel_rfl

theorem WrAt.flt {F : Nat → Prop} {w : World} {sb left : Nat} {data : List Int} (h : WrAt F w sb left data) : ∀ k, F k → k < w.heap.size := by
  obtain ⟨A, c, _, _, _, _, h5⟩ := h
  exact h5

section
variable {τ : Type} {B : Nat} {E : Nat → Addr} {ty : TypeId} {rb : Nat} {f : FuncId} {I : τ → (Nat → Prop) → World → Prop} {step : τ → Nat → (List Int × Int) × τ}

/-- one read of a reader with a sink: the reader's state, the room that is left, what the sink has -/
def teeStep (step : τ → Nat → (List Int × Int) × τ) (s : τ × Nat × List Int) (m : Nat) : (List Int × Int) × (τ × Nat × List Int) :=
  (((step s.1 m).1.1.take s.2.1, if s.2.1 < (step s.1 m).1.1.length then 3 else (step s.1 m).1.2), ((step s.1 m).2, s.2.1 - ((step s.1 m).1.1.take s.2.1).length, s.2.2 ++ (step s.1 m).1.1.take s.2.1))

/-- the reader with a sink at block tb -/
def TeeI (B : Nat) (I : τ → (Nat → Prop) → World → Prop) (ν : τ → Nat) (ty : TypeId) (rb tb sb : Nat) (s : τ × Nat × List Int) (F : Nat → Prop) (w : World) : Prop :=
  ∃ F0 G, I s.1 F0 w ∧ WrAt G w sb s.2.1 s.2.2 ∧ Blk w tb 90 #[.iface ty (.pointer (some ⟨rb, 0, none⟩)), .iface 72 (.pointer (some ⟨sb, 0, none⟩))] ∧ (∀ k, F k ↔ (F0 k ∨ G k ∨ k = tb)) ∧
    (∀ k, F0 k → ¬ G k ∧ k ≠ tb) ∧ ¬ G tb ∧ B ≤ tb ∧ (∀ k, G k → B ≤ k) ∧ (s.2.1 : Int) ≤ 9223372036854775807 ∧ s.2.2.length + ν s.1 ≤ 70368744177664

theorem tee_done {ν : τ → Nat} {tb sb : Nat} {t1 : τ} {left left1 : Nat} {data data1 : List Int} {F F0 F1 G G1 : Nat → Prop} {w w1 w2 : World} {pb : Nat} {rest : List Value} {ret : List Int} (R : Rdr B E ty rb f I step)
    (hW : WrAt G w sb left data) (hT : Blk w tb 90 #[.iface ty (.pointer (some ⟨rb, 0, none⟩)), .iface 72 (.pointer (some ⟨sb, 0, none⟩))]) (hF : ∀ k, F k ↔ (F0 k ∨ G k ∨ k = tb)) (hd1 : ∀ k, F0 k → ¬ G k ∧ k ≠ tb) (hd2 : ¬ G tb) (hBt : B ≤ tb) (hBG : ∀ k, G k → B ≤ k) (hBw : B ≤ w.heap.size) (hl1 : (left1 : Int) ≤ 9223372036854775807) (hb1 : data1.length + ν t1 ≤ 70368744177664)
    (hpb : ¬ F pb) (hpl : pb < w.heap.size) (hI1 : I t1 F1 w1) (hF1 : ∀ k, F1 k → F0 k ∨ w.heap.size ≤ k) (hk1 : Kept (fun k => F0 k ∨ k = pb) w w1) (hbk : Blk w1 pb 5 (bytesV ret ++ rest).toArray)
    (hW2 : WrAt G1 w2 sb left1 data1) (hG1 : ∀ k, G1 k → G k ∨ w1.heap.size ≤ k) (hk2 : Kept G w1 w2) :
    (∃ F', TeeI B I ν ty rb tb sb (t1, left1, data1) F' w2 ∧ ∀ k, F' k → F k ∨ w.heap.size ≤ k) ∧ (∃ rest, Blk w2 pb 5 (bytesV ret ++ rest).toArray) ∧ Kept (fun k => F k ∨ k = pb) w w2 := by
  have hz1 := hk1.size
  have hGl := hW.flt
  have hTl := hT.lt
  have hF1G : ∀ k, F1 k → ¬ G k := fun k h hG => by
    rcases hF1 k h with h | h
    · exact (hd1 k h).1 hG
    · have := hGl k hG; omega
  refine ⟨⟨fun k => F1 k ∨ G1 k ∨ k = tb, ⟨F1, G1, R.kept hI1 hk2 (fun k _ hk hD => hF1G k hk hD), hW2, (hT.kept hk1 (fun hD => ?_)).kept hk2 hd2, fun k => Iff.rfl, fun k hk => ⟨fun hG => ?_, fun e => ?_⟩, fun hG => ?_, hBt, fun k hG => ?_, hl1, hb1⟩, fun k hk => ?_⟩, ⟨rest, hbk.kept hk2 (fun hG => hpb ((hF pb).2 (.inr (.inl hG))))⟩, (hk1.mono fun k _ hD => ?_).trans hk2 fun k hk hD => .inl ((hF k).2 (.inr (.inl hD)))⟩
  · rcases hD with h | h
    · exact (hd1 tb h).2 rfl
    · exact hpb ((hF pb).2 (.inr (.inr h.symm)))
  · rcases hG1 k hG with h | h
    · exact hF1G k hk h
    · have := (R.lo hI1 hk).2; omega
  · rcases hF1 k hk with h | h
    · exact (hd1 k h).2 e
    · omega
  · rcases hG1 tb hG with h | h
    · exact hd2 h
    · omega
  · rcases hG1 k hG with h | h
    · exact hBG k h
    · omega
  · rcases hk with h | h | h
    · rcases hF1 k h with h | h
      · exact .inl ((hF k).2 (.inl h))
      · exact .inr h
    · rcases hG1 k h with h | h
      · exact .inl ((hF k).2 (.inr (.inl h)))
      · exact .inr (by omega)
    · exact .inl ((hF k).2 (.inr (.inr h)))
  · rcases hD with h | h
    · exact .inl ((hF k).2 (.inl h))
    · exact .inr h

theorem bytesV_take (l : List Int) (n : Nat) : ∃ rest, bytesV l = bytesV (l.take n) ++ rest := ⟨bytesV (l.drop n), by rw [← bytesV_append, List.take_append_drop]⟩

set_option maxHeartbeats 1000000 in
set_option maxRecDepth 100000 in
theorem tee_read (R : Rdr B E ty rb f I step) {ν : τ → Nat} (hν : ∀ t F w m, I t F w → (step t m).1.1.length + ν (step t m).2 ≤ ν t) {tb sb : Nat} {s : τ × Nat × List Int} {F : Nat → Prop} {w : World} {pb : Nat} {pc : List Value} {m : Nat} (c : Nat) (h : TeeI B I ν ty rb tb sb s F w) (hE : Errs B w E) (hBw : B ≤ w.heap.size) (hp : Blk w pb 5 (List.toArray pc)) (hFp : ¬ F pb) (hBp : B ≤ pb) (hfit : m ≤ pc.length) (hc : m ≤ c) (hm : m ≤ 1048576) :
    Calls Tryd.prog 61 #[.pointer (some ⟨tb, 0, none⟩), .slice (some ⟨pb, 0, none⟩) m c] w (ReadPostW (TeeI B I ν ty rb tb sb) E F pb (teeStep step s m) w) := by
  obtain ⟨t, left, data⟩ := s
  obtain ⟨F0, G, hI, hW, hT, hF, hd1, hd2, hBt, hBG, hl, hN⟩ := h
  simp only at hI hW hl hN
  have hFp0 : ¬ F0 pb := fun hh => hFp ((hF pb).2 (.inl hh))
  have c0 := hT.cell 0
  have c1 := hT.cell 1
  simp at c0 c1
  have C := R.read (P := some ⟨pb, 0, none⟩) (m := m) (poff := 0) c hI hE hBw hp hFp0 hBp (by omega) (fun _ => rfl) hc (by omega)
  have hlen := R.len t m
  have hν' := hν t F0 w m hI
  have hst : teeStep step (t, left, data) m = ((((step t m).1.1.take left), if left < (step t m).1.1.length then 3 else (step t m).1.2), ((step t m).2, left - ((step t m).1.1.take left).length, data ++ (step t m).1.1.take left)) := rfl
  rw [hst]
  unfold ReadPost at C
  have hnil := R.nil
  have hmet := R.met
  have hent := R.ent
  have hnilW := nilAhead_write ⟨sb, 0, none⟩
  have hmetW := method_write ⟨sb, 0, none⟩
  have hBF0 : ∀ k, F0 k → B ≤ k := fun k hk => (R.lo hI hk).1
  generalize step t m = r at *
  obtain ⟨⟨nd, ne⟩, t1⟩ := r
  simp only at hlen C hν' ⊢
  generalize hq : (((nd.take left, if left < nd.length then (3 : Int) else ne), (t1, left - (nd.take left).length, data ++ nd.take left)) : (List Int × Int) × (τ × Nat × List Int)) = Q
  have HQ := Lib.hid hq
  clear hq
  have HDN : Hid (∀ (w1 w2 : World) (F1 G1 : Nat → Prop) (left1 : Nat) (data1 ret : List Int) (rest : List Value) (v : Value) (x : Int), (left1 : Int) ≤ 9223372036854775807 → data1.length + ν t1 ≤ 70368744177664 → I t1 F1 w1 → (∀ k, F1 k → F0 k ∨ w.heap.size ≤ k) → Kept (fun k => F0 k ∨ k = pb) w w1 → Blk w1 pb 5 (bytesV ret ++ rest).toArray →
      WrAt G1 w2 sb left1 data1 → (∀ k, G1 k → G k ∨ w1.heap.size ≤ k) → Kept G w1 w2 → v = errV E x → ReadPostW (TeeI B I ν ty rb tb sb) E F pb ((ret, x), (t1, left1, data1)) w (.returned (.tuple #[.int .i64 ret.length, v])) w2) := Lib.hid fun w1 w2 F1 G1 left1 data1 ret rest v x g1 g2 g3 g4 g5 g6 g7 g8 g9 g10 => by
    subst g10
    obtain ⟨q1, q2, q3⟩ := tee_done (ν := ν) R hW hT hF hd1 hd2 hBt hBG hBw g1 g2 hFp hp.lt g3 g4 g5 g6 g7 g8 g9
    exact ⟨rfl, q1, q2, q3⟩
  have HE := Lib.hid hE
  have HT := Lib.hid hT
  have HW := Lib.hid hW
  have HTN : Hid (¬ (F0 tb ∨ tb = pb)) := Lib.hid fun hD => by
    rcases hD with h | h
    · exact (hd1 tb h).2 rfl
    · exact hFp ((hF pb).2 (.inr (.inr h.symm)))
  have HGD : Hid (∀ k, G k → ¬ (F0 k ∨ k = pb)) := Lib.hid fun k hG hD => by
    rcases hD with h | h
    · exact (hd1 k h).1 hG
    · exact hFp ((hF pb).2 (.inr (.inl (h ▸ hG))))
  have HBG := Lib.hid hBG
  have HBF0 := Lib.hid hBF0
  have C' := Lib.hid C
  clear C R hI hW hT hF hd1 hd2 hBG hE hp hFp hFp0 hst hν hBF0
  go_enter Tryd.func61, Tryd.ntmps61
  go_wp2_with fail
  refine C'.out.mono ?_
  rintro e w1 ⟨rfl, ⟨F1, hI1, hF1⟩, hblk1, hkept1⟩
  unfold splice at hblk1
  rw [List.take_zero, List.nil_append] at hblk1
  have hz1 := hkept1.size
  have hE1 : Errs B w1 E := HE.out.below (hkept1.below hBw fun i hi hD => by
    rcases hD with h | h
    · have := HBF0.out i h; omega
    · omega)
  have T1 := HT.out.kept hkept1 HTN.out
  have W1 := HW.out.kept hkept1 fun k _ hG hD => HGD.out k hG hD
  have t1c := T1.cell 1
  simp at t1c
  have CW := write_any hE1.drew (show B ≤ w1.heap.size by omega) HBG.out (W1.keep (w' := w1.drew) (Nat.le_refl _) fun _ _ _ => rfl) c (blk_bytes hblk1).drew (by omega) hl (by omega)
  have HD1 := Lib.hid fun (w2 : World) (G1 : Nat → Prop) (left1 : Nat) (data1 ret : List Int) (rest : List Value) (v : Value) (x : Int) (h1 : (left1 : Int) ≤ 9223372036854775807) (h2 : data1.length + ν t1 ≤ 70368744177664) (h3 : Blk w1 pb 5 (bytesV ret ++ rest).toArray) => HDN.out w1 w2 F1 G1 left1 data1 ret rest v x h1 h2 hI1 hF1 hkept1 h3
  have HBK := Lib.hid hblk1
  have HW1 := Lib.hid W1
  have CW' := Lib.hid CW
  clear hI1 hF1 hblk1 hkept1 hE1 T1 W1 CW C' HDN c0 c1
  by_cases h0 : nd.length = 0
  · have hnd : nd = [] := List.eq_nil_of_length_eq_zero h0
    subst hnd
    clear CW' h0
    simp only [List.take_nil, List.length_nil, Nat.not_lt_zero, if_false, Nat.sub_zero, List.append_nil] at *
    generalize hev : errV E ne = ev at *
    have HEV := Lib.hid hev
    clear hev
    go_wp2_with fail
    go_ret2
    rw [← HQ.out]
    exact HD1.out w1 G left data [] _ _ _ hl (by omega) HBK.out HW1.out (fun k hk => .inl hk) (Kept.refl _ _) HEV.out.symm
  · have h0' : 0 < nd.length := by omega
    have hsl := slice_bytes_to (some ⟨pb, 0, none⟩) m c nd.length (by omega)
    have htl : (nd.take left).length = min left nd.length := List.length_take
    unfold WrPost at CW'
    clear h0
    by_cases hfl : left < nd.length
    · rw [if_pos hfl, show errV E 3 = .iface 91 (.pointer (some (E 3))) from errV_pos E 3 rfl] at CW'
      rw [if_pos hfl] at HQ
      obtain ⟨rest', hrest'⟩ := bytesV_take nd left
      have HBK2 : Hid (Blk w1 pb 5 (bytesV (nd.take left) ++ (rest' ++ List.drop (0 + (bytesV nd).length) pc)).toArray) := Lib.hid (by
        rw [← List.append_assoc, ← hrest']
        exact HBK.out)
      have hb2 : (data ++ nd.take left).length + ν t1 ≤ 70368744177664 := by rw [List.length_append]; omega
      clear hrest'
      generalize nd.take left = nt at *
      have hbl : ((left - nt.length : Nat) : Int) ≤ 9223372036854775807 := by omega
      clear hfl htl
      go_wp2_with fail
      go_region_with (go_at_call 60; refine CW'.out.mono ?_; rintro e w2 ⟨rfl, ⟨G1, hW2, hG1⟩, hkept2⟩; have HW2 := Lib.hid hW2; have HG1 := Lib.hid hG1; have HK2 := Lib.hid hkept2; clear hW2 hG1 hkept2)
      go_wp2_with fail
      go_ret2
      rw [← HQ.out]
      exact HD1.out w2 G1 _ _ nt _ _ 3 hbl hb2 HBK2.out HW2.out HG1.out (((Kept.refl G w1).drew).trans HK2.out fun _ _ h => h) (errV_pos E 3 rfl).symm
    · rw [if_neg hfl, errV_zero, List.take_of_length_le (show nd.length ≤ left by omega)] at CW'
      rw [if_neg hfl, List.take_of_length_le (show nd.length ≤ left by omega)] at HQ
      have hb2 : (data ++ nd).length + ν t1 ≤ 70368744177664 := by rw [List.length_append]; omega
      have hbl : ((left - nd.length : Nat) : Int) ≤ 9223372036854775807 := by omega
      clear hfl htl
      generalize hev : errV E ne = ev at *
      have HEV := Lib.hid hev
      clear hev
      go_wp2_with fail
      go_region_with (go_at_call 60; refine CW'.out.mono ?_; rintro e w2 ⟨rfl, ⟨G1, hW2, hG1⟩, hkept2⟩; have HW2 := Lib.hid hW2; have HG1 := Lib.hid hG1; have HK2 := Lib.hid hkept2; clear hW2 hG1 hkept2)
      go_wp2_with fail
      go_ret2
      rw [← HQ.out]
      exact HD1.out w2 G1 _ _ nd _ _ ne hbl hb2 HBK.out HW2.out HG1.out (((Kept.refl G w1).drew).trans HK2.out fun _ _ h => h) HEV.out.symm

theorem tee_rdr (R : Rdr B E ty rb f I step) {ν : τ → Nat} (hν : ∀ t F w m, I t F w → (step t m).1.1.length + ν (step t m).2 ≤ ν t) (tb sb : Nat) : RdrW B E 88 tb 61 (TeeI B I ν ty rb tb sb) (teeStep step) where
  nil := fun w => nilAhead_tee ⟨tb, 0, none⟩ w
  met := fun w => method_tee ⟨tb, 0, none⟩ w
  ent := fun args w => by kernel_rfl
  keep := fun ⟨F0, G, h1, h2, h3, h4, h5⟩ hsz hk => ⟨F0, G, R.keep h1 hsz fun k hk' hF => hk k hk' ((h4 k).2 (.inl hF)), h2.keep hsz fun k hk' hG => hk k hk' ((h4 k).2 (.inr (.inl hG))), h3.keep (hk _ h3.lt ((h4 _).2 (.inr (.inr rfl)))), h4, h5⟩
  lo := fun {t F w k} ⟨F0, G, h1, h2, h3, h4, h5, h6, h7, h8, _⟩ hF => by
    rcases (h4 k).1 hF with h | h | h
    · exact R.lo h1 h
    · exact ⟨h8 k h, h2.flt k h⟩
    · rw [h]; exact ⟨h7, h3.lt⟩
  len := fun s m => by
    have := R.len s.1 m
    unfold teeStep
    simp only [List.length_take]
    omega
  err := fun {s F w} m ⟨F0, G, h1, _⟩ => by
    unfold teeStep
    simp only
    split
    · exact .inr (.inr (.inr rfl))
    · exact R.err _ h1
  read := fun c h hE hBw hp hFp hBp hfit hc hm => tee_read R hν c h hE hBw hp hFp hBp hfit hc hm

theorem teeReader_any (ty : TypeId) (a b : Addr) (w : World) :
    Calls Tryd.prog 37 #[.iface ty (.pointer (some a)), .iface 72 (.pointer (some b))] w fun e w' => e = .returned (.iface 88 (.pointer (some ⟨w.heap.size, 0, none⟩))) ∧ w' = w.alloc (.cells #[.iface ty (.pointer (some a)), .iface 72 (.pointer (some b))] 90) := by
  go_enter Tryd.func37, Tryd.ntmps37
  go_wp2_with fail
  go_ret
  exact ⟨rfl, rfl⟩
end

/-- answers, and bytes, in new memory -/
def TeePost (R : List (List Int × Int)) (d : List Int) (w : World) (e : Ending) (w' : World) : Prop :=
  ∃ A c A2 c2, e = .returned (.tuple #[.slice A R.length c, .slice A2 d.length c2]) ∧ R.length ≤ c ∧ d.length ≤ c2 ∧ RecsAt (fun j => w.heap.size ≤ j) w' A R ∧ BytesAt (fun j => w.heap.size ≤ j) w' A2 d ∧ Below w.heap.size w w'

set_option maxHeartbeats 1000000 in
set_option maxRecDepth 100000 in
theorem implTee_any {B : Nat} {S S1 : Nat → Prop} {w : World} {E : Nat → Addr} (hE : Errs B w E) (hBw : B ≤ w.heap.size) {A A1 : Option Addr} {st : List (List Int × Int)} {L : Int} {zs : List Int} (c c1 : Nat) (h : RecsAt S w A st)
    (hn : st.length * 32 ≤ 140737488355328) (hd : ∀ i, i < st.length → (dat st i).length ≤ 140737488355328) (hv : Valid L st) (hL : st = [] → L = 1) (hz : IntsAt S1 w A1 zs) (hzs : SizesOK zs) (hzn : zs.length * 32 ≤ 140737488355328) (lim : Nat) (hlim : (lim : Int) ≤ 9223372036854775807) (hj : (joinD st).length ≤ 70368744177664) :
    Calls Tryd.prog 26 #[.agg #[.slice A st.length c], .agg #[.int .i64 lim], .slice A1 zs.length c1] w (TeePost (runs (teeStep (rd L)) zs (st, lim, [])).1 (runs (teeStep (rd L)) zs (st, lim, [])).2.2.2 w) := by
  have C := fun (o1 o2 o3 : Obj) => Lib.hid (newReader_src c (((h.alloc o1).alloc o2).alloc o3) hn hd hv hL)
  have HE := Lib.hid hE
  have HZ := Lib.hid (hz.mono (S' := (· < w.heap.size)) fun k hk _ => hk)
  have HZS := Lib.hid hzs
  have HW0 := Lib.hid (wr_new ((w.alloc (.cells #[.slice A st.length c] 24)).alloc (.cells #[.int .i64 lim] 46)) lim)
  have HJ := Lib.hid hj
  clear h hd hv hL hE hz hzs hj
  go_enter Tryd.func26, Tryd.ntmps26
  go_wp2_with fail
  refine (C _ _ _).out.mono ?_
  rintro e w1 hnew
  obtain ⟨b, g, F, rfl, hI, hF, hFb, hbel⟩ := srcI_new (B := B) hnew (by simp; omega)
  have hW1 := HW0.out.keep hbel.size fun k hk _ => hbel.block k hk
  have hb1 : Below w.heap.size w w1 := ((((Below.refl _ _).alloc (Nat.le_refl _) _).alloc (by simp) _).alloc (by simp; omega) _).trans (hbel.mono (by simp; omega))
  have hs1 := hbel.size
  simp at hs1 hW1 hF
  have R := src_rdr B E L b g
  have hTI : TeeI B (SrcI B L b g) (fun st => (joinD st).length) 57 b w1.heap.size (w.heap.size + 2) (st, lim, []) (fun k => F k ∨ k = w.heap.size + 2 ∨ k = w1.heap.size) (w1.alloc (.cells #[.iface 57 (.pointer (some ⟨b, 0, none⟩)), .iface 72 (.pointer (some ⟨w.heap.size + 2, 0, none⟩))] 90)) :=
    ⟨F, (· = w.heap.size + 2), R.kept hI ((Kept.refl (fun _ => False) _).alloc _) (fun _ _ _ hf => hf), hW1.kept ((Kept.refl (fun _ => False) _).alloc _) (fun _ _ _ hf => hf), Blk.new _ _ _, fun k => Iff.rfl, fun k hk => ⟨fun e => by have := (hF k hk).1; omega, fun e => by have := (hF k hk).2; omega⟩, fun e => by omega, by omega, fun k hk => by omega, hlim, by simpa using HJ.out⟩
  have hbl : Below w.heap.size w (w1.alloc (.cells #[.iface 57 (.pointer (some ⟨b, 0, none⟩)), .iface 72 (.pointer (some ⟨w.heap.size + 2, 0, none⟩))] 90)) := hb1.alloc (by omega) _
  have hEl := HE.out.below (hbl.mono hBw)
  have C2 := script_any (tee_rdr R (ν := fun st => (joinD st).length) (fun t F w m _ => rd_n L t m) w1.heap.size (w.heap.size + 2)) hEl (by simp; omega) hTI c1 (HZ.out.below hbl) (fun k hk hF' => by
    rcases hF' with h | h | h
    · have := (hF k h).1; omega
    · omega
    · omega) HZS.out hzn
  have HF := Lib.hid hF
  have HBL := Lib.hid hbl
  have C2' := Lib.hid C2
  clear C hnew hI hF hFb hbel hb1 R hTI hbl hEl C2 HW0 hW1
  generalize zs.length = len at *
  generalize runs (teeStep (rd L)) zs (st, lim, []) = Q at *
  go_wp2_with fail
  refine (teeReader_any _ _ _ _).mono ?_
  rintro e w2 ⟨rfl, rfl⟩
  go_wp2_with fail
  refine C2'.out.mono ?_
  rintro e w3 ⟨A3, c3, F3, rfl, hc3, hr3, hI3, hF3, hk3⟩
  obtain ⟨F0, G3, _, hW3, _, hFF, _⟩ := hI3
  obtain ⟨A4, c4, hb4, ho4, _, hG4, _⟩ := hW3
  have y := hb4.cell 1
  simp at y
  have HP : Hid (∀ q, TeePost Q.1 Q.2.2.2 w (.returned (.tuple #[.slice A3 Q.1.length c3, .slice A4 Q.2.2.2.length c4])) (w3.drewN q)) := Lib.hid fun q => ⟨A3, c3, A4, c4, rfl, hc3, own_cap ho4, (hr3.mono (fun k _ hk => by have := hk.1; simp at this; omega)).drewN q, ((own_bytes ho4).mono (fun k _ hk => by
      rcases hF3 k ((hFF k).2 (.inr (.inl (hG4 k hk)))) with (h | h | h) | h
      · have := (HF.out k h).1; omega
      · omega
      · omega
      · simp at h; omega)).drewN q, below_drewN (HBL.out.trans (hk3.below HBL.out.size fun i hi hD => by
    rcases hD with h | h | h
    · have := (HF.out i h).1; omega
    · omega
    · omega)) q⟩
  clear hr3 hk3 C2' hb4 ho4 hG4 hFF hF3
  go_wp2_with fail
  go_quiet (fail)
  go_wp2_with fail
  go_ret2
  exact HP.out _

end Go.Proofs.YtbddgkmkdjkloaaDoor
