/- The reader of a source: what its memory is, and what Read does to it. -/
import Derived.Test.YteljcdlnfjeaaaaDoorWords
import Derived.Test.YteljcdlnfjeaaaaDoorPlain
import Derived.Test.YteljcdlnfjeaaaaDoorErr
import Derived.Deep.QuietTactic
import Derived.BigQuiet
import Derived.StillTailTactics
import Derived.Outline
set_option linter.unusedVariables false
set_option linter.unusedSimpArgs false
namespace Go.Proofs.YteljcdlnfjeaaaaDoor
open Go.RowKit

theorem info5 : (Tryd.prog.info? 5).map (·.size) = some 1 := by kernel_rfl
theorem infoStep : (Tryd.prog.info? 50).map (fun i => (i.zero, i.size, i.bytes)) = some (some (.agg #[.slice none 0 0, .int .i64 0]), 2, 32) := by kernel_rfl
theorem infoU8 : (Tryd.prog.info? 5).map (fun i => (i.zero, i.size, i.bytes)) = some (some (.int .u8 0), 1, 1) := by kernel_rfl
theorem elemU8 : Tryd.prog.elem 22 = 5 := by kernel_rfl
theorem elemStep : Tryd.prog.elem 23 = 50 := by kernel_rfl

/-- x[n:] of bytes -/
theorem slice_bytes (A : Option Addr) (len cap n : Nat) (hn : n ≤ len) (hc : len ≤ cap) :
    ∃ A2 : Option Addr, (∀ w, (Instr.slice 22 (.slice A len cap) (some (.int .i64 (n : Int))) none none).run Tryd.prog w = .ok (.slice A2 (len - n) (cap - n)) w) ∧ (n < cap → A2 = A.map (·.add n)) := by
  obtain ⟨i0, hi, _, hs, _⟩ := info_parts infoU8
  obtain ⟨A2, h1, h2⟩ := slice_from (P := Tryd.prog) 22 (by rw [elemU8]; exact Tryd.underlying22) i0 1 (by rw [elemU8]; exact hi) hs A len cap n hn hc
  exact ⟨A2, h1, fun h => by rw [h2 h]; simp⟩
/-- x[1:] of steps -/
theorem slice_steps (A : Option Addr) (len cap : Nat) (hn : 1 ≤ len) (hc : len ≤ cap) :
    ∃ A2 : Option Addr, (∀ w, (Instr.slice 23 (.slice A len cap) (some (.int .i64 1)) none none).run Tryd.prog w = .ok (.slice A2 (len - 1) (cap - 1)) w) ∧ (1 < cap → A2 = A.map (·.add 2)) := by
  obtain ⟨i0, hi, _, hs, _⟩ := info_parts infoStep
  obtain ⟨A2, h1, h2⟩ := slice_from (P := Tryd.prog) 23 (by rw [elemStep]; exact Tryd.underlying23) i0 2 (by rw [elemStep]; exact hi) hs A len cap 1 hn hc
  exact ⟨A2, h1, fun h => by rw [h2 h]⟩

/-- rows of steps in a block -/
def StepRow (S : Nat → Prop) (w : World) (g off : Nat) (st : List (List Int × Int)) : Prop :=
  ∃ cur : List Value, Blk w g 50 cur.toArray ∧ ∀ i, i < st.length → ∃ Ai ci, cur[off + i * 2]? = some (.slice Ai (dat st i).length ci) ∧ cur[off + i * 2 + 1]? = some (.int .i64 (err st i)) ∧ (dat st i).length ≤ ci ∧ BytesAt S w Ai (dat st i)

/-- the reader at block b, its steps in block g -/
def Rd (S : Nat → Prop) (w : World) (b g : Nat) (st : List (List Int × Int)) (last : Int) : Prop :=
  ∃ A c, Blk w b 85 #[.slice A st.length c, .int .i64 last] ∧ st.length ≤ c ∧ (0 < st.length → ∃ off, A = some ⟨g, off, none⟩ ∧ StepRow S w g off st)

theorem read_nil {B : Nat} {S : Nat → Prop} {w : World} {E : Nat → Addr} (hE : Errs B w E) (b g : Nat) (last : Int) (h : Rd S w b g [] last) (P : Option Addr) (m c : Nat) :
    Calls Tryd.prog 59 #[.pointer (some ⟨b, 0, none⟩), .slice P m c] w fun e w' => e = .returned (.tuple #[.int .i64 0, errV E (norm last)]) ∧ w = w' := by
  obtain ⟨A, cc, hb, _, _⟩ := h
  have h0 := hb.cell 0
  have h1 := hb.cell 1
  simp at h0 h1
  have C := Lib.hid (toError_any hE last)
  clear hE hb
  go_enter Tryd.func59, Tryd.ntmps59
  go_wp2_with fail
  refine C.out.mono ?_
  rintro e w' ⟨rfl, rfl⟩
  go_wp2_with fail
  go_ret2
  exact ⟨rfl, rfl⟩

set_option maxRecDepth 100000 in
theorem read_part {B : Nat} {S : Nat → Prop} {w : World} (b g off k cc : Nat) (last : Int) (A0 : Option Addr) (c0 dl : Nat) (cur : List Value) (x : Int) (l d : List Int) (P : Option Addr) (m c pb poff : Nat) (pc : List Value)
    (hb : Blk w b 85 #[.slice (some ⟨g, off, none⟩) k cc, .int .i64 last]) (hg : Blk w g 50 cur.toArray) (hc0 : cur[off]? = some (.slice A0 dl c0)) (hc1 : cur[off + 1]? = some (.int .i64 x))
    (hk : 1 ≤ k) (hkc : k ≤ cc) (hdc : dl ≤ c0) (hp : Blk w pb 5 pc.toArray) (hm : l.length = min dl m) (hd : 0 < l.length → P = some ⟨pb, poff, none⟩) (hs : BytesAt S w A0 l) (hfit : poff + l.length ≤ pc.length)
    (hlt : m < dl) (hbd : dl ≤ 281474976710656) :
    Calls Tryd.prog 59 #[.pointer (some ⟨b, 0, none⟩), .slice P m c] w fun e w' => e = .returned (.tuple #[.int .i64 l.length, .nilIface]) ∧
      ∃ w1 A2, Blk w1 pb 5 (splice pc poff (bytesV l)).toArray ∧ Kept (· = pb) w w1 ∧ w' = w1.drew.setCell ⟨g, off, none⟩ (.slice A2 (dl - l.length) (c0 - l.length)) ∧ (l.length < c0 → A2 = A0.map (·.add l.length)) := by
  have hll : l.length ≤ m := by omega
  have hll2 : l.length < dl := by omega
  have hk0 : 0 < k := by omega
  have hki : (0 : Int) < (k : Int) := by omega
  obtain ⟨A2, hsl, hA2⟩ := slice_bytes A0 dl c0 l.length (by omega) hdc
  have hne1 : pb ≠ b := hp.ne_of hb (by decide)
  have hne2 : pb ≠ g := hp.ne_of hg (by decide)
  have hne3 : b ≠ g := hb.ne_of hg (by decide)
  have z0 := hb.cell 0
  have z2 := hg.cell off
  have z4 := hg.frozen off
  simp [hc0] at z0 z2
  have K : ∀ w1, Kept (· = pb) w w1 → w1.cell? ⟨b, 0, none⟩ = some (.slice (some ⟨g, off, none⟩) k cc) ∧ w1.cell? ⟨g, off, none⟩ = some (.slice A0 dl c0) ∧ w1.frozen? ⟨g, off, none⟩ = false := fun w1 h => by
    have e1 := hb.kept h (fun e => hne1 e.symm)
    have e2 := hg.kept h (fun e => hne2 e.symm)
    refine ⟨?_, ?_, e2.frozen off⟩
    · rw [e1.cell]; simp
    · rw [e2.cell]; simp [hc0]
  have K' := Lib.hid K
  have HP := Lib.hid hp
  have HM := Lib.hid hm
  have HD := Lib.hid hd
  have HS := Lib.hid hs
  have HA := Lib.hid hA2
  clear K hp hm hd hs hA2 hb hg hc0 hc1 z4
  go_enter Tryd.func59, Tryd.ntmps59
  go_wp2_with (with_reducible refine wpList_copy_kept rfl (.tmp 19) (.tmp 26) 22 5 rfl Tryd.underlying22 info5 P A0 m c dl c0 rfl rfl pb poff pc 5 HP.out l HM.out HD.out S HS.out hfit ?_)
  intro w1 HB HK
  obtain ⟨y0, y1, y2⟩ := K'.out w1 HK.out
  clear z0 z2
  go_wp2_with fail
  go_still_tail 15, (by kernel_rfl)
  change wpList _ _ _ _ _ w1.drew
  go_wp2_with fail
  go_ret2
  exact ⟨rfl, w1, A2, HB.out, HK.out, rfl, HA.out⟩

/-- what a read of a whole step leaves -/
def WholePost (b g pb off k cc c0 poff : Nat) (x : Int) (l : List Int) (pc : List Value) (w w' : World) : Prop :=
  ∃ w1 A2 A3 w3, Blk w1 pb 5 (splice pc poff (bytesV l)).toArray ∧ Kept (· = pb) w w1 ∧ (w3 = if x = 0 then w1.drew.setCell ⟨g, off, none⟩ (.slice A2 0 (c0 - l.length)) else (w1.drew.setCell ⟨g, off, none⟩ (.slice A2 0 (c0 - l.length))).setCell ⟨b, 1, none⟩ (.int .i64 x)) ∧
        w' = w3.setCell ⟨b, 0, none⟩ (.slice A3 (k - 1) (cc - 1)) ∧ (1 < cc → A3 = some ⟨g, off + 2, none⟩)

set_option maxRecDepth 100000 in
theorem read_whole {B : Nat} {S : Nat → Prop} {w : World} {E : Nat → Addr} (hE : Errs B w E) {b g pb : Nat} (hBb : B ≤ b) (hBg : B ≤ g) (hBp : B ≤ pb) (hBw : B ≤ w.heap.size) (off k cc : Nat) (last : Int) (A0 : Option Addr) (c0 : Nat) (cur : List Value) (x : Int) (l : List Int) (P : Option Addr) (m c poff : Nat) (pc : List Value)
    (hb : Blk w b 85 #[.slice (some ⟨g, off, none⟩) k cc, .int .i64 last]) (hg : Blk w g 50 cur.toArray) (hc0 : cur[off]? = some (.slice A0 l.length c0)) (hc1 : cur[off + 1]? = some (.int .i64 x))
    (hk : 1 ≤ k) (hkc : k ≤ cc) (hdc : l.length ≤ c0) (hp : Blk w pb 5 pc.toArray) (hm : l.length ≤ m) (hd : 0 < l.length → P = some ⟨pb, poff, none⟩) (hs : BytesAt S w A0 l) (hfit : poff + l.length ≤ pc.length)
    (hbd : l.length ≤ 281474976710656) :
    Calls Tryd.prog 59 #[.pointer (some ⟨b, 0, none⟩), .slice P m c] w fun e w' => e = .returned (.tuple #[.int .i64 l.length, errV E (norm x)]) ∧
      WholePost b g pb off k cc c0 poff x l pc w w' := by
  have hk0 : 0 < k := by omega
  have hki : (0 : Int) < (k : Int) := by omega
  obtain ⟨A2, hsl, hA2⟩ := slice_bytes A0 l.length c0 l.length (by omega) hdc
  rw [Nat.sub_self] at hsl
  obtain ⟨A3, hsl3, hA3⟩ := slice_steps (some ⟨g, off, none⟩) k cc hk hkc
  have hne1 : pb ≠ b := hp.ne_of hb (by decide)
  have hne2 : pb ≠ g := hp.ne_of hg (by decide)
  have hne3 : b ≠ g := hb.ne_of hg (by decide)
  have hne4 : g ≠ b := hne3.symm
  have z0 := hb.cell 0
  have z2 := hg.cell off
  have z4 := hg.frozen off
  simp [hc0] at z0 z2
  have K : ∀ w1, Kept (· = pb) w w1 → w1.cell? ⟨b, 0, none⟩ = some (.slice (some ⟨g, off, none⟩) k cc) ∧ w1.cell? ⟨b, 1, none⟩ = some (.int .i64 last) ∧ w1.frozen? ⟨b, 0, none⟩ = false ∧ w1.frozen? ⟨b, 1, none⟩ = false ∧
      w1.cell? ⟨g, off, none⟩ = some (.slice A0 l.length c0) ∧ w1.cell? ⟨g, off + 1, none⟩ = some (.int .i64 x) ∧ w1.frozen? ⟨g, off, none⟩ = false := fun w1 h => by
    have e1 := hb.kept h (fun e => hne1 e.symm)
    have e2 := hg.kept h (fun e => hne2 e.symm)
    refine ⟨?_, ?_, e1.frozen 0, e1.frozen 1, ?_, ?_, e2.frozen off⟩
    · rw [e1.cell]; simp
    · rw [e1.cell]; simp
    · rw [e2.cell]; simp [hc0]
    · rw [e2.cell]; simp [hc1]
  have K' := Lib.hid K
  have HP := Lib.hid hp
  have HM : Hid (l.length = min l.length m) := Lib.hid (by omega)
  have HD := Lib.hid hd
  have HS := Lib.hid hs
  have HA := Lib.hid hA3
  have HE := Lib.hid hE
  clear K hp hd hs hA2 hA3 hb hg hc0 hc1 z4 hE
  have hx : (x == 0) = decide (x = 0) := by by_cases h : x = 0 <;> simp [h]
  by_cases hx0 : x = 0
  · subst hx0
    clear hx
    go_enter Tryd.func59, Tryd.ntmps59
    go_wp2_with (with_reducible refine wpList_copy_kept rfl (.tmp 19) (.tmp 26) 22 5 rfl Tryd.underlying22 info5 P A0 m c l.length c0 rfl rfl pb poff pc 5 HP.out l HM.out HD.out S HS.out hfit ?_)
    intro w1 HB HK
    obtain ⟨y0, y1, y2, y3, y4, y5, y6⟩ := K'.out w1 HK.out
    clear z0 z2
    go_wp2_with fail
    go_still_tail 15, (by kernel_rfl)
    change wpList _ _ _ _ _ w1.drew
    go_wp2_with fail
    refine (toError_any (HE.out.below ?_) 0).mono ?_
    · exact (((HK.out.below hBw (fun i hi e => by omega)).drew).setCell hBg _).setCell hBb _
    rintro e w' ⟨rfl, rfl⟩
    go_wp2_with fail
    go_ret2
    exact ⟨rfl, w1, A2, A3, _, HB.out, HK.out, (if_pos rfl).symm, rfl, HA.out⟩
  · have hx1 : (x == 0) = false := beq_eq_false_iff_ne.2 hx0
    have hx2 : (x != 0) = true := by simp [hx0]
    have HX := Lib.hid hx0
    clear hx hx0
    go_enter Tryd.func59, Tryd.ntmps59
    go_wp2_with (with_reducible refine wpList_copy_kept rfl (.tmp 19) (.tmp 26) 22 5 rfl Tryd.underlying22 info5 P A0 m c l.length c0 rfl rfl pb poff pc 5 HP.out l HM.out HD.out S HS.out hfit ?_)
    intro w1 HB HK
    obtain ⟨y0, y1, y2, y3, y4, y5, y6⟩ := K'.out w1 HK.out
    clear z0 z2
    go_wp2_with fail
    go_still_tail 15, (by kernel_rfl)
    change wpList _ _ _ _ _ w1.drew
    go_wp2_with fail
    refine (toError_any (HE.out.below ?_) x).mono ?_
    · exact ((((HK.out.below hBw (fun i hi e => by omega)).drew).setCell hBg _).setCell hBb _).setCell hBb _
    rintro e w' ⟨rfl, rfl⟩
    go_wp2_with fail
    go_ret2
    exact ⟨rfl, w1, A2, A3, _, HB.out, HK.out, (if_neg HX.out).symm, rfl, HA.out⟩

/-- what a read leaves, whatever the steps are -/
def RdPost (S : Nat → Prop) (E : Nat → Addr) (b g pb poff : Nat) (pc : List Value) (st : List (List Int × Int)) (last : Int) (m : Nat) (w : World) (e : Ending) (w' : World) : Prop :=
  e = .returned (.tuple #[.int .i64 (rdI st last m).1.1.length, errV E (rdI st last m).1.2]) ∧ Rd S w' b g (rdI st last m).2.1 (rdI st last m).2.2 ∧
    Blk w' pb 5 (splice pc poff (bytesV (rdI st last m).1.1)).toArray ∧ Kept (fun k => k = b ∨ k = g ∨ k = pb) w w'

theorem getElem?_set_ne_ {cur : List Value} {off j : Nat} {u : Value} (h : off ≠ j) : (cur.set off u)[j]? = cur[j]? := by
  rw [List.getElem?_set, if_neg h]

theorem read_any {B : Nat} {S : Nat → Prop} {w : World} {E : Nat → Addr} (hE : Errs B w E) {b g pb : Nat} (hBb : B ≤ b) (hBg : B ≤ g) (hBp : B ≤ pb) (hBw : B ≤ w.heap.size) {st : List (List Int × Int)} {last : Int} (h : Rd S w b g st last)
    (hS : ∀ k, S k → k ≠ b ∧ k ≠ g ∧ k ≠ pb) {pc : List Value} (hp : Blk w pb 5 pc.toArray) {P : Option Addr} {m poff : Nat} (c : Nat) (hfit : poff + m ≤ pc.length) (hd : 0 < m → P = some ⟨pb, poff, none⟩)
    (hbd : ∀ i, i < st.length → (dat st i).length ≤ 281474976710656) :
    Calls Tryd.prog 59 #[.pointer (some ⟨b, 0, none⟩), .slice P m c] w (RdPost S E b g pb poff pc st last m w) := by
  match st, h, hbd with
  | [], h, _ =>
    refine (read_nil hE b g last h P m c).mono fun e w' ⟨he, hw⟩ => ?_
    subst hw
    exact ⟨he, h, by simpa [rdI, splice, bytesV] using hp, Kept.refl _ _⟩
  | (d, x) :: r, h, hbd =>
    obtain ⟨A, cc, hb, hcc, hrow⟩ := h
    obtain ⟨off, rfl, cur, hg, hall⟩ := hrow (by simp)
    obtain ⟨A0, c0, hc0, hc1, hdc, hby⟩ := hall 0 (by simp)
    simp only [Nat.zero_mul, Nat.add_zero, dat_zero, err_zero] at hc0 hc1 hdc hby
    have hbd0 := hbd 0 (by simp)
    rw [dat_zero] at hbd0
    have hne1 : pb ≠ b := hp.ne_of hb (by decide)
    have hne2 : pb ≠ g := hp.ne_of hg (by decide)
    have hne3 : b ≠ g := hb.ne_of hg (by decide)
    have hSg : ¬ S g := fun hh => (hS g hh).2.1 rfl
    have hSb : ¬ S b := fun hh => (hS b hh).1 rfl
    have hSp : ¬ S pb := fun hh => (hS pb hh).2.2 rfl
    have hoff : off < cur.length := by
      rcases Nat.lt_or_ge off cur.length with h | h
      · exact h
      · rw [List.getElem?_eq_none h] at hc0; cases hc0
    by_cases hlt : m < d.length
    · have hr : rdI ((d, x) :: r) last m = ((d.take m, 0), (d.drop m, x) :: r, last) := by simp [rdI, hlt]
      have hlen : (d.take m).length = m := by simp; omega
      refine (read_part (B := B) b g off (r.length + 1) cc last A0 c0 d.length cur x (d.take m) d P m c pb poff pc hb hg hc0 hc1 (by omega) (by simpa using hcc) hdc hp (by rw [hlen]; omega) (fun hh => hd (by omega)) (hby.take m) (by omega) hlt hbd0).mono ?_
      rintro e w' ⟨rfl, w1, A2, hB1, hK1, rfl, hA2⟩
      have hb1 := hb.kept hK1 (fun e => hne1 e.symm)
      have hg1 := hg.kept hK1 (fun e => hne2 e.symm)
      unfold RdPost
      rw [hr]
      refine ⟨by simp [errV], ⟨_, cc, Blk.far hb1.drew hne3 _, by simpa using hcc, fun _ => ⟨off, rfl, ?_⟩⟩, Blk.far hB1.drew hne2 _, ?_⟩
      · refine ⟨cur.set off (.slice A2 (d.length - (d.take m).length) (c0 - (d.take m).length)), by simpa using Blk.put hg1.drew off (.slice A2 (d.length - (d.take m).length) (c0 - (d.take m).length)), fun i hi => ?_⟩
        rcases i with _ | i
        · refine ⟨A2, c0 - m, by simp [dat_zero, hoff, hlen], by rw [Nat.zero_mul, Nat.add_zero, getElem?_set_ne_ (by omega), hc1]; rfl, by rw [dat_zero, List.length_drop]; omega, ?_⟩
          rw [dat_zero]
          rw [hA2 (by omega), hlen]
          exact (((hby.kept hK1 (fun k _ hk e => hSp (e ▸ hk))).drew).setCell hSg _).drop m
        · obtain ⟨Ai, ci, q1, q2, q3, q4⟩ := hall (i + 1) (by simpa using hi)
          rw [dat_succ, err_succ] at *
          exact ⟨Ai, ci, by rw [getElem?_set_ne_ (by omega)]; exact q1, by rw [getElem?_set_ne_ (by omega)]; exact q2, q3, ((q4.kept hK1 (fun k _ hk e => hSp (e ▸ hk))).drew).setCell hSg _⟩
      · exact ((hK1.mono fun k _ hk => .inr (.inr hk)).drew).setCell (fun _ => .inr (.inl rfl)) _
    · have hr : rdI ((d, x) :: r) last m = ((d, norm x), r, if x = 0 then last else x) := by simp [rdI, hlt]
      refine (read_whole hE hBb hBg hBp hBw off (r.length + 1) cc last A0 c0 cur x d P m c poff pc hb hg hc0 hc1 (by omega) (by simpa using hcc) hdc hp (by omega) (fun hh => hd (by omega)) hby (by omega) hbd0).mono ?_
      rintro e w' ⟨rfl, w1, A2, A3, w3, hB1, hK1, hw3, rfl, hA3⟩
      have hb1 := hb.kept hK1 (fun e => hne1 e.symm)
      have hg1 := hg.kept hK1 (fun e => hne2 e.symm)
      have hcc' : r.length + 1 ≤ cc := by simpa using hcc
      have Q : Blk w3 b 85 #[.slice (some ⟨g, off, none⟩) (r.length + 1) cc, .int .i64 (if x = 0 then last else x)] ∧ Blk w3 g 50 (cur.set off (.slice A2 0 (c0 - d.length))).toArray ∧
          Blk w3 pb 5 (splice pc poff (bytesV d)).toArray ∧ Kept (fun k => k = b ∨ k = g ∨ k = pb) w w3 ∧ ∀ Ai l, BytesAt S w Ai l → BytesAt S w3 Ai l := by
        have e1 := Blk.far hb1.drew (p := ⟨g, off, none⟩) hne3 (.slice A2 0 (c0 - d.length))
        have e2 := Blk.put hg1.drew off (.slice A2 0 (c0 - d.length))
        have e3 := Blk.far hB1.drew (p := ⟨g, off, none⟩) hne2 (.slice A2 0 (c0 - d.length))
        have e4 : Kept (fun k => k = b ∨ k = g ∨ k = pb) w (w1.drew.setCell ⟨g, off, none⟩ (.slice A2 0 (c0 - d.length))) := ((hK1.mono fun k _ hk => .inr (.inr hk)).drew).setCell (fun _ => .inr (.inl rfl)) _
        by_cases hx : x = 0
        · rw [if_pos hx] at hw3 ⊢
          subst hw3
          exact ⟨e1, by simpa using e2, e3, e4, fun Ai l q => ((q.kept hK1 (fun k _ hk e => hSp (e ▸ hk))).drew).setCell hSg _⟩
        · rw [if_neg hx] at hw3 ⊢
          subst hw3
          refine ⟨by simpa using Blk.put e1 1 (.int .i64 x), by simpa using Blk.far e2 (p := ⟨b, 1, none⟩) hne3.symm (.int .i64 x), Blk.far e3 (p := ⟨b, 1, none⟩) hne1 _, e4.setCell (fun _ => .inl rfl) _, fun Ai l q => (((q.kept hK1 (fun k _ hk e => hSp (e ▸ hk))).drew).setCell hSg _).setCell hSb _⟩
      obtain ⟨q1, q2, q3, q4, q5⟩ := Q
      unfold RdPost
      rw [hr]
      refine ⟨rfl, ⟨A3, cc - 1, by simpa using Blk.put q1 0 (.slice A3 r.length (cc - 1)), by simp; omega, fun hpos => ⟨off + 2, hA3 (by simp at hpos; omega), _, Blk.far q2 hne3.symm _, fun i hi => ?_⟩⟩, Blk.far q3 hne1 _, q4.setCell (fun _ => .inl rfl) _⟩
      obtain ⟨Ai, ci, p1, p2, p3, p4⟩ := hall (i + 1) (by simpa using hi)
      rw [dat_succ, err_succ] at *
      exact ⟨Ai, ci, by rw [getElem?_set_ne_ (by omega), show off + 2 + i * 2 = off + (i + 1) * 2 by omega]; exact p1, by rw [getElem?_set_ne_ (by omega), show off + 2 + i * 2 + 1 = off + (i + 1) * 2 + 1 by omega]; exact p2, p3, (q5 _ _ p4).setCell hSb _⟩

end Go.Proofs.YteljcdlnfjeaaaaDoor
