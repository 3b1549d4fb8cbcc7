/- The reference's read: one read of the state of a source. -/
import Derived.Test.YteljcdlnfjeaaaaDoorSpec
import Derived.Deep.QuietTactic
import Derived.BigQuiet
import Derived.StillTailTactics
import Derived.Deep.RegionHeld3
import Derived.Deep.AppendLies
set_option linter.unusedVariables false
set_option linter.unusedSimpArgs false
namespace Go.Proofs.YteljcdlnfjeaaaaDoor
open Go.RowKit

/-- what is left of a source, by the step and the bytes of it that were given -/
def remOf (st : List (List Int × Int)) (step given : Nat) : List (List Int × Int) :=
  match st.drop step with
  | [] => []
  | (d, e) :: r => (d.drop given, e) :: r

theorem remOf_end {st : List (List Int × Int)} {step given : Nat} (h : st.length ≤ step) : remOf st step given = [] := by
  unfold remOf; rw [List.drop_eq_nil_of_le h]
theorem remOf_at {st : List (List Int × Int)} {step given : Nat} (h : step < st.length) : remOf st step given = ((dat st step).drop given, err st step) :: st.drop (step + 1) := by
  unfold remOf; rw [List.drop_eq_getElem_cons h, dat_get h, err_get h]
theorem remOf_zero {st : List (List Int × Int)} {step : Nat} : remOf st step 0 = st.drop step := by
  unfold remOf
  split
  · next h => exact h.symm
  · next h => rw [h]; simp

/-- the state of the reference's source at block sb -/
structure StAt (S : Nat → Prop) (w : World) (sb : Nat) (A : Option Addr) (c : Nat) (st : List (List Int × Int)) (step given : Nat) : Prop where
  blk : Blk w sb 73 #[.slice A st.length c, .int .i64 step, .int .i64 given]
  recs : RecsAt S w A st
  le : step ≤ st.length
  giv : step < st.length → given ≤ (dat st step).length
  fin : step = st.length → given = 0
  len : st.length ≤ 281474976710656
  small : ∀ i, i < st.length → (dat st i).length ≤ 140737488355328
  apart : ∀ k, S k → k ≠ sb

theorem StAt.kept {D S : Nat → Prop} {w w' : World} {sb : Nat} {A : Option Addr} {c : Nat} {st : List (List Int × Int)} {step given : Nat} (h : StAt S w sb A c st step given) (hk : Kept D w w') (hd : ∀ k, k < w.heap.size → (S k ∨ k = sb) → ¬ D k) : StAt S w' sb A c st step given :=
  ⟨h.blk.kept hk (hd sb h.blk.lt (.inr rfl)), h.recs.kept hk (fun k hk' hS => hd k hk' (.inl hS)), h.le, h.giv, h.fin, h.len, h.small, h.apart⟩

def SReadPost (S : Nat → Prop) (sb : Nat) (A : Option Addr) (c : Nat) (st : List (List Int × Int)) (step given m : Nat) (w : World) (e : Ending) (w' : World) : Prop :=
  ∃ A' c' step' given', e = .returned (.agg #[.slice A' (rd (lastErr st) (remOf st step given) m).1.1.length c', .int .i64 (rd (lastErr st) (remOf st step given) m).1.2]) ∧ (rd (lastErr st) (remOf st step given) m).1.1.length ≤ c' ∧
    BytesAt (fun j => w.heap.size ≤ j) w' A' (rd (lastErr st) (remOf st step given) m).1.1 ∧ StAt S w' sb A c st step' given' ∧ remOf st step' given' = (rd (lastErr st) (remOf st step given) m).2 ∧ Kept (· = sb) w w'

set_option maxRecDepth 100000 in
theorem sread_end {S : Nat → Prop} {w : World} {sb : Nat} {A : Option Addr} {c : Nat} {st : List (List Int × Int)} {step given m : Nat} (h : StAt S w sb A c st step given) (hs : step = st.length) :
    Calls Tryd.prog 41 #[.pointer (some ⟨sb, 0, none⟩), .int .i64 m] w (SReadPost S sb A c st step given m w) := by
  have C := fun (w' : World) (hb : Below w.heap.size w w') => Lib.hid (last_any c h.len ((h.recs.mono (S' := (· < w.heap.size)) fun k hk _ => hk).below hb))
  have k0 := h.blk.cell 0
  have k1 := h.blk.cell 1
  simp at k0 k1
  have hlt := h.blk.lt
  have HH := Lib.hid h
  have HS := Lib.hid hs
  have hle := h.len
  have hge : st.length ≤ step := by omega
  clear h hs
  generalize hlen : st.length = len at *
  have HL := Lib.hid hlen
  clear hlen
  go_enter Tryd.func41, Tryd.ntmps41
  go_wp2_with fail
  go_quiet (fail)
  go_wp2_with fail
  refine (C _ ?hb).out.mono ?_
  case hb => exact (below_drewN ((Below.refl _ _).alloc (Nat.le_refl _) _) _).alloc (by simp) _
  rintro e w2 ⟨rfl, hb2⟩
  have bR : Blk w2 w.heap.size 39 #[.slice none 0 0, .int .i64 0] := (((Blk.new w 39 #[.slice none 0 0, .int .i64 0]).drewN nq).alloc _).below hb2 (by simp; omega)
  have y0 := bR.cell 0
  have y1 := bR.cell 1
  have y2 := bR.frozen 0
  have y3 := bR.frozen 1
  simp at y0 y1
  have hkept : Kept (fun _ => False) w w2 := (((Kept.refl _ _).alloc _).drewN _ |>.alloc _).of_below hb2
  have HK := Lib.hid hkept
  have HB := Lib.hid bR
  clear hb2 hkept bR
  go_wp2_with fail
  refine bodyPost_ret (v := .agg #[.slice (some ⟨w.heap.size + 1, 0, none⟩) 0 0, .int .i64 (lastErr st)]) ?_ rfl ?_
  · simp [results, Tryd.results41, go_sem, y0, y1]
  · have e1 := HL.out
    have e2 := HS.out
    have hrem : remOf st step given = [] := remOf_end (by omega)
    unfold SReadPost
    rw [hrem, rd_nil]
    have hk2 := (HK.out.setCell (p := ⟨w.heap.size, 0, none⟩) (fun hh => by simp at hh) (.slice (some ⟨w.heap.size + 1, 0, none⟩) 0 0)).setCell (p := ⟨w.heap.size, 1, none⟩) (fun hh => by simp at hh) (.int .i64 (lastErr st))
    exact ⟨_, 0, step, given, rfl, Nat.le_refl _, BytesAt.nil _ _ _, HH.out.kept hk2 (fun _ _ _ hf => hf), hrem, hk2.mono fun _ _ hf => hf.elim⟩

theorem elemU8' : Tryd.prog.elem 22 = 5 := by kernel_rfl
/-- x[lo:lo+n] of bytes -/
theorem slice_bytes_mid (A : Option Addr) (len cap lo n : Nat) (hn : lo + n ≤ cap) :
    ∃ A2 : Option Addr, (∀ w, (Instr.slice 22 (.slice A len cap) (some (.int .i64 (lo : Int))) (some (.int .i64 ((lo : Int) + (n : Int)))) none).run Tryd.prog w = .ok (.slice A2 n (cap - lo)) w) ∧ (lo < cap → A2 = A.map (·.add lo)) := by
  obtain ⟨i0, hi, _, hs, _⟩ := info_parts infoU8'
  obtain ⟨A2, h1, h2⟩ := slice_mid (P := Tryd.prog) 22 (by rw [elemU8']; exact Tryd.underlying22) i0 1 (by rw [elemU8']; exact hi) hs A len cap lo n hn
  exact ⟨A2, h1, fun h => by rw [h2 h]; simp⟩

/-- what a read of a part of a step leaves -/
def PartPost (w : World) (sb ab aoff c len step g m : Nat) (l : List Int) (e : Ending) (w' : World) : Prop :=
  ∃ A4 c4 w4 nq, e = .returned (.agg #[.slice A4 m c4, .int .i64 0]) ∧ Kept (fun _ => False) w w4 ∧ w4.ownsRow (w.heap.size + 1) 5 1 (.slice A4 m c4) m (bytesV l) ∧
    Blk w4 sb 73 #[.slice (some ⟨ab, aoff, none⟩) len c, .int .i64 step, .int .i64 g] ∧
    w' = (((w4.setCell ⟨sb, 2, none⟩ (.int .i64 (g + m))).setCell ⟨w.heap.size, 0, none⟩ (.slice A4 m c4)).setCell ⟨w.heap.size, 1, none⟩ (.int .i64 0)).drewN nq

set_option maxRecDepth 100000 in
theorem sread_part {S : Nat → Prop} {w : World} {sb : Nat} {ab aoff : Nat} {c : Nat} {len step g dl ci : Nat} {x : Int} {Ai : Option Addr} {l : List Int} {m : Nat}
    (hb : Blk w sb 73 #[.slice (some ⟨ab, aoff, none⟩) len c, .int .i64 step, .int .i64 g]) (hab : ab < w.heap.size) (g1 : w.cell? ⟨ab, aoff + step * 2, none⟩ = some (.slice Ai dl ci)) (g2 : w.cell? ⟨ab, aoff + step * 2 + 1, none⟩ = some (.int .i64 x))
    (hs : step < len) (hlen : len ≤ 281474976710656) (hdl : dl ≤ 140737488355328) (hdc : dl ≤ ci) (hg : g ≤ dl) (hm : m < dl - g) (hl : l.length = m) (hby : BytesAt S w (Ai.map (·.add g)) l) :
    Calls Tryd.prog 41 #[.pointer (some ⟨sb, 0, none⟩), .int .i64 m] w (PartPost w sb ab aoff c len step g m l) := by
  obtain ⟨i0, hi0, hz0, hz1, hz2⟩ := info_parts infoU8'
  have k0 := hb.cell 0
  have k1 := hb.cell 1
  have k2 := hb.cell 2
  simp at k0 k1 k2
  have hsb := hb.lt
  have hsi : (step : Int) < (len : Int) := by omega
  have hsi0 : (0 : Int) ≤ (step : Int) := by omega
  have HB := Lib.hid hb
  have HL := Lib.hid hl
  have HY := Lib.hid hby
  clear hb hl hby
  go_enter Tryd.func41, Tryd.ntmps41
  go_wp2_with fail
  go_quiet (fail)
  go_wp2_with fail
  generalize hw1 : (w.alloc (Obj.cells #[Value.slice none 0 0, Value.int IntKind.i64 0] 39)).drewN nq = w1
  have hK1 : Kept (fun _ => False) w w1 := by rw [← hw1]; exact ((Kept.refl _ _).alloc _).drewN _
  have hR : Blk w1 w.heap.size 39 #[.slice none 0 0, .int .i64 0] := by rw [← hw1]; exact (Blk.new w _ _).drewN _
  have hsz1 : w1.heap.size = w.heap.size + 1 := by rw [← hw1]; simp
  have q0 : w1.cell? ⟨sb, 0, none⟩ = some (.slice (some ⟨ab, aoff, none⟩) len c) := (hK1.cell hsb id).trans k0
  have q1 : w1.cell? ⟨sb, 1, none⟩ = some (.int .i64 step) := (hK1.cell hsb id).trans k1
  have q2 : w1.cell? ⟨sb, 2, none⟩ = some (.int .i64 g) := (hK1.cell hsb id).trans k2
  have q3 : w1.cell? ⟨ab, aoff + step * 2, none⟩ = some (.slice Ai dl ci) := (hK1.cell hab id).trans g1
  have q4 : w1.cell? ⟨ab, aoff + step * 2 + 1, none⟩ = some (.int .i64 x) := (hK1.cell hab id).trans g2
  have n0 := World.new_ne w1 _ q0
  have n1 := World.new_ne w1 _ q1
  have n3 := World.new_ne w1 _ q3
  have n4 := World.new_ne w1 _ q4
  have HK1 := Lib.hid hK1
  have HR := Lib.hid hR
  have HSZ := Lib.hid hsz1
  clear hw1 hK1 hR k0 k1 k2 g1 g2 hsz1
  go_region_held3 (fun w' => w'.cell? ⟨sb, 0, none⟩ = some (.slice (some ⟨ab, aoff, none⟩) len c) ∧ w'.cell? ⟨sb, 1, none⟩ = some (.int .i64 step) ∧ w'.cell? ⟨ab, aoff + step * 2, none⟩ = some (.slice Ai dl ci) ∧ w'.cell? ⟨ab, aoff + step * 2 + 1, none⟩ = some (.int .i64 x))
    (go_keep) (fail)
  go_wp2_with fail
  generalize hw2 : (w1.alloc (Obj.cells #[Value.slice Ai dl ci, Value.int IntKind.i64 x] 50)).drew = w2
  have hK2 : Kept (fun _ => False) w1 w2 := by rw [← hw2]; exact ((Kept.refl _ _).alloc _).drew
  have hX : Blk w2 w1.heap.size 50 #[.slice Ai dl ci, .int .i64 x] := by rw [← hw2]; exact (Blk.new w1 _ _).drew
  have hsz2 : w2.heap.size = w1.heap.size + 1 := by rw [← hw2]; simp
  have hsb1 : sb < w1.heap.size := by have := HK1.out.size; omega
  have r2 : w2.cell? ⟨sb, 2, none⟩ = some (.int .i64 g) := (hK2.cell hsb1 id).trans q2
  have rX := hX.cell 0
  have rY := hX.cell 1
  simp at rX rY
  have HK2 := Lib.hid (HK1.out.trans hK2 (fun _ _ hf => hf))
  have HX := Lib.hid hX
  have HR2 := Lib.hid (HR.out.kept hK2 id)
  have HSZ2 := Lib.hid hsz2
  clear hw2 hK2 hX q0 q1 q2 q3 q4 n0 n1 n3 n4 hsz2
  go_quiet (fail)
  go_wp2_with fail
  obtain ⟨A3, hsl, hA3⟩ := slice_bytes_mid Ai dl ci g m (by omega)
  generalize hw3 : w2.drewN nq = w3
  have hK3 : Kept (fun _ => False) w w3 := by rw [← hw3]; exact HK2.out.drewN _
  have hX3 : Blk w3 w1.heap.size 50 #[.slice Ai dl ci, .int .i64 x] := by rw [← hw3]; exact HX.out.drewN _
  have hsz3 : w3.heap.size = w1.heap.size + 1 := by rw [← hw3]; exact HSZ2.out
  have hsb3 : sb < w3.heap.size := by omega
  have t2 : w3.cell? ⟨sb, 2, none⟩ = some (.int .i64 g) := by rw [← hw3]; exact r2
  have tX : w3.cell? ⟨w1.heap.size, 0, none⟩ = some (.slice Ai dl ci) := by rw [← hw3]; exact rX
  have O1 : ((w3.alloc (.cells #[] 5)).drew).ownsRow (w.heap.size + 1) 5 1 (.slice (some ⟨w3.heap.size, 0, none⟩) 0 0) 0 [] :=
    own_drew (own_empty w3 (w.heap.size + 1) 5 1 (by have := HSZ.out; omega))
  have B1 : BytesAt (· < w.heap.size) ((w3.alloc (.cells #[] 5)).drew) A3 l := by
    have h0 := ((HY.out.mono (S' := (· < w.heap.size)) fun k hk _ => hk).kept hK3 (fun k _ _ hf => hf))
    exact ((h0.addr (fun hp => hA3 (by have := HL.out; omega))).alloc _).drew
  have hll : l.length = m := HL.out
  have s1 : IntKind.i64.wrap ((g : Int) + (m : Int)) = (g : Int) + (m : Int) := IntWalk.i64_in _ (by omega)
  have HO1 := Lib.hid O1
  have HB1 := Lib.hid B1
  have HN1 := Lib.hid (show NewsAt ((w3.alloc (.cells #[] 5)).drew) A3 m (bytesV l) by have := B1.news; rw [hll] at this; exact this)
  have HL1 := Lib.hid (show (bytesV l).length = m * 1 by rw [bytesV_length]; omega)
  have HK3 := Lib.hid hK3
  have HX3 := Lib.hid hX3
  have HR3 : Hid (Blk w3 w.heap.size 39 #[.slice none 0 0, .int .i64 0]) := Lib.hid (by rw [← hw3]; exact HR2.out.drewN _)
  have HSZ3 := Lib.hid hsz3
  have hw3B : w.heap.size + 1 ≤ w3.heap.size := by have := HSZ.out; omega
  have n2 := World.new_ne w3 _ t2
  have n3 := World.new_ne w3 _ tX
  have hlt1 : w1.heap.size < w3.heap.size := by omega
  clear hw3 hK3 hX3 hsz3 r2 rX rY O1 B1 hll hA3
  go_region_held3 (fun w' => w'.cell? ⟨sb, 2, none⟩ = some (.int .i64 g) ∧ w'.cell? ⟨w1.heap.size, 0, none⟩ = some (.slice Ai dl ci))
    (first
      | go_keep
      | exact ⟨v1, v2⟩)
    (first
      | (refine step_append_new _ (by rfl) (.tmp 47) (.tmp 60) 22 (by rfl) (w.heap.size + 1) 5 i0 _ 1 1 Tryd.underlying22 hi0 hz0 hz1 hz2 rfl (by omega) _ (by rfl) HO1.out A3 m (ci - g) (bytesV l) (by rfl) HL1.out HN1.out (bytesV_one l) (by unfold maxLen; omega) (by omega) (by simp; omega) ?_; intro A4 c4 w4 hap; have v1 := (hap.cell (a := ⟨sb, 2, none⟩) (by simp; omega) (by simp [Value.ownBlock]; omega)).trans ((World.cell?_alloc_lt w3 _ _ (by simp; omega)).trans t2); have v2 := (hap.cell (a := ⟨w1.heap.size, 0, none⟩) (by simp; omega) (by simp [Value.ownBlock]; omega)).trans ((World.cell?_alloc_lt w3 _ _ (by simp; omega)).trans tX)))
  have hneO : ∀ k, k < w3.heap.size → some k ≠ (Value.slice (some ⟨w3.heap.size, 0, none⟩) 0 0).ownBlock := fun k hk => by simp [Value.ownBlock]; omega
  have old : ∀ k, k < w3.heap.size → w4.heap[k]? = w3.heap[k]? := fun k hk => (hap.grown.block k (by simp; omega) (hneO k hk)).trans (Below.heap_alloc w3 _ k hk)
  have hb4 : Blk w4 sb 73 #[.slice (some ⟨ab, aoff, none⟩) len c, .int .i64 step, .int .i64 g] := (HB.out.kept HK3.out id).keep (old sb hsb3)
  have hX4 : Blk w4 w1.heap.size 50 #[.slice Ai dl ci, .int .i64 x] := HX3.out.keep (old _ hlt1)
  have hR4 : Blk w4 w.heap.size 39 #[.slice none 0 0, .int .i64 0] := HR3.out.keep (old _ (by omega))
  have HK4 : Hid (Kept (fun _ => False) w w4) := Lib.hid (HK3.out.of_below ⟨hap.grown.os, hap.grown.tape, hap.grown.output, by have := hap.sizeLe; simp at this; omega, old⟩)
  have HOwn := Lib.hid hap.own
  have p0 := hb4.cell 2
  have p1 := hb4.frozen 2
  have p2 := hX4.cell 0
  have p3 := hX4.cell 1
  have p4 := hR4.cell 0
  have p5 := hR4.cell 1
  have p6 := hR4.frozen 0
  have p7 := hR4.frozen 1
  simp at p0 p2 p3 p4 p5
  have d1 : w1.heap.size ≠ sb := hX4.ne_of hb4 (by decide)
  have d2 : w.heap.size ≠ sb := hR4.ne_of hb4 (by decide)
  have d3 : sb ≠ w1.heap.size := d1.symm
  have d4 : sb ≠ w.heap.size := d2.symm
  have H4 : Hid (Blk w4 sb 73 #[.slice (some ⟨ab, aoff, none⟩) len c, .int .i64 step, .int .i64 g]) := Lib.hid hb4
  clear hap old hneO hb4 hX4 hR4 v1 v2 t2 tX n2 n3 s1 hsl
  go_wp2_with fail
  go_quiet (fail)
  go_wp2_with fail
  refine bodyPost_ret (v := .agg #[.slice A4 m c4, .int .i64 0]) ?_ rfl ?_
  · simp [results, Tryd.results41, go_sem, p4, p5]
  · refine ⟨A4, c4, w4, _, rfl, HK4.out, HOwn.out, H4.out, rfl⟩

/-- what a read of the rest of a step leaves -/
def WholePost2 (w : World) (sb ab aoff c len step g n : Nat) (x : Int) (l : List Int) (e : Ending) (w' : World) : Prop :=
  ∃ A4 c4 w4 nq, e = .returned (.agg #[.slice A4 n c4, .int .i64 x]) ∧ Kept (fun _ => False) w w4 ∧ w4.ownsRow (w.heap.size + 1) 5 1 (.slice A4 n c4) n (bytesV l) ∧
    Blk w4 sb 73 #[.slice (some ⟨ab, aoff, none⟩) len c, .int .i64 step, .int .i64 g] ∧
    w' = (((((w4.setCell ⟨sb, 2, none⟩ (.int .i64 (g + n))).drewN nq).setCell ⟨sb, 1, none⟩ (.int .i64 (step + 1))).setCell ⟨sb, 2, none⟩ (.int .i64 0)).setCell ⟨w.heap.size, 0, none⟩ (.slice A4 n c4)).setCell ⟨w.heap.size, 1, none⟩ (.int .i64 x)

set_option maxRecDepth 100000 in
theorem sread_whole {S : Nat → Prop} {w : World} {sb : Nat} {ab aoff : Nat} {c : Nat} {len step g dl ci : Nat} {x : Int} {Ai : Option Addr} {l : List Int} {m n : Nat}
    (hb : Blk w sb 73 #[.slice (some ⟨ab, aoff, none⟩) len c, .int .i64 step, .int .i64 g]) (hab : ab < w.heap.size) (g1 : w.cell? ⟨ab, aoff + step * 2, none⟩ = some (.slice Ai dl ci)) (g2 : w.cell? ⟨ab, aoff + step * 2 + 1, none⟩ = some (.int .i64 x))
    (hs : step < len) (hlen : len ≤ 281474976710656) (hdl : dl ≤ 140737488355328) (hdc : dl ≤ ci) (hn1 : g + n ≤ dl) (hn2 : dl ≤ g + n) (hm : n ≤ m) (hl : l.length = n) (hby : BytesAt S w (Ai.map (·.add g)) l) :
    Calls Tryd.prog 41 #[.pointer (some ⟨sb, 0, none⟩), .int .i64 m] w (WholePost2 w sb ab aoff c len step g n x l) := by
  obtain ⟨i0, hi0, hz0, hz1, hz2⟩ := info_parts infoU8'
  have k0 := hb.cell 0
  have k1 := hb.cell 1
  have k2 := hb.cell 2
  simp at k0 k1 k2
  have hsb := hb.lt
  have hsi : (step : Int) < (len : Int) := by omega
  have hsi0 : (0 : Int) ≤ (step : Int) := by omega
  have HB := Lib.hid hb
  have hmin : (if (dl : Int) - (g : Int) < (m : Int) then (dl : Int) - (g : Int) else (m : Int)) = (n : Int) := by split <;> omega
  have HL := Lib.hid hl
  have HY := Lib.hid hby
  clear hb hl hby
  go_enter Tryd.func41, Tryd.ntmps41
  go_wp2_with fail
  go_quiet (fail)
  go_wp2_with fail
  generalize hw1 : (w.alloc (Obj.cells #[Value.slice none 0 0, Value.int IntKind.i64 0] 39)).drewN nq = w1
  have hK1 : Kept (fun _ => False) w w1 := by rw [← hw1]; exact ((Kept.refl _ _).alloc _).drewN _
  have hR : Blk w1 w.heap.size 39 #[.slice none 0 0, .int .i64 0] := by rw [← hw1]; exact (Blk.new w _ _).drewN _
  have hsz1 : w1.heap.size = w.heap.size + 1 := by rw [← hw1]; simp
  have q0 : w1.cell? ⟨sb, 0, none⟩ = some (.slice (some ⟨ab, aoff, none⟩) len c) := (hK1.cell hsb id).trans k0
  have q1 : w1.cell? ⟨sb, 1, none⟩ = some (.int .i64 step) := (hK1.cell hsb id).trans k1
  have q2 : w1.cell? ⟨sb, 2, none⟩ = some (.int .i64 g) := (hK1.cell hsb id).trans k2
  have q3 : w1.cell? ⟨ab, aoff + step * 2, none⟩ = some (.slice Ai dl ci) := (hK1.cell hab id).trans g1
  have q4 : w1.cell? ⟨ab, aoff + step * 2 + 1, none⟩ = some (.int .i64 x) := (hK1.cell hab id).trans g2
  have n0 := World.new_ne w1 _ q0
  have n1 := World.new_ne w1 _ q1
  have n3 := World.new_ne w1 _ q3
  have n4 := World.new_ne w1 _ q4
  have HK1 := Lib.hid hK1
  have HR := Lib.hid hR
  have HSZ := Lib.hid hsz1
  clear hw1 hK1 hR k0 k1 k2 g1 g2 hsz1
  go_region_held3 (fun w' => w'.cell? ⟨sb, 0, none⟩ = some (.slice (some ⟨ab, aoff, none⟩) len c) ∧ w'.cell? ⟨sb, 1, none⟩ = some (.int .i64 step) ∧ w'.cell? ⟨ab, aoff + step * 2, none⟩ = some (.slice Ai dl ci) ∧ w'.cell? ⟨ab, aoff + step * 2 + 1, none⟩ = some (.int .i64 x))
    (go_keep) (fail)
  go_wp2_with fail
  generalize hw2 : (w1.alloc (Obj.cells #[Value.slice Ai dl ci, Value.int IntKind.i64 x] 50)).drew = w2
  have hK2 : Kept (fun _ => False) w1 w2 := by rw [← hw2]; exact ((Kept.refl _ _).alloc _).drew
  have hX : Blk w2 w1.heap.size 50 #[.slice Ai dl ci, .int .i64 x] := by rw [← hw2]; exact (Blk.new w1 _ _).drew
  have hsz2 : w2.heap.size = w1.heap.size + 1 := by rw [← hw2]; simp
  have hsb1 : sb < w1.heap.size := by have := HK1.out.size; omega
  have r2 : w2.cell? ⟨sb, 2, none⟩ = some (.int .i64 g) := (hK2.cell hsb1 id).trans q2
  have rX := hX.cell 0
  have rY := hX.cell 1
  simp at rX rY
  have HK2 := Lib.hid (HK1.out.trans hK2 (fun _ _ hf => hf))
  have HX := Lib.hid hX
  have HR2 := Lib.hid (HR.out.kept hK2 id)
  have HSZ2 := Lib.hid hsz2
  clear hw2 hK2 hX q0 q1 q2 q3 q4 n0 n1 n3 n4 hsz2
  go_quiet (fail)
  go_wp2_with fail
  obtain ⟨A3, hsl, hA3⟩ := slice_bytes_mid Ai dl ci g n (by omega)
  generalize hw3 : w2.drewN nq = w3
  have hK3 : Kept (fun _ => False) w w3 := by rw [← hw3]; exact HK2.out.drewN _
  have hX3 : Blk w3 w1.heap.size 50 #[.slice Ai dl ci, .int .i64 x] := by rw [← hw3]; exact HX.out.drewN _
  have hsz3 : w3.heap.size = w1.heap.size + 1 := by rw [← hw3]; exact HSZ2.out
  have hsb3 : sb < w3.heap.size := by omega
  have t2 : w3.cell? ⟨sb, 2, none⟩ = some (.int .i64 g) := by rw [← hw3]; exact r2
  have tX : w3.cell? ⟨w1.heap.size, 0, none⟩ = some (.slice Ai dl ci) := by rw [← hw3]; exact rX
  have O1 : ((w3.alloc (.cells #[] 5)).drew).ownsRow (w.heap.size + 1) 5 1 (.slice (some ⟨w3.heap.size, 0, none⟩) 0 0) 0 [] :=
    own_drew (own_empty w3 (w.heap.size + 1) 5 1 (by have := HSZ.out; omega))
  have B1 : BytesAt (· < w.heap.size) ((w3.alloc (.cells #[] 5)).drew) A3 l := by
    have h0 := ((HY.out.mono (S' := (· < w.heap.size)) fun k hk _ => hk).kept hK3 (fun k _ _ hf => hf))
    exact ((h0.addr (fun hp => hA3 (by have := HL.out; omega))).alloc _).drew
  have hll : l.length = n := HL.out
  have s1 : IntKind.i64.wrap ((g : Int) + (n : Int)) = (g : Int) + (n : Int) := IntWalk.i64_in _ (by omega)
  have HO1 := Lib.hid O1
  have HB1 := Lib.hid B1
  have HN1 := Lib.hid (show NewsAt ((w3.alloc (.cells #[] 5)).drew) A3 n (bytesV l) by have := B1.news; rw [hll] at this; exact this)
  have HL1 := Lib.hid (show (bytesV l).length = n * 1 by rw [bytesV_length]; omega)
  have HK3 := Lib.hid hK3
  have HX3 := Lib.hid hX3
  have HR3 : Hid (Blk w3 w.heap.size 39 #[.slice none 0 0, .int .i64 0]) := Lib.hid (by rw [← hw3]; exact HR2.out.drewN _)
  have HSZ3 := Lib.hid hsz3
  have hw3B : w.heap.size + 1 ≤ w3.heap.size := by have := HSZ.out; omega
  have n2 := World.new_ne w3 _ t2
  have n3 := World.new_ne w3 _ tX
  have hlt1 : w1.heap.size < w3.heap.size := by omega
  clear hw3 hK3 hX3 hsz3 r2 rX rY O1 B1 hll hA3
  go_region_held3 (fun w' => w'.cell? ⟨sb, 2, none⟩ = some (.int .i64 g) ∧ w'.cell? ⟨w1.heap.size, 0, none⟩ = some (.slice Ai dl ci))
    (first
      | go_keep
      | exact ⟨v1, v2⟩)
    (first
      | (refine step_append_new _ (by rfl) (.tmp 47) (.tmp 60) 22 (by rfl) (w.heap.size + 1) 5 i0 _ 1 1 Tryd.underlying22 hi0 hz0 hz1 hz2 rfl (by omega) _ (by rfl) HO1.out A3 n (ci - g) (bytesV l) (by rfl) HL1.out HN1.out (bytesV_one l) (by unfold maxLen; omega) (by omega) (by simp; omega) ?_; intro A4 c4 w4 hap; have v1 := (hap.cell (a := ⟨sb, 2, none⟩) (by simp; omega) (by simp [Value.ownBlock]; omega)).trans ((World.cell?_alloc_lt w3 _ _ (by simp; omega)).trans t2); have v2 := (hap.cell (a := ⟨w1.heap.size, 0, none⟩) (by simp; omega) (by simp [Value.ownBlock]; omega)).trans ((World.cell?_alloc_lt w3 _ _ (by simp; omega)).trans tX)))
  have hneO : ∀ k, k < w3.heap.size → some k ≠ (Value.slice (some ⟨w3.heap.size, 0, none⟩) 0 0).ownBlock := fun k hk => by simp [Value.ownBlock]; omega
  have old : ∀ k, k < w3.heap.size → w4.heap[k]? = w3.heap[k]? := fun k hk => (hap.grown.block k (by simp; omega) (hneO k hk)).trans (Below.heap_alloc w3 _ k hk)
  have hb4 : Blk w4 sb 73 #[.slice (some ⟨ab, aoff, none⟩) len c, .int .i64 step, .int .i64 g] := (HB.out.kept HK3.out id).keep (old sb hsb3)
  have hX4 : Blk w4 w1.heap.size 50 #[.slice Ai dl ci, .int .i64 x] := HX3.out.keep (old _ hlt1)
  have hR4 : Blk w4 w.heap.size 39 #[.slice none 0 0, .int .i64 0] := HR3.out.keep (old _ (by omega))
  have HK4 : Hid (Kept (fun _ => False) w w4) := Lib.hid (HK3.out.of_below ⟨hap.grown.os, hap.grown.tape, hap.grown.output, by have := hap.sizeLe; simp at this; omega, old⟩)
  have HOwn := Lib.hid hap.own
  have p0 := hb4.cell 2
  have p1 := hb4.frozen 2
  have p8 := hb4.cell 1
  have p9 := hb4.frozen 1
  have p2 := hX4.cell 0
  have p3 := hX4.cell 1
  have p4 := hR4.cell 0
  have p5 := hR4.cell 1
  have p6 := hR4.frozen 0
  have p7 := hR4.frozen 1
  simp at p0 p2 p3 p4 p5 p8
  have d1 : w1.heap.size ≠ sb := hX4.ne_of hb4 (by decide)
  have d2 : w.heap.size ≠ sb := hR4.ne_of hb4 (by decide)
  have d3 : sb ≠ w1.heap.size := d1.symm
  have d4 : sb ≠ w.heap.size := d2.symm
  have H4 : Hid (Blk w4 sb 73 #[.slice (some ⟨ab, aoff, none⟩) len c, .int .i64 step, .int .i64 g]) := Lib.hid hb4
  clear hap old hneO hb4 hX4 hR4 v1 v2 t2 tX n2 n3 s1 hsl
  go_wp2_with fail
  go_quiet (fail)
  go_wp2_with fail
  refine bodyPost_ret (v := .agg #[.slice A4 n c4, .int .i64 x]) ?_ rfl ?_
  · simp [results, Tryd.results41, go_sem, p4, p5]
  · exact ⟨A4, c4, w4, nq, rfl, HK4.out, HOwn.out, H4.out, rfl⟩

theorem take_drop_len {d : List Int} {g m : Nat} (h : m < d.length - g) : ((d.drop g).take m).length = m := by simp; omega

theorem sread_any {S : Nat → Prop} {w : World} {sb : Nat} {A : Option Addr} {c : Nat} {st : List (List Int × Int)} {step given : Nat} (m : Nat) (h : StAt S w sb A c st step given) :
    Calls Tryd.prog 41 #[.pointer (some ⟨sb, 0, none⟩), .int .i64 m] w (SReadPost S sb A c st step given m w) := by
  by_cases hs : step = st.length
  · exact sread_end h hs
  · have hlt : step < st.length := by have := h.le; omega
    obtain ⟨ab, aoff, rfl, hSab, hab, hall⟩ := h.recs (by omega)
    obtain ⟨Ai, ci, g1, g2, hdc, hby⟩ := hall step hlt
    have hgiv := h.giv hlt
    have hsm := h.small step hlt
    have hrem := remOf_at (given := given) hlt
    have hsbS : ¬ S sb := fun hh => h.apart sb hh rfl
    have keepR : ∀ {w' : World}, Kept (· = sb) w w' → RecsAt S w' (some ⟨ab, aoff, none⟩) st := fun hk => h.recs.kept hk (fun k _ hS e => hsbS (e ▸ hS))
    by_cases hm : m < (dat st step).length - given
    · refine (sread_part h.blk hab g1 g2 hlt h.len hsm hdc hgiv hm (take_drop_len hm) ((hby.drop given).take m)).mono ?_
      rintro e w' ⟨A4, c4, w4, nq, rfl, hK, hown, hblk, rfl⟩
      have hk0 : Kept (· = sb) w w4 := hK.mono fun _ _ hf => hf.elim
      have hk' : Kept (· = sb) w ((((w4.setCell ⟨sb, 2, none⟩ (.int .i64 (given + m))).setCell ⟨w.heap.size, 0, none⟩ (.slice A4 m c4)).setCell ⟨w.heap.size, 1, none⟩ (.int .i64 0)).drewN nq) :=
        (((hk0.setCell (p := ⟨sb, 2, none⟩) (fun _ => rfl) _).setCell (p := ⟨w.heap.size, 0, none⟩) (fun hh => absurd hh (by simp)) _).setCell (p := ⟨w.heap.size, 1, none⟩) (fun hh => absurd hh (by simp)) _).drewN _
      have hrd : rd (lastErr st) (remOf st step given) m = ((((dat st step).drop given).take m, 0), (((dat st step).drop given).drop m, err st step) :: st.drop (step + 1)) := by
        rw [hrem, rd_cons, if_pos (by simp; exact hm)]
      have hlen := take_drop_len hm
      unfold SReadPost
      rw [hrd]
      have hne : sb ≠ w.heap.size := by have := h.blk.lt; omega
      refine ⟨A4, c4, step, given + m, by simp only [hlen], by simp only [hlen]; exact own_cap hown, ?_, ⟨?_, keepR hk', h.le, fun _ => by omega, fun e => absurd e hs, h.len, h.small, h.apart⟩, ?_, hk'⟩
      · have b0 := own_bytes hown
        have hgeq : ∀ k, (Value.slice A4 m c4).ownBlock = some k → w.heap.size + 1 ≤ k := fun k e => (own_block_lt hown e).1
        refine (((((b0.mono fun k _ hk => hgeq k hk).setCell (S := fun k => w.heap.size + 1 ≤ k) ?_ _).setCell ?_ _).setCell ?_ _).drewN nq).mono fun k _ hk => ?_
        · have := h.blk.lt; simp; omega
        · simp
        · simp
        · exact Nat.le_of_succ_le hk
      · have b1 := hblk.put 2 (.int .i64 (given + m))
        have b2 := ((b1.far (p := ⟨w.heap.size, 0, none⟩) hne (.slice A4 m c4)).far (p := ⟨w.heap.size, 1, none⟩) hne (.int .i64 0)).drewN nq
        simpa using b2
      · rw [remOf_at hlt, List.drop_drop]
    · obtain ⟨n, hn⟩ : ∃ n, n = (dat st step).length - given := ⟨_, rfl⟩
      have hlen : ((dat st step).drop given).length = n := by rw [List.length_drop, hn]
      refine (sread_whole (n := n) h.blk hab g1 g2 hlt h.len hsm hdc (by omega) (by omega) (by omega) hlen (hby.drop given)).mono ?_
      rintro e w' ⟨A4, c4, w4, nq, rfl, hK, hown, hblk, rfl⟩
      have hk0 : Kept (· = sb) w w4 := hK.mono fun _ _ hf => hf.elim
      have hk' : Kept (· = sb) w ((((((w4.setCell ⟨sb, 2, none⟩ (.int .i64 (given + n))).drewN nq).setCell ⟨sb, 1, none⟩ (.int .i64 (step + 1))).setCell ⟨sb, 2, none⟩ (.int .i64 0)).setCell ⟨w.heap.size, 0, none⟩ (.slice A4 n c4)).setCell ⟨w.heap.size, 1, none⟩ (.int .i64 (err st step))) :=
        (((((hk0.setCell (p := ⟨sb, 2, none⟩) (fun _ => rfl) _).drewN _).setCell (p := ⟨sb, 1, none⟩) (fun _ => rfl) _).setCell (p := ⟨sb, 2, none⟩) (fun _ => rfl) _).setCell (p := ⟨w.heap.size, 0, none⟩) (fun hh => absurd hh (by simp)) _).setCell (p := ⟨w.heap.size, 1, none⟩) (fun hh => absurd hh (by simp)) _
      have hrd : rd (lastErr st) (remOf st step given) m = (((dat st step).drop given, err st step), st.drop (step + 1)) := by
        rw [hrem, rd_cons, if_neg (by simp; omega)]
      unfold SReadPost
      rw [hrd]
      have hne : sb ≠ w.heap.size := by have := h.blk.lt; omega
      refine ⟨A4, c4, step + 1, 0, by simp only [hlen], by simp only [hlen]; exact own_cap hown, ?_, ⟨?_, keepR hk', by omega, fun _ => Nat.zero_le _, fun _ => rfl, h.len, h.small, h.apart⟩, remOf_zero, hk'⟩
      · have b0 := own_bytes hown
        have hgeq : ∀ k, (Value.slice A4 n c4).ownBlock = some k → w.heap.size + 1 ≤ k := fun k e => (own_block_lt hown e).1
        have hsb := h.blk.lt
        refine ((((((((b0.mono fun k _ hk => hgeq k hk).setCell (S := fun k => w.heap.size + 1 ≤ k) (by simp; omega) _).drewN nq).setCell (by simp; omega) _).setCell (by simp; omega) _).setCell (by simp) _).setCell (by simp) _).mono fun k _ hk => ?_)
        exact Nat.le_of_succ_le hk
      · have b1 := (((hblk.put 2 (.int .i64 (given + n))).drewN nq).put 1 (.int .i64 (step + 1))).put 2 (.int .i64 0)
        have b2 := ((b1.far (p := ⟨w.heap.size, 0, none⟩) hne (.slice A4 n c4)).far (p := ⟨w.heap.size, 1, none⟩) hne (.int .i64 (err st step)))
        simpa using b2

end Go.Proofs.YteljcdlnfjeaaaaDoor
