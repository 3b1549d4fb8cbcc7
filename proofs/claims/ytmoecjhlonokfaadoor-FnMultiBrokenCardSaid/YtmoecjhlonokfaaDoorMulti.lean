/- The Read of a multiReader over the program's own readers. -/
import Derived.Test.YtmoecjhlonokfaaDoorMultiP
import Derived.Deep.QuietTactic
import Derived.BigQuiet
set_option linter.unusedVariables false
set_option linter.unusedSimpArgs false
namespace Go.Proofs.YtmoecjhlonokfaaDoor
open Go.RowKit

theorem nilAhead_multi (a : Addr) (w : World) : (nilAhead 229 100 (.pointer (some a)) "Read").run Tryd.prog w = .ok (some false) w := by kernel_rfl
theorem method_multi (a : Addr) (w : World) : (method 229 100 (.pointer (some a)) "Read").run Tryd.prog w = .ok (61, .pointer (some a)) w := by kernel_rfl
theorem reader_noMulti (v : Value) (w : World) : (Instr.typeAssert (.iface 80 v) 84 100 true).run Tryd.prog w = .ok (.tuple #[.pointer none, .bool false]) w := by kernel_rfl
theorem eqlNil (a : Addr) (w : World) : (binOp .eql 67 .nilIface (.iface 103 (.pointer (some a)))).run Tryd.prog w = .ok (.bool false) w := by kernel_rfl
theorem neqNil (a : Addr) (w : World) : (binOp .neq 67 .nilIface (.iface 103 (.pointer (some a)))).run Tryd.prog w = .ok (.bool true) w := by kernel_rfl
theorem infoRdr : (Tryd.prog.info? 84).map (fun i => (i.zero, i.size, i.bytes)) = some (some .nilIface, 1, 16) := by kernel_rfl
theorem elemRdr : Tryd.prog.elem 79 = 84 := by kernel_rfl
/-- x[1:] of readers -/
theorem slice_readers (A : Option Addr) (len cap : Nat) (hn : 1 ≤ len) (hc : len ≤ cap) :
    ∃ A2 : Option Addr, (∀ w, (Instr.slice 79 (.slice A len cap) (some (.int .i64 1)) none none).run Tryd.prog w = .ok (.slice A2 (len - 1) (cap - 1)) w) ∧ (1 < cap → A2 = A.map (·.add 1)) := by
  obtain ⟨i0, hi, _, hs, _⟩ := info_parts infoRdr
  obtain ⟨A2, h1, h2⟩ := slice_from (P := Tryd.prog) 79 (by rw [elemRdr]; exact Tryd.underlying79) i0 1 (by rw [elemRdr]; exact hi) hs A len cap 1 hn hc
  exact ⟨A2, h1, fun h => by rw [h2 h]⟩

/-- a reader behind an interface -/
def rdV (b : Nat) : Value := .iface 80 (.pointer (some ⟨b, 0, none⟩))

/-- the readers of several sources: block, block of the steps, all blocks of each -/
def Items (B : Nat) (w : World) : List (Nat × Nat × (Nat → Prop)) → List (Int × List (List Int × Int)) → Prop
  | [], [] => True
  | it :: its, t :: ts => SrcI B t.1 it.1 it.2.1 t.2 it.2.2 w ∧ (∀ k, it.2.2 k → ∀ x ∈ its, ¬ x.2.2 k) ∧ Items B w its ts
  | _, _ => False

theorem Items.length {B : Nat} {w : World} : ∀ {its : List (Nat × Nat × (Nat → Prop))} {ts : List (Int × List (List Int × Int))}, Items B w its ts → its.length = ts.length
  | [], [], _ => rfl
  | _ :: _, _ :: _, ⟨_, _, h⟩ => by simp [h.length]

theorem Items.keep {B : Nat} {w w' : World} (hsz : w.heap.size ≤ w'.heap.size) : ∀ {its : List (Nat × Nat × (Nat → Prop))} {ts : List (Int × List (List Int × Int))}, Items B w its ts → (∀ k, k < w.heap.size → (∃ x ∈ its, x.2.2 k) → w'.heap[k]? = w.heap[k]?) → Items B w' its ts
  | [], [], _, _ => trivial
  | it :: its, t :: ts, ⟨h1, h2, h3⟩, hk => ⟨(src_rdr B (fun _ => ⟨0, 0, none⟩) t.1 it.1 it.2.1).keep h1 hsz fun k hk' hF => hk k hk' ⟨it, List.mem_cons_self, hF⟩, h2, h3.keep hsz fun k hk' ⟨x, hx, hF⟩ => hk k hk' ⟨x, List.mem_cons_of_mem _ hx, hF⟩⟩

theorem Items.lo {B : Nat} {w : World} : ∀ {its : List (Nat × Nat × (Nat → Prop))} {ts : List (Int × List (List Int × Int))}, Items B w its ts → ∀ x ∈ its, ∀ k, x.2.2 k → B ≤ k ∧ k < w.heap.size
  | [], [], _, x, hx, _, _ => by cases hx
  | it :: its, t :: ts, ⟨h1, _, h3⟩, x, hx, k, hF => by
    rcases List.mem_cons.1 hx with rfl | hx
    · exact (src_rdr B (fun _ => ⟨0, 0, none⟩) t.1 x.1 x.2.1).lo h1 hF
    · exact h3.lo x hx k hF

theorem Items.valid {B : Nat} {w : World} : ∀ {its : List (Nat × Nat × (Nat → Prop))} {ts : List (Int × List (List Int × Int))}, Items B w its ts → ValidAll ts
  | [], [], _ => fun _ h => by cases h
  | it :: its, t :: ts, ⟨⟨_, h1, _⟩, _, h3⟩ => fun x hx => by
    rcases List.mem_cons.1 hx with rfl | hx
    · exact h1.1
    · exact h3.valid x hx

/-- the multiReader at block mb, its readers in block ab -/
def MultiI (B mb ab : Nat) (ts : List (Int × List (List Int × Int))) (F : Nat → Prop) (w : World) : Prop :=
  ∃ its off cap A cs, Items B w its ts ∧ Blk w ab 84 cs ∧ (∀ i it, its[i]? = some it → cs[off + i]? = some (rdV it.1)) ∧ Blk w mb 102 #[.slice A ts.length cap] ∧ ts.length ≤ cap ∧ (0 < ts.length → A = some ⟨ab, off, none⟩) ∧
    (∀ k, F k ↔ (k = mb ∨ k = ab ∨ ∃ x ∈ its, x.2.2 k)) ∧ (∀ x ∈ its, ¬ x.2.2 mb ∧ ¬ x.2.2 ab) ∧ mb ≠ ab ∧ B ≤ mb ∧ B ≤ ab

theorem MultiI.keep {B mb ab : Nat} {ts : List (Int × List (List Int × Int))} {F : Nat → Prop} {w w' : World} (h : MultiI B mb ab ts F w) (hsz : w.heap.size ≤ w'.heap.size) (hk : ∀ k, k < w.heap.size → F k → w'.heap[k]? = w.heap[k]?) : MultiI B mb ab ts F w' := by
  obtain ⟨its, off, cap, A, cs, h1, h2, h3, h4, h5, h6, h7, h8, h9, h10, h11⟩ := h
  exact ⟨its, off, cap, A, cs, h1.keep hsz fun k hk' hx => hk k hk' ((h7 k).2 (.inr (.inr hx))), h2.keep (hk ab h2.lt ((h7 ab).2 (.inr (.inl rfl)))), h3, h4.keep (hk mb h4.lt ((h7 mb).2 (.inl rfl))), h5, h6, h7, h8, h9, h10, h11⟩

theorem MultiI.lo {B mb ab : Nat} {ts : List (Int × List (List Int × Int))} {F : Nat → Prop} {w : World} {k : Nat} (h : MultiI B mb ab ts F w) (hF : F k) : B ≤ k ∧ k < w.heap.size := by
  obtain ⟨its, off, cap, A, cs, h1, h2, h3, h4, h5, h6, h7, h8, h9, h10, h11⟩ := h
  rcases (h7 k).1 hF with rfl | rfl | ⟨x, hx, hk⟩
  · exact ⟨h10, h4.lt⟩
  · exact ⟨h11, h2.lt⟩
  · exact h1.lo x hx k hk

theorem MultiI.valid {B mb ab : Nat} {ts : List (Int × List (List Int × Int))} {F : Nat → Prop} {w : World} (h : MultiI B mb ab ts F w) : ValidAll ts := by
  obtain ⟨its, off, cap, A, cs, h1, _⟩ := h
  exact h1.valid

/-- the first reader, and what is left behind a read of it -/
theorem MultiI.head {B mb ab pb : Nat} {L : Int} {st : List (List Int × Int)} {r : List (Int × List (List Int × Int))} {F : Nat → Prop} {w : World} (h : MultiI B mb ab ((L, st) :: r) F w) (hpb : ¬ F pb) :
    ∃ b g F0 off cap cs, SrcI B L b g st F0 w ∧ Blk w mb 102 #[.slice (some ⟨ab, off, none⟩) (r.length + 1) cap] ∧ Blk w ab 84 cs ∧ cs[off]? = some (rdV b) ∧ r.length + 1 ≤ cap ∧ ¬ (F0 mb ∨ mb = pb) ∧ ¬ (F0 ab ∨ ab = pb) ∧ ¬ F0 pb ∧ mb ≠ ab ∧ (∀ k, F0 k → F k) ∧
    (∀ (w1 : World) (F1 : Nat → Prop) (st1 : List (List Int × Int)), SrcI B L b g st1 F1 w1 → (∀ k, F1 k → F0 k ∨ w.heap.size ≤ k) → Kept (fun k => F0 k ∨ k = pb) w w1 →
      (∃ F', MultiI B mb ab ((L, st1) :: r) F' w1 ∧ ∀ k, F' k → F k ∨ w.heap.size ≤ k) ∧
      ∀ (A2 : Option Addr) (u : Value), (1 < cap → A2 = some ⟨ab, off + 1, none⟩) → (∃ F', MultiI B mb ab r F' ((w1.setCell ⟨ab, off, none⟩ u).setCell ⟨mb, 0, none⟩ (.slice A2 r.length (cap - 1))) ∧ ∀ k, F' k → F k ∨ w.heap.size ≤ k) ∧
        Kept (fun k => F k ∨ k = pb) w ((w1.setCell ⟨ab, off, none⟩ u).setCell ⟨mb, 0, none⟩ (.slice A2 r.length (cap - 1)))) := by
  obtain ⟨its, off, cap, A, cs, h1, h2, h3, h4, h5, h6, h7, h8, h9, h10, h11⟩ := h
  cases its with
  | nil => cases h1
  | cons it its =>
    obtain ⟨b, g, F0⟩ := it
    obtain ⟨hs, hd, hi⟩ := h1
    simp only at hs hd
    have hA := h6 (by simp)
    subst hA
    have hF0 : ∀ k, F0 k → F k := fun k hk => (h7 k).2 (.inr (.inr ⟨_, List.mem_cons_self, hk⟩))
    have hmb : F mb := (h7 mb).2 (.inl rfl)
    have hab : F ab := (h7 ab).2 (.inr (.inl rfl))
    have hn := h8 (b, g, F0) List.mem_cons_self
    simp only at hn
    have hp1 : mb ≠ pb := fun e => hpb (e ▸ hmb)
    have hp2 : ab ≠ pb := fun e => hpb (e ▸ hab)
    refine ⟨b, g, F0, off, cap, cs, hs, h4, h2, by simpa using h3 0 _ rfl, by simpa using h5, fun h => h.elim hn.1 hp1, fun h => h.elim hn.2 hp2, fun h => hpb (hF0 _ h), h9, hF0, fun w1 F1 st1 g1 g2 g3 => ?_⟩
    have hitl : ∀ x ∈ its, ∀ k, x.2.2 k → k < w.heap.size := fun x hx k hk => (hi.lo x hx k hk).2
    have hi1 : Items B w1 its r := hi.keep g3.size fun k hk ⟨x, hx, hF⟩ => g3.block k hk (by
      rintro (h | h)
      · exact hd k h x hx hF
      · exact hpb (h ▸ (h7 k).2 (.inr (.inr ⟨x, List.mem_cons_of_mem _ hx, hF⟩))))
    have b2 : Blk w1 ab 84 cs := h2.kept g3 (fun h => h.elim hn.2 hp2)
    have b4 : Blk w1 mb 102 #[.slice (some ⟨ab, off, none⟩) ((L, st) :: r).length cap] := h4.kept g3 (fun h => h.elim hn.1 hp1)
    have l2 := h2.lt
    have l4 := h4.lt
    have hk0 : Kept (fun k => F k ∨ k = pb) w w1 := g3.mono fun k _ hD => by
      rcases hD with h | h
      · exact .inl (hF0 k h)
      · exact .inr h
    refine ⟨⟨fun k => k = mb ∨ k = ab ∨ ∃ x ∈ (b, g, F1) :: its, x.2.2 k, ⟨(b, g, F1) :: its, off, cap, _, cs, ⟨g1, fun k hk x hx hF => ?_, hi1⟩, b2, fun i it hit => ?_, b4, by simpa using h5, fun _ => rfl, fun k => Iff.rfl, fun x hx => ?_, h9, h10, h11⟩, fun k hk => ?_⟩, fun A2 u hA2 => ⟨⟨fun k => k = mb ∨ k = ab ∨ ∃ x ∈ its, x.2.2 k, ⟨its, off + 1, cap - 1, A2, _, hi1.keep (by simp [World.setCell]) fun k hk ⟨x, hx, hF⟩ => ?_, (b2.put off u).far (p := ⟨mb, 0, none⟩) h9.symm _, fun i it hit => ?_, ?_, by simp at h5; omega, fun hr => hA2 (by simp at h5; omega), fun k => Iff.rfl, fun x hx => h8 x (List.mem_cons_of_mem _ hx), h9, h10, h11⟩, fun k hk => ?_⟩, ?_⟩⟩
    · rcases g2 k hk with h | h
      · exact hd k h x hx hF
      · have := hitl x hx k hF; omega
    · cases i with
      | zero => obtain rfl : (b, g, F1) = it := by simpa using hit
                exact h3 0 (b, g, F0) rfl
      | succ i => exact h3 (i + 1) it (by simpa using hit)
    · rcases List.mem_cons.1 hx with rfl | hx
      · simp only
        refine ⟨fun h => ?_, fun h => ?_⟩
        · rcases g2 _ h with h | h
          · exact hn.1 h
          · omega
        · rcases g2 _ h with h | h
          · exact hn.2 h
          · omega
      · exact h8 x (List.mem_cons_of_mem _ hx)
    · rcases hk with rfl | rfl | ⟨x, hx, hk⟩
      · exact .inl hmb
      · exact .inl hab
      · rcases List.mem_cons.1 hx with rfl | hx
        · rcases g2 k hk with h | h
          · exact .inl (hF0 k h)
          · exact .inr h
        · exact .inl ((h7 k).2 (.inr (.inr ⟨x, List.mem_cons_of_mem _ hx, hk⟩)))
    · have hx8 := h8 x (List.mem_cons_of_mem _ hx)
      rw [Below.heap_setCell _ _ _ _ (fun e => hx8.1 (by simp at e; exact e ▸ hF)), Below.heap_setCell _ _ _ _ (fun e => hx8.2 (by simp at e; exact e ▸ hF))]
    · have := h3 (i + 1) it (by simpa using hit)
      rw [Array.getElem?_setIfInBounds_ne (by omega), show off + 1 + i = off + (i + 1) by omega]
      exact this
    · simpa using (b4.far (p := ⟨ab, off, none⟩) h9 u).put 0 (.slice A2 r.length (cap - 1))
    · rcases hk with rfl | rfl | ⟨x, hx, hk⟩
      · exact .inl hmb
      · exact .inl hab
      · exact .inl ((h7 k).2 (.inr (.inr ⟨x, List.mem_cons_of_mem _ hx, hk⟩)))
    · exact (hk0.setCell (p := ⟨ab, off, none⟩) (fun _ => .inl hab) _).setCell (p := ⟨mb, 0, none⟩) (fun _ => .inl hmb) _

/-- what holds at the head of a round -/
def MLoop (B mb ab m pb : Nat) (pc : List Value) (F : Nat → Prop) (Q : (List Int × Int) × List (Int × List (List Int × Int))) (w : World) (f : Nat) (wr : World) : Prop :=
  ∃ ts F', f = ts.length ∧ MultiI B mb ab ts F' wr ∧ Q = multiStep ts m ∧ (∀ k, F' k → F k ∨ w.heap.size ≤ k) ∧ Kept (fun k => F k ∨ k = pb) w wr ∧ Blk wr pb 5 pc.toArray

set_option maxHeartbeats 4000000 in
set_option maxRecDepth 100000 in
theorem multi_read {B : Nat} {E : Nat → Addr} {mb ab : Nat} {ts : List (Int × List (List Int × Int))} {F : Nat → Prop} {w : World} {pb : Nat} {pc : List Value} {m : Nat} (c : Nat) (h : MultiI B mb ab ts F w) (hE : Errs B w E) (hBw : B ≤ w.heap.size) (hp : Blk w pb 5 (List.toArray pc)) (hFp : ¬ F pb) (hBp : B ≤ pb) (hfit : m ≤ pc.length) (hc : m ≤ c) (hm : m ≤ 1048576) :
    Calls Tryd.prog 61 #[.pointer (some ⟨mb, 0, none⟩), .slice (some ⟨pb, 0, none⟩) m c] w (ReadPostW (MultiI B mb ab) E F pb (multiStep ts m) w) := by
  have HE := Lib.hid hE
  have HFP := Lib.hid hFp
  have hpl := hp.lt
  have HBF := Lib.hid fun k (hk : F k) => (h.lo hk).1
  have HM0 : Hid (MLoop B mb ab m pb pc F (multiStep ts m) w ts.length w) := Lib.hid ⟨ts, F, rfl, h, rfl, fun k hk => .inl hk, Kept.refl _ _, hp⟩
  generalize multiStep ts m = Q at *
  have HDN : Hid (∀ (w1 : World) (v : Value), v = errV E Q.1.2 → (∃ F', MultiI B mb ab Q.2 F' w1 ∧ ∀ k, F' k → F k ∨ w.heap.size ≤ k) → Kept (fun k => F k ∨ k = pb) w w1 → (∃ rest, Blk w1 pb 5 (bytesV Q.1.1 ++ rest).toArray) → ReadPostW (MultiI B mb ab) E F pb Q w (.returned (.tuple #[.int .i64 Q.1.1.length, v])) w1) := Lib.hid fun w1 v g1 g2 g3 g4 => by
    subst g1
    exact ⟨rfl, g2, g4, g3⟩
  clear h hE hp hFp
  generalize ts.length = n0 at *
  go_enter Tryd.func61, Tryd.ntmps61
  go_wp2_with fail
  go_loopg [] n0 (fun f wr => MLoop B mb ab m pb pc F Q w f wr)
  case atStart => exact HM0.out
  case round =>
    clear HM0
    obtain ⟨ts', F', rfl, hI, hQ, hF', hK, hB⟩ := hrel
    have hszr := hK.size
    have hFp' : ¬ F' pb := fun hh => by
      rcases hF' pb hh with h | h
      · exact HFP.out h
      · omega
    have hEr : Errs B wr E := HE.out.below (hK.below hBw fun i hi hD => by
      rcases hD with h | h
      · have := HBF.out i h; omega
      · omega)
    have h1 := hEr.cell 1 rfl
    simp only [errG] at h1
    have HK := Lib.hid hK
    have HFF := Lib.hid hF'
    have HB := Lib.hid hB
    cases ts' with
    | nil =>
      obtain ⟨its, off, cap, A, cs, i1, i2, i3, i4, i5, i6, i7, i8, i9, i10, i11⟩ := hI
      have z0 := i4.cell 0
      simp at z0
      have HPO : Hid (∀ q, ReadPostW (MultiI B mb ab) E F pb Q w (.returned (.tuple #[.int .i64 0, .iface 103 (.pointer (some (E 1)))])) (wr.drewN q)) := Lib.hid fun q => by
        have h' := HDN.out (wr.drewN q) (.iface 103 (.pointer (some (E 1))))
        rw [hQ] at h' ⊢
        refine h' (errV_pos E 1 rfl).symm ⟨F', MultiI.keep ⟨its, off, cap, A, cs, i1, i2, i3, i4, i5, i6, i7, i8, i9, i10, i11⟩ (Nat.le_refl _) (fun _ _ _ => rfl), HFF.out⟩ (HK.out.drewN q) ⟨pc, by simpa [multiStep, bytesV] using HB.out.drewN q⟩
      clear i1 i2 i3 i4 i5 i6 i7 i8 i10 i11 hQ hF' hK hB HDN hEr
      go_wp2_with fail
      go_quiet (fail)
      go_wp2_with fail
      go_ret2
      exact HPO.out _
    | cons t r =>
      obtain ⟨L, st⟩ := t
      obtain ⟨b, g, F0, off, cap, cs, hS, bm, ba, hcs, hcap, nm, na, np, hne, hF0, hnext⟩ := hI.head hFp'
      have z0 := bm.cell 0
      have z1 := (ba.cell off).trans hcs
      simp at z0
      unfold rdV at z1
      obtain ⟨A2, hsl, hA2⟩ := slice_readers (some ⟨ab, off, none⟩) (r.length + 1) cap (by omega) hcap
      have hA2' : 1 < cap → A2 = some ⟨ab, off + 1, none⟩ := fun h => by rw [hA2 h]; simp [Addr.add_lit]
      have C := (src_rdr B E L b g).read (P := some ⟨pb, 0, none⟩) (m := m) (poff := 0) c hS hEr (by omega) hB np hBp (by omega) (fun _ => rfl) hc (by omega)
      have hlen := rd_len L st m
      have hval := hI.valid.head
      simp only at hval
      have herr := hval.err m
      unfold multiStep at hQ
      unfold ReadPost at C
      generalize rd L st m = R at *
      obtain ⟨⟨nd, ne⟩, st1⟩ := R
      simp only at C hQ hlen herr
      have HQ := Lib.hid hQ
      have HA2 := Lib.hid hA2'
      have HNX := Lib.hid hnext
      have HBM := Lib.hid bm
      have HBA := Lib.hid ba
      have HNM := Lib.hid nm
      have HNA := Lib.hid na
      have HCS := Lib.hid hcs
      have HF0 := Lib.hid hF0
      have HER := Lib.hid herr
      have HEr := Lib.hid hEr
      have C' := Lib.hid C
      have HBS := Lib.hid fun k (hk : F0 k) => ((src_rdr B E L b g).lo hS hk).1
      have hnil := fun w => nilAhead_read ⟨b, 0, none⟩ w
      have hmet := fun w => method_read ⟨b, 0, none⟩ w
      have hta := reader_noMulti (.pointer (some ⟨b, 0, none⟩))
      have hrl : r.length = 0 → r = [] := fun h => List.eq_nil_of_length_eq_zero h
      have HRL := Lib.hid hrl
      have HRD := Lib.hid (rfl : r.length = r.length)
      clear hI hS bm ba hcs nm na np hF0 hnext hA2 hA2' C hval herr hQ hF' hK hB hEr hrl
      rw [Nat.add_sub_cancel] at hsl
      generalize hrn : r.length = rn at *
      have HRN := Lib.hid hrn
      clear hrn HRD
      by_cases hr0 : rn = 0
      · subst hr0
        simp only [Nat.zero_add] at hsl z0
        go_wp2_with fail
        refine C'.out.mono ?_
        rintro e w1 ⟨rfl, ⟨F1, hI1, hF1⟩, hblk1, hkept1⟩
        have hz1 := hkept1.size
        have hE1 : Errs B w1 E := HEr.out.below (hkept1.below (by omega) fun i hi hD => by
          rcases hD with h | h
          · have := HBS.out i h; omega
          · omega)
        have B1 := HBM.out.kept hkept1 HNM.out
        have B2 := HBA.out.kept hkept1 HNA.out
        have y0 := B1.cell 0
        have y1 := (B2.cell off).trans HCS.out
        have y2 := B1.frozen 0
        have y3 := B2.frozen off
        have y4 := hE1.cell 1 rfl
        simp only [errG] at y4
        simp at y0
        have HE1 := Lib.hid hE1
        have HN1 := Lib.hid (HNX.out w1 F1 st1 hI1 hF1 hkept1)
        have HK1 := Lib.hid hkept1
        have HB1 := Lib.hid hblk1
        clear hI1 hF1 hblk1 hkept1 hE1 B1 B2 C' z0 z1 h1 HNX
        have HS2 : Hid (∀ k, F' k → F k ∨ w.heap.size ≤ k) := HFF
        have HSTEP : Hid (∀ (F2 : Nat → Prop) (w2 : World) (ts2 : List (Int × List (List Int × Int))), (MultiI B mb ab ts2 F2 w2 ∧ ∀ k, F2 k → F' k ∨ wr.heap.size ≤ k) → ∃ F', MultiI B mb ab ts2 F' w2 ∧ ∀ k, F' k → F k ∨ w.heap.size ≤ k) := Lib.hid fun F2 w2 ts2 ⟨g1, g2⟩ => ⟨F2, g1, fun k hk => by
          rcases g2 k hk with h | h
          · exact HFF.out k h
          · exact .inr (by omega)⟩
        have HKT : Hid (∀ w2 : World, Kept (fun k => F' k ∨ k = pb) wr w2 → Kept (fun k => F k ∨ k = pb) w w2) := Lib.hid fun w2 hk2 => HK.out.trans hk2 fun k hk hD => by
          rcases hD with h | h
          · rcases HFF.out k h with h | h
            · exact .inl h
            · omega
          · exact .inr h
        have herr := HER.out
        clear HER
        rcases herr with rfl | rfl | rfl
        · have HPO : Hid (ReadPostW (MultiI B mb ab) E F pb Q w (.returned (.tuple #[.int .i64 (nd.length : Int), .nilIface])) w1) := Lib.hid (by
            have hQ := HQ.out
            rw [if_neg (by decide)] at hQ
            have h' := HDN.out w1 .nilIface
            rw [hQ] at h' ⊢
            obtain ⟨F2, g1, g2⟩ := HN1.out.1
            exact h' (errV_zero E).symm (HSTEP.out F2 w1 _ ⟨g1, g2⟩) (HKT.out w1 (HK1.out.mono fun k _ hD => hD.imp (HF0.out k) id)) ⟨_, by have := HB1.out; unfold splice at this; rw [List.take_zero, List.nil_append] at this; exact this⟩)
          rw [errV_zero]
          have e1 := eqlNil (E 1)
          have e2 := neqNil (E 1)
          clear HQ HN1 HSTEP HKT HDN
          by_cases hn0 : nd.length = 0
          · rw [hn0] at HPO ⊢
            go_wp2_with fail
            go_ret2
            exact HPO.out
          · have hn1 : 0 < nd.length := by omega
            go_wp2_with fail
            go_ret2
            exact HPO.out
        · have e1 := eqlE HE1.out 1 1 rfl rfl
          have e2 := neqE HE1.out 1 1 rfl rfl
          obtain ⟨k0, k1⟩ := HN1.out.2 A2 (.iface 124 (.agg #[])) HA2.out
          have HI2 := Lib.hid k0
          have HK2 := Lib.hid k1
          have hE2 : Errs B ((w1.setCell ⟨ab, off, none⟩ (.iface 124 (.agg #[]))).setCell ⟨mb, 0, none⟩ (.slice A2 0 (cap - 1))) E := HEr.out.below (HK2.out.below (by omega) fun i hi hD => by
            rcases hD with h | h
            · rcases HFF.out i h with h | h
              · have := HBF.out i h; omega
              · omega
            · omega)
          have y5 := hE2.cell 1 rfl
          simp only [errG] at y5
          have e3 := eqlE hE2 1 1 rfl rfl
          have e4 := neqE hE2 1 1 rfl rfl
          have hpne : pb ≠ ab ∧ pb ≠ mb := ⟨fun e => HNA.out (.inr e.symm), fun e => HNM.out (.inr e.symm)⟩
          have HB2 : Hid (Blk ((w1.setCell ⟨ab, off, none⟩ (.iface 124 (.agg #[]))).setCell ⟨mb, 0, none⟩ (.slice A2 0 (cap - 1))) pb 5 (splice pc 0 (bytesV nd)).toArray) := Lib.hid ((HB1.out.far (p := ⟨ab, off, none⟩) hpne.1 _).far (p := ⟨mb, 0, none⟩) hpne.2 _)
          clear k0 k1 hE2 HN1 hpne
          rw [show errV E 1 = .iface 103 (.pointer (some (E 1))) from errV_pos E 1 rfl]
          by_cases hn0 : nd.length = 0
          · have hnd : nd = [] := List.eq_nil_of_length_eq_zero hn0
            subst hnd
            clear HDN
            go_wp2_with fail
            go_roundg 0
            case measure => simp only [List.length_cons, HRN.out]; omega
            case rel =>
              have hQ := HQ.out
              simp only [if_true, List.length_nil, eq_self_iff_true] at hQ
              obtain ⟨F2, g1, g2⟩ := HI2.out
              obtain ⟨F3, g3, g4⟩ := HSTEP.out F2 _ _ ⟨g1, g2⟩
              exact ⟨r, F3, HRN.out.symm, g3, hQ, g4, HKT.out _ HK2.out, by simpa [splice, bytesV] using HB2.out⟩
          · have hn1 : 0 < nd.length := by omega
            have HPO : Hid (ReadPostW (MultiI B mb ab) E F pb Q w (.returned (.tuple #[.int .i64 (nd.length : Int), .iface 103 (.pointer (some (E 1)))])) ((w1.setCell ⟨ab, off, none⟩ (.iface 124 (.agg #[]))).setCell ⟨mb, 0, none⟩ (.slice A2 0 (cap - 1)))) := Lib.hid (by
              have hQ := HQ.out
              simp only [if_true, eq_self_iff_true, if_neg hn0] at hQ
              have h' := HDN.out ((w1.setCell ⟨ab, off, none⟩ (.iface 124 (.agg #[]))).setCell ⟨mb, 0, none⟩ (.slice A2 0 (cap - 1))) (.iface 103 (.pointer (some (E 1))))
              rw [hQ] at h' ⊢
              obtain ⟨F2, g1, g2⟩ := HI2.out
              exact h' (errV_pos E 1 rfl).symm (HSTEP.out F2 _ _ ⟨g1, g2⟩) (HKT.out _ HK2.out) ⟨_, by have := HB2.out; unfold splice at this; rw [List.take_zero, List.nil_append] at this; exact this⟩)
            clear HQ HSTEP HKT HDN
            go_wp2_with fail
            go_ret2
            exact HPO.out
        · have e1 := eqlE HE1.out 2 1 rfl rfl
          have e2 := neqE HE1.out 2 1 rfl rfl
          have HPO : Hid (ReadPostW (MultiI B mb ab) E F pb Q w (.returned (.tuple #[.int .i64 (nd.length : Int), .iface 103 (.pointer (some (E 2)))])) w1) := Lib.hid (by
            have hQ := HQ.out
            rw [if_neg (by decide)] at hQ
            have h' := HDN.out w1 (.iface 103 (.pointer (some (E 2))))
            rw [hQ] at h' ⊢
            obtain ⟨F2, g1, g2⟩ := HN1.out.1
            exact h' (errV_pos E 2 rfl).symm (HSTEP.out F2 w1 _ ⟨g1, g2⟩) (HKT.out w1 (HK1.out.mono fun k _ hD => hD.imp (HF0.out k) id)) ⟨_, by have := HB1.out; unfold splice at this; rw [List.take_zero, List.nil_append] at this; exact this⟩)
          rw [show errV E 2 = .iface 103 (.pointer (some (E 2))) from errV_pos E 2 rfl]
          clear HQ HN1 HSTEP HKT HDN
          by_cases hn0 : nd.length = 0
          · rw [hn0] at HPO ⊢
            go_wp2_with fail
            go_ret2
            exact HPO.out
          · have hn1 : 0 < nd.length := by omega
            go_wp2_with fail
            go_ret2
            exact HPO.out
      · have hdz : ¬ ((rn : Int) + 1 = 1) := by omega
        go_wp2_with fail
        refine C'.out.mono ?_
        rintro e w1 ⟨rfl, ⟨F1, hI1, hF1⟩, hblk1, hkept1⟩
        have hz1 := hkept1.size
        have hE1 : Errs B w1 E := HEr.out.below (hkept1.below (by omega) fun i hi hD => by
          rcases hD with h | h
          · have := HBS.out i h; omega
          · omega)
        have B1 := HBM.out.kept hkept1 HNM.out
        have B2 := HBA.out.kept hkept1 HNA.out
        have y0 := B1.cell 0
        have y1 := (B2.cell off).trans HCS.out
        have y2 := B1.frozen 0
        have y3 := B2.frozen off
        have y4 := hE1.cell 1 rfl
        simp only [errG] at y4
        simp at y0
        have HE1 := Lib.hid hE1
        have HN1 := Lib.hid (HNX.out w1 F1 st1 hI1 hF1 hkept1)
        have HK1 := Lib.hid hkept1
        have HB1 := Lib.hid hblk1
        clear hI1 hF1 hblk1 hkept1 hE1 B1 B2 C' z0 z1 h1 HNX
        have HS2 : Hid (∀ k, F' k → F k ∨ w.heap.size ≤ k) := HFF
        have HSTEP : Hid (∀ (F2 : Nat → Prop) (w2 : World) (ts2 : List (Int × List (List Int × Int))), (MultiI B mb ab ts2 F2 w2 ∧ ∀ k, F2 k → F' k ∨ wr.heap.size ≤ k) → ∃ F', MultiI B mb ab ts2 F' w2 ∧ ∀ k, F' k → F k ∨ w.heap.size ≤ k) := Lib.hid fun F2 w2 ts2 ⟨g1, g2⟩ => ⟨F2, g1, fun k hk => by
          rcases g2 k hk with h | h
          · exact HFF.out k h
          · exact .inr (by omega)⟩
        have HKT : Hid (∀ w2 : World, Kept (fun k => F' k ∨ k = pb) wr w2 → Kept (fun k => F k ∨ k = pb) w w2) := Lib.hid fun w2 hk2 => HK.out.trans hk2 fun k hk hD => by
          rcases hD with h | h
          · rcases HFF.out k h with h | h
            · exact .inl h
            · omega
          · exact .inr h
        have herr := HER.out
        clear HER
        rcases herr with rfl | rfl | rfl
        · have HPO : Hid (ReadPostW (MultiI B mb ab) E F pb Q w (.returned (.tuple #[.int .i64 (nd.length : Int), .nilIface])) w1) := Lib.hid (by
            have hQ := HQ.out
            rw [if_neg (by decide)] at hQ
            have h' := HDN.out w1 .nilIface
            rw [hQ] at h' ⊢
            obtain ⟨F2, g1, g2⟩ := HN1.out.1
            exact h' (errV_zero E).symm (HSTEP.out F2 w1 _ ⟨g1, g2⟩) (HKT.out w1 (HK1.out.mono fun k _ hD => hD.imp (HF0.out k) id)) ⟨_, by have := HB1.out; unfold splice at this; rw [List.take_zero, List.nil_append] at this; exact this⟩)
          rw [errV_zero]
          have e1 := eqlNil (E 1)
          have e2 := neqNil (E 1)
          clear HQ HN1 HSTEP HKT HDN
          by_cases hn0 : nd.length = 0
          · rw [hn0] at HPO ⊢
            go_wp2_with fail
            go_ret2
            exact HPO.out
          · have hn1 : 0 < nd.length := by omega
            go_wp2_with fail
            go_ret2
            exact HPO.out
        · have e1 := eqlE HE1.out 1 1 rfl rfl
          have e2 := neqE HE1.out 1 1 rfl rfl
          obtain ⟨k0, k1⟩ := HN1.out.2 A2 (.iface 124 (.agg #[])) HA2.out
          have HI2 := Lib.hid k0
          have HK2 := Lib.hid k1
          have hE2 : Errs B ((w1.setCell ⟨ab, off, none⟩ (.iface 124 (.agg #[]))).setCell ⟨mb, 0, none⟩ (.slice A2 rn (cap - 1))) E := HEr.out.below (HK2.out.below (by omega) fun i hi hD => by
            rcases hD with h | h
            · rcases HFF.out i h with h | h
              · have := HBF.out i h; omega
              · omega
            · omega)
          have y5 := hE2.cell 1 rfl
          simp only [errG] at y5
          have e3 := eqlE hE2 1 1 rfl rfl
          have e4 := neqE hE2 1 1 rfl rfl
          have hpne : pb ≠ ab ∧ pb ≠ mb := ⟨fun e => HNA.out (.inr e.symm), fun e => HNM.out (.inr e.symm)⟩
          have HB2 : Hid (Blk ((w1.setCell ⟨ab, off, none⟩ (.iface 124 (.agg #[]))).setCell ⟨mb, 0, none⟩ (.slice A2 rn (cap - 1))) pb 5 (splice pc 0 (bytesV nd)).toArray) := Lib.hid ((HB1.out.far (p := ⟨ab, off, none⟩) hpne.1 _).far (p := ⟨mb, 0, none⟩) hpne.2 _)
          clear k0 k1 hE2 HN1 hpne
          rw [show errV E 1 = .iface 103 (.pointer (some (E 1))) from errV_pos E 1 rfl]
          by_cases hn0 : nd.length = 0
          · have hnd : nd = [] := List.eq_nil_of_length_eq_zero hn0
            subst hnd
            clear HDN
            go_wp2_with fail
            go_roundg rn
            case measure => simp only [List.length_cons, HRN.out]; omega
            case rel =>
              have hQ := HQ.out
              simp only [if_true, List.length_nil, eq_self_iff_true] at hQ
              obtain ⟨F2, g1, g2⟩ := HI2.out
              obtain ⟨F3, g3, g4⟩ := HSTEP.out F2 _ _ ⟨g1, g2⟩
              exact ⟨r, F3, HRN.out.symm, g3, hQ, g4, HKT.out _ HK2.out, by simpa [splice, bytesV] using HB2.out⟩
          · have hn1 : 0 < nd.length := by omega
            have HPO : Hid (ReadPostW (MultiI B mb ab) E F pb Q w (.returned (.tuple #[.int .i64 (nd.length : Int), .nilIface])) ((w1.setCell ⟨ab, off, none⟩ (.iface 124 (.agg #[]))).setCell ⟨mb, 0, none⟩ (.slice A2 rn (cap - 1)))) := Lib.hid (by
              have hQ := HQ.out
              simp only [if_true, eq_self_iff_true, if_neg hn0, if_neg hr0] at hQ
              have h' := HDN.out ((w1.setCell ⟨ab, off, none⟩ (.iface 124 (.agg #[]))).setCell ⟨mb, 0, none⟩ (.slice A2 rn (cap - 1))) (.nilIface)
              rw [hQ] at h' ⊢
              obtain ⟨F2, g1, g2⟩ := HI2.out
              exact h' (errV_zero E).symm (HSTEP.out F2 _ _ ⟨g1, g2⟩) (HKT.out _ HK2.out) ⟨_, by have := HB2.out; unfold splice at this; rw [List.take_zero, List.nil_append] at this; exact this⟩)
            clear HQ HSTEP HKT HDN
            have hr1 : 0 < rn := by omega
            go_wp2_with fail
            go_ret2
            exact HPO.out
        · have e1 := eqlE HE1.out 2 1 rfl rfl
          have e2 := neqE HE1.out 2 1 rfl rfl
          have HPO : Hid (ReadPostW (MultiI B mb ab) E F pb Q w (.returned (.tuple #[.int .i64 (nd.length : Int), .iface 103 (.pointer (some (E 2)))])) w1) := Lib.hid (by
            have hQ := HQ.out
            rw [if_neg (by decide)] at hQ
            have h' := HDN.out w1 (.iface 103 (.pointer (some (E 2))))
            rw [hQ] at h' ⊢
            obtain ⟨F2, g1, g2⟩ := HN1.out.1
            exact h' (errV_pos E 2 rfl).symm (HSTEP.out F2 w1 _ ⟨g1, g2⟩) (HKT.out w1 (HK1.out.mono fun k _ hD => hD.imp (HF0.out k) id)) ⟨_, by have := HB1.out; unfold splice at this; rw [List.take_zero, List.nil_append] at this; exact this⟩)
          rw [show errV E 2 = .iface 103 (.pointer (some (E 2))) from errV_pos E 2 rfl]
          clear HQ HN1 HSTEP HKT HDN
          by_cases hn0 : nd.length = 0
          · rw [hn0] at HPO ⊢
            go_wp2_with fail
            go_ret2
            exact HPO.out
          · have hn1 : 0 < nd.length := by omega
            go_wp2_with fail
            go_ret2
            exact HPO.out

theorem multi_rdr (B : Nat) (E : Nat → Addr) (mb ab : Nat) : RdrW B E 100 mb 61 (MultiI B mb ab) multiStep where
  nil := fun w => nilAhead_multi ⟨mb, 0, none⟩ w
  met := fun w => method_multi ⟨mb, 0, none⟩ w
  ent := fun args w => by kernel_rfl
  keep := fun h hsz hk => h.keep hsz hk
  lo := fun h hF => h.lo hF
  len := multiStep_len
  err := fun m h => by have := multiStep_err h.valid m; omega
  read := fun c h hE hBw hp hFp hBp hfit hc hm => multi_read c h hE hBw hp hFp hBp hfit hc hm

end Go.Proofs.YtmoecjhlonokfaaDoor
