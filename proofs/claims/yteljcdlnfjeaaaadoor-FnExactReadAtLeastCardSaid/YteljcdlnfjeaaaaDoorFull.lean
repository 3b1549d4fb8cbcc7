/- impl.ReadFull: buffers filled one after the other, over the program's own reader. -/
import Derived.Test.YteljcdlnfjeaaaaDoorNew
import Derived.Test.YteljcdlnfjeaaaaDoorSrc
import Derived.Test.YteljcdlnfjeaaaaDoorSpec
import Derived.Deep.OwnRows
import Derived.Deep.RegionLaw
set_option linter.unusedVariables false
set_option linter.unusedSimpArgs false
namespace Go.Proofs.YteljcdlnfjeaaaaDoor
open Go.RowKit

theorem infoGot : (Tryd.prog.info? 39).map (fun i => (i.zero, i.size, i.bytes)) = some (some (.agg #[.slice none 0 0, .int .i64 0]), 2, 32) := by kernel_rfl

theorem make_bytes (n : Nat) (hn : n ≤ 281474976710656) :
    ∃ pc : List Value, pc.length = n ∧ ∀ w, (Instr.makeSlice 22 (.int .i64 (n : Int)) (.int .i64 (n : Int))).run Tryd.prog w = .ok (.slice (some ⟨w.heap.size, 0, none⟩) n n) (w.alloc (.cells pc.toArray 5)) := by
  refine ⟨(madeCells #[.int .u8 0] n).toList, by simp [size_madeCells], fun w => ?_⟩
  have := run_make_row' (P := Tryd.prog) 22 5 (.int .u8 0) 1 Tryd.underlying22 infoU8 rfl .i64 .i64 n (by omega) (by omega) w
  simpa using this

theorem slice_bytes_to (A : Option Addr) (len cap n : Nat) (hn : n ≤ cap) (w : World) :
    (Instr.slice 22 (.slice A len cap) none (some (.int .i64 (n : Int))) none).run Tryd.prog w = .ok (.slice A n cap) w := by
  obtain ⟨i0, hi, _, hs, _⟩ := info_parts infoU8
  exact slice_to (P := Tryd.prog) 22 (by rw [elemU8]; exact Tryd.underlying22) i0 (by rw [elemU8]; exact hi) A len cap n hn w

/-- bytes at the head of a block that is known whole -/
theorem blk_bytes {w : World} {g : Nat} {t : TypeId} {l : List Int} {r : List Value} (h : Blk w g t (bytesV l ++ r).toArray) : BytesAt (· = g) w (some ⟨g, 0, none⟩) l := fun hl => by
  refine ⟨g, 0, rfl, rfl, h.lt, fun j hj => ?_⟩
  rw [Nat.zero_add, h.cell]
  have : (bytesV l)[j]? = some (.int .u8 (nth l j)) := by rw [nth_get hj]; simp [bytesV, hj]
  simp [List.getElem?_append_left (show j < (bytesV l).length by rw [bytesV_length]; exact hj), this]

/-- answers so far: a row of the call's own, its bytes in blocks of its own -/
structure OutAt (base : Nat) (wr : World) (A : Option Addr) (k c : Nat) (l : List (List Int × Int)) (xs : List Value) : Prop where
  own : wr.ownsRow base 39 2 (.slice A k c) k xs
  len : l.length = k
  cells : StepCells (fun j => base ≤ j ∧ j < wr.heap.size ∧ some j ≠ (Value.slice A k c).ownBlock) wr xs l

theorem OutAt.empty (w : World) (base : Nat) (hb : base ≤ w.heap.size) : OutAt base (w.alloc (.cells #[] 39)) (some ⟨w.heap.size, 0, none⟩) 0 0 [] [] :=
  ⟨own_empty w base _ 2 hb, rfl, fun i hi => by simp at hi⟩

/-- the answers stay, while blocks below 'base' and new ones are written -/
theorem OutAt.kept {base : Nat} {wr w' : World} {A : Option Addr} {k c : Nat} {l : List (List Int × Int)} {xs : List Value} (h : OutAt base wr A k c l xs) {D : Nat → Prop} (hk : Kept D wr w') (hd : ∀ j, base ≤ j → j < wr.heap.size → ¬ D j) : OutAt base w' A k c l xs := by
  refine ⟨⟨h.own.1, ?_⟩, h.len, fun i hi => ?_⟩
  · rcases h.own.2 with h2 | ⟨g, cap, cur, hv, hg, hh, r⟩
    · exact Or.inl h2
    · have hlt := (Array.getElem?_eq_some_iff.1 hh).1
      exact Or.inr ⟨g, cap, cur, hv, hg, by rw [hk.block g hlt (hd g hg hlt)]; exact hh, r⟩
  · obtain ⟨Ai, ci, h1, h2, h3, h4⟩ := h.cells i hi
    exact ⟨Ai, ci, h1, h2, h3, h4.move hk.size fun j hj hS => ⟨⟨hS.1, Nat.lt_of_lt_of_le hS.2.1 hk.size, hS.2.2⟩, hk.block j hj (hd j hS.1 hj)⟩⟩

theorem dat_snoc {l : List (List Int × Int)} {d : List Int} {x : Int} {i : Nat} (h : i < l.length) : dat (l ++ [(d, x)]) i = dat l i := by simp [dat, List.getElem?_append_left h]
theorem err_snoc {l : List (List Int × Int)} {d : List Int} {x : Int} {i : Nat} (h : i < l.length) : err (l ++ [(d, x)]) i = err l i := by simp [err, List.getElem?_append_left h]
theorem dat_last (l : List (List Int × Int)) (d : List Int) (x : Int) : dat (l ++ [(d, x)]) l.length = d := by simp [dat]
theorem err_last (l : List (List Int × Int)) (d : List Int) (x : Int) : err (l ++ [(d, x)]) l.length = x := by simp [err]

/-- one answer more: its bytes lie in a block pb of the call's own that is not the row's -/
theorem OutAt.snoc {base : Nat} {wr w2 : World} {A A2 Ad : Option Addr} {k c c2 cd : Nat} {l : List (List Int × Int)} {xs : List Value} {d : List Int} {x : Int} {o : Obj} (h : OutAt base wr A k c l xs)
    (hap : Appended base 39 2 A2 (k + 1) c2 (xs ++ [.slice Ad d.length cd, .int .i64 x]) (Value.slice A k c).ownBlock (wr.alloc o) w2) (hcd : d.length ≤ cd)
    (hd : BytesAt (fun j => base ≤ j ∧ some j ≠ (Value.slice A k c).ownBlock) wr Ad d) : OutAt base w2 A2 (k + 1) c2 (l ++ [(d, x)]) (xs ++ [.slice Ad d.length cd, .int .i64 x]) := by
  have hs := hap.sizeLe
  simp at hs
  have old : ∀ j, j < wr.heap.size → some j ≠ (Value.slice A k c).ownBlock → w2.heap[j]? = wr.heap[j]? := fun j hj hn => by
    rw [hap.grown.block j (by simp; omega) hn, Below.heap_alloc _ _ _ hj]
  have hA2 : ∀ j, j < wr.heap.size → some j ≠ (Value.slice A k c).ownBlock → some j ≠ (Value.slice A2 (k + 1) c2).ownBlock := fun j hj hn => by
    rcases hap.2.2 with e | e
    · rw [e]; exact hn
    · rw [e]; intro e; injection e with e; simp at e; omega
  have hxl : xs.length = k * 2 := h.own.1
  have hl := h.len
  refine ⟨hap.own, by simp [hl], fun i hi => ?_⟩
  have hi' : i < k + 1 := by simp [hl] at hi; omega
  by_cases hik : i < k
  · obtain ⟨Ai, ci, h1, h2, h3, h4⟩ := h.cells i (by omega)
    rw [dat_snoc (by omega), err_snoc (by omega)]
    exact ⟨Ai, ci, by rw [List.getElem?_append_left (by omega)]; exact h1, by rw [List.getElem?_append_left (by omega)]; exact h2, h3, h4.move (by omega) fun j hj hS => ⟨⟨hS.1, by omega, hA2 j hj hS.2.2⟩, old j hj hS.2.2⟩⟩
  · obtain rfl : i = l.length := by omega
    rw [dat_last, err_last]
    refine ⟨Ad, cd, by rw [List.getElem?_append_right (by omega), hxl, ← hl]; simp, by rw [List.getElem?_append_right (by omega), hxl, ← hl, show l.length * 2 + 1 - l.length * 2 = 1 by omega]; rfl, hcd, hd.move (by omega) fun j hj hS => ⟨⟨hS.1, by omega, hA2 j hj hS.2⟩, old j hj hS.2⟩⟩

/-- a result that is a list of answers in new memory -/
def GotsPost (l : List (List Int × Int)) (w : World) (e : Ending) (w' : World) : Prop := ∃ A c, e = .returned (.slice A l.length c) ∧ l.length ≤ c ∧ RecsAt (fun j => w.heap.size ≤ j) w' A l ∧ Below w.heap.size w w'

theorem OutAt.recs {base : Nat} {wr : World} {A : Option Addr} {k c : Nat} {l : List (List Int × Int)} {xs : List Value} (h : OutAt base wr A k c l xs) : RecsAt (fun j => base ≤ j) wr A l := fun hl => by
  have hk := h.len
  rcases h.own.2 with ⟨_, h0⟩ | ⟨g, cap, cur, hv, hg1, hg, hnc, _, hcs, ht⟩
  · omega
  · obtain ⟨rfl, rfl⟩ : A = some ⟨g, 0, none⟩ ∧ c = cap := by injection hv with h1 _ h3; exact ⟨h1, h3⟩
    have hlt := (Array.getElem?_eq_some_iff.1 hg).1
    refine ⟨g, 0, rfl, hg1, hlt, fun i hi => ?_⟩
    obtain ⟨Ai, ci, h1, h2, h3, h4⟩ := h.cells i hi
    have e : ∀ j, j < k * 2 → wr.cell? ⟨g, j, none⟩ = xs[j]? := fun j hj => by
      rw [cell_of_row wr g j cur _ (0, 0) hg, ← ht, List.getElem?_take, if_pos hj]; simp
    refine ⟨Ai, ci, by rw [Nat.zero_add, e _ (by omega)]; exact h1, by rw [Nat.zero_add, e _ (by omega)]; exact h2, h3, h4.mono fun j _ hS => hS.1⟩

theorem OutAt.post {base : Nat} {w wr : World} {A : Option Addr} {k c : Nat} {l : List (List Int × Int)} {xs : List Value} (h : OutAt base wr A k c l xs) (hb : w.heap.size ≤ base) (hbel : Below w.heap.size w wr) : GotsPost l w (.returned (.slice A k c)) wr := by
  have hk := h.len
  subst hk
  exact ⟨A, c, rfl, own_cap h.own, h.recs.mono fun j _ hj => Nat.le_trans hb hj, hbel⟩

end Go.Proofs.YteljcdlnfjeaaaaDoor
