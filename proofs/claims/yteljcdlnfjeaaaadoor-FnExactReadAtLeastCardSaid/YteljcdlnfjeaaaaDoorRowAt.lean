/- A row of pairs (bytes, number) of the call's own, of whatever type, beside blocks that are not its own. Nothing of the program is named here but types. -/
import Derived.Test.YteljcdlnfjeaaaaDoorFull
import Derived.Test.YteljcdlnfjeaaaaDoorSp
set_option linter.unusedVariables false
set_option linter.unusedSimpArgs false
namespace Go.Proofs.YteljcdlnfjeaaaaDoor
open Go.RowKit

/-- a row of pairs of the call's own, its bytes in blocks of its own; none of X -/
structure RowAt (t : TypeId) (base : Nat) (X : Nat → Prop) (wr : World) (A : Option Addr) (k c : Nat) (l : List (List Int × Int)) (xs : List Value) : Prop where
  own : wr.ownsRow base t 2 (.slice A k c) k xs
  nx : ∀ j, (Value.slice A k c).ownBlock = some j → ¬ X j
  len : l.length = k
  cells : StepCells (fun j => base ≤ j ∧ j < wr.heap.size ∧ some j ≠ (Value.slice A k c).ownBlock ∧ ¬ X j) wr xs l

theorem RowAt.empty (t : TypeId) (w : World) (base : Nat) (X : Nat → Prop) (hb : base ≤ w.heap.size) (hX : ¬ X w.heap.size) : RowAt t base X (w.alloc (.cells #[] t)) (some ⟨w.heap.size, 0, none⟩) 0 0 [] [] :=
  ⟨own_empty w base _ 2 hb, fun j e => by injection e with e; subst e; exact hX, rfl, fun i hi => by simp at hi⟩

section
variable {t : TypeId} {base : Nat} {X : Nat → Prop} {wr w' : World} {A : Option Addr} {k c : Nat} {l : List (List Int × Int)} {xs : List Value}
theorem RowAt.kept (h : RowAt t base X wr A k c l xs) {D : Nat → Prop} (hk : Kept D wr w') (hd : ∀ j, base ≤ j → j < wr.heap.size → ¬ X j → ¬ D j) : RowAt t base X w' A k c l xs := by
  refine ⟨⟨h.own.1, ?_⟩, h.nx, h.len, fun i hi => ?_⟩
  · rcases h.own.2 with h2 | ⟨g, cap, cur, hv, hg, hh, r⟩
    · exact Or.inl h2
    · have hlt := (Array.getElem?_eq_some_iff.1 hh).1
      exact Or.inr ⟨g, cap, cur, hv, hg, by rw [hk.block g hlt (hd g hg hlt (h.nx g (by rw [hv]; rfl)))]; exact hh, r⟩
  · obtain ⟨Ai, ci, h1, h2, h3, h4⟩ := h.cells i hi
    exact ⟨Ai, ci, h1, h2, h3, h4.move hk.size fun j hj hS => ⟨⟨hS.1, Nat.lt_of_lt_of_le hS.2.1 hk.size, hS.2.2.1, hS.2.2.2⟩, hk.block j hj (hd j hS.1 hj hS.2.2.2)⟩⟩
theorem RowAt.alloc (h : RowAt t base X wr A k c l xs) (o : Obj) : RowAt t base X (wr.alloc o) A k c l xs := h.kept ((Kept.refl (fun _ => False) _).alloc _) fun _ _ _ _ hf => hf
theorem RowAt.drew (h : RowAt t base X wr A k c l xs) : RowAt t base X wr.drew A k c l xs := h.kept ((Kept.refl (fun _ => False) _).drew) fun _ _ _ _ hf => hf
theorem RowAt.setX (h : RowAt t base X wr A k c l xs) {p : Addr} (hp : X p.block) (u : Value) : RowAt t base X (wr.setCell p u) A k c l xs :=
  h.kept ((Kept.refl (· = p.block) _).setCell (p := p) (fun _ => rfl) u) fun j _ _ hX e => hX (e ▸ hp)
theorem RowAt.mono (h : RowAt t base X wr A k c l xs) {base' : Nat} {X' : Nat → Prop} (hb : base' ≤ base) (hX : ∀ j, base ≤ j → ¬ X j → ¬ X' j) : RowAt t base' X' wr A k c l xs := by
  refine ⟨⟨h.own.1, ?_⟩, fun j e => hX j (own_block_lt h.own e).1 (h.nx j e), h.len, fun i hi => ?_⟩
  · rcases h.own.2 with h2 | ⟨g, cap, cur, hv, hg, r⟩
    · exact Or.inl h2
    · exact Or.inr ⟨g, cap, cur, hv, Nat.le_trans hb hg, r⟩
  · obtain ⟨Ai, ci, h1, h2, h3, h4⟩ := h.cells i hi
    exact ⟨Ai, ci, h1, h2, h3, h4.mono fun j _ hS => ⟨Nat.le_trans hb hS.1, hS.2.1, hS.2.2.1, hX j hS.1 hS.2.2.2⟩⟩

/-- one pair more: its bytes lie in blocks of the call's own that are not the row's -/
theorem RowAt.snoc {A2 Ad : Option Addr} {c2 cd : Nat} {d : List Int} {x : Int} {o : Obj} {w2 : World} (h : RowAt t base X wr A k c l xs)
    (hap : Appended base t 2 A2 (k + 1) c2 (xs ++ [.slice Ad d.length cd, .int .i64 x]) (Value.slice A k c).ownBlock (wr.alloc o) w2) (hX : ∀ j, wr.heap.size ≤ j → ¬ X j) (hcd : d.length ≤ cd)
    (hd : BytesAt (fun j => base ≤ j ∧ some j ≠ (Value.slice A k c).ownBlock ∧ ¬ X j) wr Ad d) : RowAt t base X w2 A2 (k + 1) c2 (l ++ [(d, x)]) (xs ++ [.slice Ad d.length cd, .int .i64 x]) := by
  have hs := hap.sizeLe
  simp at hs
  have old : ∀ j, j < wr.heap.size → some j ≠ (Value.slice A k c).ownBlock → w2.heap[j]? = wr.heap[j]? := fun j hj hn => by
    rw [hap.grown.block j (by simp; omega) hn, Below.heap_alloc _ _ _ hj]
  have hA2 : ∀ j, j < wr.heap.size → some j ≠ (Value.slice A k c).ownBlock → some j ≠ (Value.slice A2 (k + 1) c2).ownBlock := fun j hj hn => by
    rcases hap.2.2 with e | e
    · rw [e]; exact hn
    · rw [e]; intro e; injection e with e; simp at e; omega
  have hxl : xs.length = k * 2 := h.own.1
  have hl := h.len
  refine ⟨hap.own, fun j e => ?_, by simp [hl], fun i hi => ?_⟩
  · rcases hap.2.2 with e2 | e2
    · exact h.nx j (by rw [← e2, e])
    · rw [e] at e2; injection e2 with e2; simp at e2; exact hX j (by omega)
  have hi' : i < k + 1 := by simp [hl] at hi; omega
  by_cases hik : i < k
  · obtain ⟨Ai, ci, h1, h2, h3, h4⟩ := h.cells i (by omega)
    rw [dat_snoc (by omega), err_snoc (by omega)]
    exact ⟨Ai, ci, by rw [List.getElem?_append_left (by omega)]; exact h1, by rw [List.getElem?_append_left (by omega)]; exact h2, h3, h4.move (by omega) fun j hj hS => ⟨⟨hS.1, by omega, hA2 j hj hS.2.2.1, hS.2.2.2⟩, old j hj hS.2.2.1⟩⟩
  · obtain rfl : i = l.length := by omega
    rw [dat_last, err_last]
    refine ⟨Ad, cd, by rw [List.getElem?_append_right (by omega), hxl, ← hl]; simp, by rw [List.getElem?_append_right (by omega), hxl, ← hl, show l.length * 2 + 1 - l.length * 2 = 1 by omega]; rfl, hcd, hd.move (by omega) fun j hj hS => ⟨⟨hS.1, by omega, hA2 j hj hS.2.1, hS.2.2⟩, old j hj hS.2.1⟩⟩

/-- the row's block, where there is one -/
theorem RowAt.pos (h : RowAt t base X wr A k c l xs) (hk : 0 < k) : ∃ g cur, A = some ⟨g, 0, none⟩ ∧ base ≤ g ∧ g < wr.heap.size ∧ ¬ X g ∧ Blk wr g t cur ∧ k * 2 ≤ cur.size := by
  rcases h.own.2 with ⟨_, h0⟩ | ⟨g, cap, cur, hv, hg1, hg, hnc, _, hcs, ht⟩
  · omega
  · obtain ⟨rfl, rfl⟩ : A = some ⟨g, 0, none⟩ ∧ c = cap := by injection hv with h1 _ h3; exact ⟨h1, h3⟩
    exact ⟨g, cur, rfl, hg1, (Array.getElem?_eq_some_iff.1 hg).1, h.nx g rfl, hg, by omega⟩

theorem dat_set {l : List (List Int × Int)} {i j : Nat} {x : Int} (hj : j < l.length) : dat (l.set i (dat l i, x)) j = dat l j := by
  by_cases h : i = j
  · subst h; simp [dat, hj]
  · simp [dat, List.getElem?_set, h]
theorem err_set {l : List (List Int × Int)} {i j : Nat} {x : Int} (hj : j < l.length) : err (l.set i (dat l i, x)) j = if i = j then x else err l j := by
  by_cases h : i = j
  · subst h; simp [err, hj]
  · simp [err, List.getElem?_set, h]

/-- the number of one pair is set -/
theorem RowAt.setErr {g : Nat} {i : Nat} {x : Int} (h : RowAt t base X wr (some ⟨g, 0, none⟩) k c l xs) (hi : i < k) :
    RowAt t base X (wr.setCell ⟨g, i * 2 + 1, none⟩ (.int .i64 x)) (some ⟨g, 0, none⟩) k c (l.set i (dat l i, x)) (xs.set (i * 2 + 1) (.int .i64 x)) := by
  have hl := h.len
  rcases h.own.2 with ⟨hv, h0⟩ | ⟨g', cap, cur, hv, hg1, hg, hnc, hm, hcs, ht⟩
  · cases hv
  · obtain ⟨rfl, rfl⟩ : g = g' ∧ c = cap := by injection hv with h1 _ h3; injection h1 with h1; injection h1 with h1; exact ⟨h1, h3⟩
    have hb : Blk wr g t cur := hg
    refine ⟨⟨by simp [h.own.1], Or.inr ⟨g, c, cur.setIfInBounds (i * 2 + 1) (.int .i64 x), rfl, hg1, hb.put _ _, hnc, hm, by simp [hcs], ?_⟩⟩, h.nx, by simp [hl], fun j hj => ?_⟩
    · rw [Array.toList_setIfInBounds, List.take_set, ht]
    · have hj' : j < l.length := by simpa using hj
      obtain ⟨Ai, ci, h1, h2, h3, h4⟩ := h.cells j hj'
      have hxl : xs.length = k * 2 := h.own.1
      rw [dat_set hj', err_set hj']
      refine ⟨Ai, ci, by rw [List.getElem?_set, if_neg (by omega)]; exact h1, ?_, h3, h4.move (by simp [World.setCell]) fun b hb hS => ⟨⟨hS.1, by simpa [World.setCell] using hS.2.1, hS.2.2⟩, Below.heap_setCell _ _ _ _ fun e => hS.2.2.1 (by rw [e]; rfl)⟩⟩
      by_cases hij : i = j
      · subst hij
        rw [if_pos rfl, List.getElem?_set, if_pos rfl, if_pos (by omega)]
      · rw [if_neg hij, List.getElem?_set, if_neg (by omega)]; exact h2

theorem RowAt.recs (h : RowAt t base X wr A k c l xs) : RecsAt (fun j => base ≤ j ∧ j < wr.heap.size ∧ ¬ X j) wr A l := fun hl => by
  have hk := h.len
  rcases h.own.2 with ⟨_, h0⟩ | ⟨g, cap, cur, hv, hg1, hg, hnc, _, hcs, ht⟩
  · omega
  · obtain ⟨rfl, rfl⟩ : A = some ⟨g, 0, none⟩ ∧ c = cap := by injection hv with h1 _ h3; exact ⟨h1, h3⟩
    have hlt := (Array.getElem?_eq_some_iff.1 hg).1
    refine ⟨g, 0, rfl, ⟨hg1, hlt, h.nx g rfl⟩, hlt, fun i hi => ?_⟩
    obtain ⟨Ai, ci, h1, h2, h3, h4⟩ := h.cells i hi
    have e : ∀ j, j < k * 2 → wr.cell? ⟨g, j, none⟩ = xs[j]? := fun j hj => by
      rw [cell_of_row wr g j cur _ (0, 0) hg, ← ht, List.getElem?_take, if_pos hj]; simp
    refine ⟨Ai, ci, by rw [Nat.zero_add, e _ (by omega)]; exact h1, by rw [Nat.zero_add, e _ (by omega)]; exact h2, h3, h4.mono fun j _ hS => ⟨hS.1, hS.2.1, hS.2.2.2⟩⟩
end

end Go.Proofs.YteljcdlnfjeaaaaDoor
