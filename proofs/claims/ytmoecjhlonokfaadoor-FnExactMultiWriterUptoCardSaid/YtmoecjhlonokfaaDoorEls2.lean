/- Rows of the call's own whose elements lie in blocks that stay as they are. Nothing of the program is named here. -/
import Derived.Test.YtmoecjhlonokfaaDoorEls
set_option linter.unusedVariables false
set_option linter.unusedSimpArgs false
namespace Go.Proofs.YtmoecjhlonokfaaDoor
open Go.RowKit

/-- a row of the call's own, its elements' memory in blocks T, which stay as they are -/
structure RowT {α : Type} (El : (Nat → Prop) → World → List Value → α → Prop) (size : Nat) (t : TypeId) (base : Nat) (T : Nat → Prop) (wr : World) (A : Option Addr) (k c : Nat) (l : List α) (xs : List Value) : Prop where
  own : wr.ownsRow base t size (.slice A k c) k xs
  len : l.length = k
  cells : ∀ i (h : i < l.length), ∃ vs, vs.length = size ∧ (∀ j, j < size → xs[i * size + j]? = vs[j]?) ∧ El T wr vs l[i]

section
variable {α : Type} {El : (Nat → Prop) → World → List Value → α → Prop} {size : Nat} {t : TypeId} {base : Nat} {T : Nat → Prop} {wr w' : World} {A : Option Addr} {k c : Nat} {l : List α} {xs : List Value}

theorem RowT.empty (El : (Nat → Prop) → World → List Value → α → Prop) (size : Nat) (T : Nat → Prop) (t : TypeId) (w : World) (base : Nat) (hb : base ≤ w.heap.size) : RowT El size t base T (w.alloc (.cells #[] t)) (some ⟨w.heap.size, 0, none⟩) 0 0 [] [] :=
  ⟨own_empty w base _ size hb, rfl, fun i hi => by simp at hi⟩

theorem RowT.kept (hm : Mv El) (h : RowT El size t base T wr A k c l xs) {D : Nat → Prop} (hk : Kept D wr w') (hd : ∀ j, (Value.slice A k c).ownBlock = some j → ¬ D j) (hT : ∀ j, T j → ¬ D j) : RowT El size t base T w' A k c l xs := by
  refine ⟨⟨h.own.1, ?_⟩, h.len, fun i hi => ?_⟩
  · rcases h.own.2 with h2 | ⟨g, cap, cur, hv, hg, hh, r⟩
    · exact Or.inl h2
    · have hlt := (Array.getElem?_eq_some_iff.1 hh).1
      exact Or.inr ⟨g, cap, cur, hv, hg, by rw [hk.block g hlt (hd g (by rw [hv]; rfl))]; exact hh, r⟩
  · obtain ⟨vs, h1, h2, h3⟩ := h.cells i hi
    exact ⟨vs, h1, h2, hm.mv h3 hk.size fun j hj hS => ⟨hS, hk.block j hj (hT j hS)⟩⟩

theorem RowT.snoc (hm : Mv El) {A2 : Option Addr} {c2 : Nat} {vs : List Value} {x : α} {w0 w2 : World} (h : RowT El size t base T wr A k c l xs) (hk0 : Kept (fun _ => False) wr w0)
    (hap : Appended base t size A2 (k + 1) c2 (xs ++ vs) (Value.slice A k c).ownBlock w0 w2) (hT : ∀ j, T j → some j ≠ (Value.slice A k c).ownBlock) (hv : vs.length = size) (hd : El T wr vs x) : RowT El size t base T w2 A2 (k + 1) c2 (l ++ [x]) (xs ++ vs) := by
  have hs := hap.sizeLe
  have hsz := hk0.size
  have old : ∀ j, j < wr.heap.size → T j → T j ∧ w2.heap[j]? = wr.heap[j]? := fun j hj hj' => ⟨hj', by
    rw [hap.grown.block j (by omega) (hT j hj'), hk0.block j hj (fun hf => hf)]⟩
  have hxl : xs.length = k * size := h.own.1
  have hl := h.len
  refine ⟨hap.own, by simp [hl], fun i hi => ?_⟩
  have hi' : i < k + 1 := by simp [hl] at hi; omega
  by_cases hik : i < k
  · obtain ⟨us, h1, h2, h3⟩ := h.cells i (by omega)
    have hle : (i + 1) * size ≤ k * size := Nat.mul_le_mul_right _ hik
    rw [Nat.add_mul] at hle
    rw [List.getElem_append_left (by omega)]
    exact ⟨us, h1, fun j hj => by rw [List.getElem?_append_left (by omega)]; exact h2 j hj, hm.mv h3 (by omega) old⟩
  · obtain rfl : i = l.length := by omega
    have e : (l ++ [x])[l.length]'hi = x := by simp
    rw [e]
    refine ⟨vs, hv, fun j hj => by rw [List.getElem?_append_right (by rw [hxl, hl]; omega), hxl, hl, Nat.add_sub_cancel_left], hm.mv hd (by omega) old⟩

theorem RowT.els (hm : Mv El) (h : RowT El size t base T wr A k c l xs) : ElsAt El size (fun j => T j ∨ (Value.slice A k c).ownBlock = some j) wr A l := fun hl => by
  have hk := h.len
  rcases h.own.2 with ⟨_, h0⟩ | ⟨g, cap, cur, hv, hg1, hg, hnc, _, hcs, ht⟩
  · omega
  · obtain ⟨rfl, rfl⟩ : A = some ⟨g, 0, none⟩ ∧ c = cap := by injection hv with h1 _ h3; exact ⟨h1, h3⟩
    have hlt := (Array.getElem?_eq_some_iff.1 hg).1
    refine ⟨g, 0, rfl, .inr rfl, hlt, fun i hi => ?_⟩
    obtain ⟨vs, h1, h2, h3⟩ := h.cells i hi
    have hle : (i + 1) * size ≤ k * size := Nat.mul_le_mul_right _ (by omega)
    rw [Nat.add_mul] at hle
    have e : ∀ j, j < k * size → wr.cell? ⟨g, j, none⟩ = xs[j]? := fun j hj => by
      rw [cell_of_row wr g j cur _ (0, 0) hg, ← ht, List.getElem?_take, if_pos hj]; simp
    exact ⟨vs, h1, fun j hj => by rw [Nat.zero_add, e _ (by omega)]; exact h2 j hj, hm.mv h3 (Nat.le_refl _) fun j hj hS => ⟨.inl hS, rfl⟩⟩
end

end Go.Proofs.YtmoecjhlonokfaaDoor
