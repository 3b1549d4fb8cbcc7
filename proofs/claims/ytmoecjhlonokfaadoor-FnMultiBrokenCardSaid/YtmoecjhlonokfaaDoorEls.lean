/- Slices whose elements are read by a given relation (answers of operations, lists of bytes, sources, operations): such a slice at an address, and such a row of the call's own. Nothing of the program is named here. -/
import Derived.Test.YtmoecjhlonokfaaDoorApp
set_option linter.unusedVariables false
set_option linter.unusedSimpArgs false
namespace Go.Proofs.YtmoecjhlonokfaaDoor
open Go.RowKit

/-- the relation is kept while the blocks it looks at are -/
structure Mv {α : Type} (El : (Nat → Prop) → World → List Value → α → Prop) : Prop where
  mv : ∀ {S S' : Nat → Prop} {w w' : World} {vs : List Value} {x : α}, El S w vs x → w.heap.size ≤ w'.heap.size → (∀ k, k < w.heap.size → S k → S' k ∧ w'.heap[k]? = w.heap[k]?) → El S' w' vs x

/-- bytes -/
def ElB (S : Nat → Prop) (w : World) (vs : List Value) (d : List Int) : Prop := ∃ A c, vs = [.slice A d.length c] ∧ d.length ≤ c ∧ BytesAt S w A d
theorem mvB : Mv ElB := ⟨fun ⟨A, c, h1, h2, h3⟩ hsz hk => ⟨A, c, h1, h2, h3.move hsz hk⟩⟩

/-- the answer of an operation: bytes, a number, an error -/
def ElO (S : Nat → Prop) (w : World) (vs : List Value) (x : List Int × Int × Int) : Prop := ∃ A c, vs = [.slice A x.1.length c, .int .i64 x.2.1, .int .i64 x.2.2] ∧ x.1.length ≤ c ∧ BytesAt S w A x.1
theorem mvO : Mv ElO := ⟨fun ⟨A, c, h1, h2, h3⟩ hsz hk => ⟨A, c, h1, h2, h3.move hsz hk⟩⟩

/-- an operation: its kind, and two numbers -/
def ElP (_ : Nat → Prop) (_ : World) (vs : List Value) (x : Int × Int × Int) : Prop := vs = [.int .i64 x.1, .int .i64 x.2.1, .int .i64 x.2.2]
theorem mvP : Mv ElP := ⟨fun h _ _ => h⟩

theorem RecsAt.move {S S' : Nat → Prop} {w w' : World} {A : Option Addr} {l : List (List Int × Int)} (h : RecsAt S w A l) (hsz : w.heap.size ≤ w'.heap.size) (hk : ∀ k, k < w.heap.size → S k → S' k ∧ w'.heap[k]? = w.heap[k]?) : RecsAt S' w' A l := fun hl => by
  obtain ⟨b, off, e, hS, hb, hc⟩ := h hl
  refine ⟨b, off, e, (hk b hb hS).1, Nat.lt_of_lt_of_le hb hsz, fun i hi => ?_⟩
  obtain ⟨Ai, ci, h1, h2, h3, h4⟩ := hc i hi
  exact ⟨Ai, ci, (World.cell?_of_block (w := w) (a := ⟨b, off + i * 2, none⟩) (hk b hb hS).2).trans h1, (World.cell?_of_block (w := w) (a := ⟨b, off + i * 2 + 1, none⟩) (hk b hb hS).2).trans h2, h3, h4.move hsz hk⟩

/-- a source: its steps -/
def ElS (S : Nat → Prop) (w : World) (vs : List Value) (st : List (List Int × Int)) : Prop := ∃ A c, vs = [.slice A st.length c] ∧ st.length ≤ c ∧ RecsAt S w A st
theorem mvS : Mv ElS := ⟨fun ⟨A, c, h1, h2, h3⟩ hsz hk => ⟨A, c, h1, h2, h3.move hsz hk⟩⟩

section
variable {α : Type} {El : (Nat → Prop) → World → List Value → α → Prop} {size : Nat}

/-- the slice at A reads as the elements l; all blocks are of S -/
def ElsAt (El : (Nat → Prop) → World → List Value → α → Prop) (size : Nat) (S : Nat → Prop) (w : World) (A : Option Addr) (l : List α) : Prop :=
  0 < l.length → ∃ b off, A = some ⟨b, off, none⟩ ∧ S b ∧ b < w.heap.size ∧ ∀ i (h : i < l.length), ∃ vs, vs.length = size ∧ (∀ j, j < size → w.cell? ⟨b, off + i * size + j, none⟩ = vs[j]?) ∧ El S w vs l[i]

theorem ElsAt.nil (S : Nat → Prop) (w : World) (A : Option Addr) : ElsAt El size S w A [] := fun h => absurd h (by simp)
theorem ElsAt.move (hm : Mv El) {S S' : Nat → Prop} {w w' : World} {A : Option Addr} {l : List α} (h : ElsAt El size S w A l) (hsz : w.heap.size ≤ w'.heap.size) (hk : ∀ k, k < w.heap.size → S k → S' k ∧ w'.heap[k]? = w.heap[k]?) : ElsAt El size S' w' A l := fun hl => by
  obtain ⟨b, off, e, hS, hb, hc⟩ := h hl
  refine ⟨b, off, e, (hk b hb hS).1, Nat.lt_of_lt_of_le hb hsz, fun i hi => ?_⟩
  obtain ⟨vs, h1, h2, h3⟩ := hc i hi
  exact ⟨vs, h1, fun j hj => (World.cell?_of_block (w := w) (a := ⟨b, off + i * size + j, none⟩) (hk b hb hS).2).trans (h2 j hj), hm.mv h3 hsz hk⟩
theorem ElsAt.keep (hm : Mv El) {S : Nat → Prop} {w w' : World} {A : Option Addr} {l : List α} (h : ElsAt El size S w A l) (hsz : w.heap.size ≤ w'.heap.size) (hk : ∀ k, k < w.heap.size → S k → w'.heap[k]? = w.heap[k]?) : ElsAt El size S w' A l := h.move hm hsz fun k hk' hS => ⟨hS, hk k hk' hS⟩
theorem ElsAt.mono (hm : Mv El) {S S' : Nat → Prop} {w : World} {A : Option Addr} {l : List α} (h : ElsAt El size S w A l) (hs : ∀ k, k < w.heap.size → S k → S' k) : ElsAt El size S' w A l := h.move hm (Nat.le_refl _) fun k hk hS => ⟨hs k hk hS, rfl⟩
theorem ElsAt.below (hm : Mv El) {B : Nat} {w w' : World} {A : Option Addr} {l : List α} (h : ElsAt El size (· < B) w A l) (hb : Below B w w') : ElsAt El size (· < B) w' A l := h.keep hm hb.size fun k _ hS => hb.block k hS
theorem ElsAt.alloc (hm : Mv El) {S : Nat → Prop} {w : World} {A : Option Addr} {l : List α} (h : ElsAt El size S w A l) (o : Obj) : ElsAt El size S (w.alloc o) A l := h.keep hm (by simp) fun k hk _ => Below.heap_alloc w o k hk
theorem ElsAt.drewN (hm : Mv El) {S : Nat → Prop} {w : World} {A : Option Addr} {l : List α} (h : ElsAt El size S w A l) (n : Nat) : ElsAt El size S (w.drewN n) A l := h.keep hm (Nat.le_refl _) fun _ _ _ => rfl
theorem ElsAt.drew (hm : Mv El) {S : Nat → Prop} {w : World} {A : Option Addr} {l : List α} (h : ElsAt El size S w A l) : ElsAt El size S w.drew A l := h.keep hm (Nat.le_refl _) fun _ _ _ => rfl
theorem ElsAt.kept (hm : Mv El) {D S : Nat → Prop} {w w' : World} {A : Option Addr} {l : List α} (h : ElsAt El size S w A l) (hb : Kept D w w') (hd : ∀ k, k < w.heap.size → S k → ¬ D k) : ElsAt El size S w' A l := h.keep hm hb.size fun k hk hS => hb.block k hk (hd k hk hS)
theorem ElsAt.addr {S : Nat → Prop} {w : World} {A A' : Option Addr} {l : List α} (h : ElsAt El size S w A l) (e : 0 < l.length → A' = A) : ElsAt El size S w A' l := fun hl => by rw [e hl]; exact h hl
theorem ElsAt.take {S : Nat → Prop} {w : World} {A : Option Addr} {l : List α} (h : ElsAt El size S w A l) (n : Nat) : ElsAt El size S w A (l.take n) := fun hl => by
  simp only [List.length_take] at hl
  obtain ⟨b, off, e, hS, hb, hc⟩ := h (by omega)
  refine ⟨b, off, e, hS, hb, fun i hi => ?_⟩
  have hi' : i < n ∧ i < l.length := by simpa [Nat.lt_min] using hi
  rw [List.getElem_take]
  exact hc i hi'.2

/-- a row of the call's own, its elements' memory in blocks of its own; none of X -/
structure ElRow (El : (Nat → Prop) → World → List Value → α → Prop) (size : Nat) (t : TypeId) (base : Nat) (X : Nat → Prop) (wr : World) (A : Option Addr) (k c : Nat) (l : List α) (xs : List Value) : Prop where
  own : wr.ownsRow base t size (.slice A k c) k xs
  nx : ∀ j, (Value.slice A k c).ownBlock = some j → ¬ X j
  len : l.length = k
  cells : ∀ i (h : i < l.length), ∃ vs, vs.length = size ∧ (∀ j, j < size → xs[i * size + j]? = vs[j]?) ∧ El (fun j => base ≤ j ∧ j < wr.heap.size ∧ some j ≠ (Value.slice A k c).ownBlock ∧ ¬ X j) wr vs l[i]

theorem ElRow.empty (t : TypeId) (w : World) (base : Nat) (X : Nat → Prop) (hb : base ≤ w.heap.size) (hX : ¬ X w.heap.size) : ElRow El size t base X (w.alloc (.cells #[] t)) (some ⟨w.heap.size, 0, none⟩) 0 0 [] [] :=
  ⟨own_empty w base _ size hb, fun j e => by injection e with e; subst e; exact hX, rfl, fun i hi => by simp at hi⟩

variable {t : TypeId} {base : Nat} {X X' : Nat → Prop} {wr w' : World} {A : Option Addr} {k c : Nat} {l : List α} {xs : List Value}

theorem ElRow.move (hm : Mv El) (h : ElRow El size t base X wr A k c l xs) {D : Nat → Prop} (hk : Kept D wr w') (hd : ∀ j, base ≤ j → j < wr.heap.size → ¬ X j → ¬ D j ∧ ¬ X' j) : ElRow El size t base X' w' A k c l xs := by
  have hlt := fun j e => own_block_lt h.own (g := j) e
  refine ⟨⟨h.own.1, ?_⟩, fun j e => (hd j (hlt j e).1 (hlt j e).2 (h.nx j e)).2, h.len, fun i hi => ?_⟩
  · rcases h.own.2 with h2 | ⟨g, cap, cur, hv, hg, hh, r⟩
    · exact Or.inl h2
    · have hlt := (Array.getElem?_eq_some_iff.1 hh).1
      exact Or.inr ⟨g, cap, cur, hv, hg, by rw [hk.block g hlt (hd g hg hlt (h.nx g (by rw [hv]; rfl))).1]; exact hh, r⟩
  · obtain ⟨vs, h1, h2, h3⟩ := h.cells i hi
    exact ⟨vs, h1, h2, hm.mv h3 hk.size fun j hj hS => ⟨⟨hS.1, Nat.lt_of_lt_of_le hS.2.1 hk.size, hS.2.2.1, (hd j hS.1 hj hS.2.2.2).2⟩, hk.block j hj (hd j hS.1 hj hS.2.2.2).1⟩⟩
theorem ElRow.kept (hm : Mv El) (h : ElRow El size t base X wr A k c l xs) {D : Nat → Prop} (hk : Kept D wr w') (hd : ∀ j, base ≤ j → j < wr.heap.size → ¬ X j → ¬ D j) : ElRow El size t base X w' A k c l xs := h.move hm hk fun j h1 h2 h3 => ⟨hd j h1 h2 h3, h3⟩
theorem ElRow.alloc (hm : Mv El) (h : ElRow El size t base X wr A k c l xs) (o : Obj) : ElRow El size t base X (wr.alloc o) A k c l xs := h.kept hm ((Kept.refl (fun _ => False) _).alloc _) fun _ _ _ _ hf => hf
theorem ElRow.drew (hm : Mv El) (h : ElRow El size t base X wr A k c l xs) : ElRow El size t base X wr.drew A k c l xs := h.kept hm ((Kept.refl (fun _ => False) _).drew) fun _ _ _ _ hf => hf

/-- one element more: its memory lies in blocks of the call's own that are not the row's -/
theorem ElRow.snoc (hm : Mv El) (hs0 : 0 < size) {A2 : Option Addr} {c2 : Nat} {vs : List Value} {x : α} {w0 w2 : World} (h : ElRow El size t base X wr A k c l xs) (hk0 : Kept (fun _ => False) wr w0)
    (hap : Appended base t size A2 (k + 1) c2 (xs ++ vs) (Value.slice A k c).ownBlock w0 w2) (hX : ∀ j, wr.heap.size ≤ j → ¬ X j) (hv : vs.length = size)
    (hd : El (fun j => base ≤ j ∧ some j ≠ (Value.slice A k c).ownBlock ∧ ¬ X j) wr vs x) : ElRow El size t base X w2 A2 (k + 1) c2 (l ++ [x]) (xs ++ vs) := by
  have hs := hap.sizeLe
  have hsz := hk0.size
  have old : ∀ j, j < wr.heap.size → some j ≠ (Value.slice A k c).ownBlock → w2.heap[j]? = wr.heap[j]? := fun j hj hn => by
    rw [hap.grown.block j (by omega) hn, hk0.block j hj (fun hf => hf)]
  have hA2 : ∀ j, j < wr.heap.size → some j ≠ (Value.slice A k c).ownBlock → some j ≠ (Value.slice A2 (k + 1) c2).ownBlock := fun j hj hn => by
    rcases hap.2.2 with e | e
    · rw [e]; exact hn
    · rw [e]; intro e; injection e with e; omega
  have hxl : xs.length = k * size := h.own.1
  have hl := h.len
  refine ⟨hap.own, fun j e => ?_, by simp [hl], fun i hi => ?_⟩
  · rcases hap.2.2 with e2 | e2
    · exact h.nx j (by rw [← e2, e])
    · rw [e] at e2; injection e2 with e2; exact hX j (by omega)
  have hi' : i < k + 1 := by simp [hl] at hi; omega
  by_cases hik : i < k
  · obtain ⟨us, h1, h2, h3⟩ := h.cells i (by omega)
    have hle : (i + 1) * size ≤ k * size := Nat.mul_le_mul_right _ hik
    rw [Nat.add_mul] at hle
    rw [List.getElem_append_left (by omega)]
    exact ⟨us, h1, fun j hj => by rw [List.getElem?_append_left (by omega)]; exact h2 j hj, hm.mv h3 (by omega) fun j hj hS => ⟨⟨hS.1, by omega, hA2 j hj hS.2.2.1, hS.2.2.2⟩, old j hj hS.2.2.1⟩⟩
  · obtain rfl : i = l.length := by omega
    have e : (l ++ [x])[l.length]'hi = x := by simp
    rw [e]
    refine ⟨vs, hv, fun j hj => by rw [List.getElem?_append_right (by rw [hxl, hl]; omega), hxl, hl, Nat.add_sub_cancel_left], hm.mv hd (by omega) fun j hj hS => ⟨⟨hS.1, by omega, hA2 j hj hS.2.1, hS.2.2⟩, old j hj hS.2.1⟩⟩

theorem ElRow.els (hm : Mv El) (h : ElRow El size t base X wr A k c l xs) : ElsAt El size (fun j => base ≤ j ∧ j < wr.heap.size ∧ ¬ X j) wr A l := fun hl => by
  have hk := h.len
  rcases h.own.2 with ⟨_, h0⟩ | ⟨g, cap, cur, hv, hg1, hg, hnc, _, hcs, ht⟩
  · omega
  · obtain ⟨rfl, rfl⟩ : A = some ⟨g, 0, none⟩ ∧ c = cap := by injection hv with h1 _ h3; exact ⟨h1, h3⟩
    have hlt := (Array.getElem?_eq_some_iff.1 hg).1
    refine ⟨g, 0, rfl, ⟨hg1, hlt, h.nx g rfl⟩, hlt, fun i hi => ?_⟩
    obtain ⟨vs, h1, h2, h3⟩ := h.cells i hi
    have hle : (i + 1) * size ≤ k * size := Nat.mul_le_mul_right _ (by omega)
    rw [Nat.add_mul] at hle
    have e : ∀ j, j < k * size → wr.cell? ⟨g, j, none⟩ = xs[j]? := fun j hj => by
      rw [cell_of_row wr g j cur _ (0, 0) hg, ← ht, List.getElem?_take, if_pos hj]; simp
    exact ⟨vs, h1, fun j hj => by rw [Nat.zero_add, e _ (by omega)]; exact h2 j hj, hm.mv h3 (Nat.le_refl _) fun j hj hS => ⟨⟨hS.1, hS.2.1, hS.2.2.2⟩, rfl⟩⟩
end

/-- one cell of a row of the call's own -/
theorem own_cell {w : World} {base : Nat} {e : TypeId} {A : Option Addr} {n c : Nat} {xs : List Value} (h : w.ownsRow base e 1 (.slice A n c) n xs) {i : Nat} (hi : i < n) : ∃ g, A = some ⟨g, 0, none⟩ ∧ base ≤ g ∧ g < w.heap.size ∧ (Value.slice A n c).ownBlock = some g ∧ ∀ j, j < n → w.cell? ⟨g, j, none⟩ = xs[j]? := by
  rcases h.2 with ⟨_, h0⟩ | ⟨g, cap, cur, hv, hg1, hg, hnc, _, hcs, ht⟩
  · omega
  · obtain ⟨rfl, rfl⟩ : A = some ⟨g, 0, none⟩ ∧ c = cap := by injection hv with h1 _ h3; exact ⟨h1, h3⟩
    refine ⟨g, rfl, hg1, (Array.getElem?_eq_some_iff.1 hg).1, rfl, fun j hj => ?_⟩
    rw [cell_of_row w g j cur _ (0, 0) hg, ← ht, List.getElem?_take, if_pos (by omega)]; simp

/-- the cells of an element of bytes, of an answer, of an operation, of a source -/
theorem ElsAt.bytesAt {S : Nat → Prop} {w : World} {A : Option Addr} {l : List (List Int)} (h : ElsAt ElB 1 S w A l) (hl : 0 < l.length) : ∃ b off, A = some ⟨b, off, none⟩ ∧ S b ∧ b < w.heap.size ∧ ∀ i, i < l.length → ∃ Ai ci, w.cell? ⟨b, off + i, none⟩ = some (.slice Ai (l.getD i []).length ci) ∧ (l.getD i []).length ≤ ci ∧ BytesAt S w Ai (l.getD i []) := by
  obtain ⟨b, off, e, hS, hb, hc⟩ := h hl
  refine ⟨b, off, e, hS, hb, fun i hi => ?_⟩
  obtain ⟨vs, h1, h2, Ai, ci, rfl, h3, h4⟩ := hc i hi
  have := h2 0 (by omega)
  rw [show l.getD i [] = l[i] by simp [hi]]
  exact ⟨Ai, ci, by simpa using this, h3, h4⟩
theorem ElsAt.opsAt {S : Nat → Prop} {w : World} {A : Option Addr} {l : List (List Int × Int × Int)} (h : ElsAt ElO 3 S w A l) (hl : 0 < l.length) : ∃ b off, A = some ⟨b, off, none⟩ ∧ S b ∧ b < w.heap.size ∧ ∀ i, i < l.length → ∃ Ai ci, w.cell? ⟨b, off + i * 3, none⟩ = some (.slice Ai (l.getD i ([], 0, 0)).1.length ci) ∧ w.cell? ⟨b, off + i * 3 + 1, none⟩ = some (.int .i64 (l.getD i ([], 0, 0)).2.1) ∧ w.cell? ⟨b, off + i * 3 + 2, none⟩ = some (.int .i64 (l.getD i ([], 0, 0)).2.2) ∧ (l.getD i ([], 0, 0)).1.length ≤ ci ∧ BytesAt S w Ai (l.getD i ([], 0, 0)).1 := by
  obtain ⟨b, off, e, hS, hb, hc⟩ := h hl
  refine ⟨b, off, e, hS, hb, fun i hi => ?_⟩
  obtain ⟨vs, h1, h2, Ai, ci, rfl, h3, h4⟩ := hc i hi
  have e0 := h2 0 (by omega)
  have e1 := h2 1 (by omega)
  have e2 := h2 2 (by omega)
  rw [show l.getD i ([], 0, 0) = l[i] by simp [hi]]
  exact ⟨Ai, ci, by simpa using e0, by simpa using e1, by simpa using e2, h3, h4⟩
theorem ElsAt.opAt {S : Nat → Prop} {w : World} {A : Option Addr} {l : List (Int × Int × Int)} (h : ElsAt ElP 3 S w A l) (hl : 0 < l.length) : ∃ b off, A = some ⟨b, off, none⟩ ∧ S b ∧ b < w.heap.size ∧ ∀ i, i < l.length → w.cell? ⟨b, off + i * 3, none⟩ = some (.int .i64 (l.getD i (0, 0, 0)).1) ∧ w.cell? ⟨b, off + i * 3 + 1, none⟩ = some (.int .i64 (l.getD i (0, 0, 0)).2.1) ∧ w.cell? ⟨b, off + i * 3 + 2, none⟩ = some (.int .i64 (l.getD i (0, 0, 0)).2.2) := by
  obtain ⟨b, off, e, hS, hb, hc⟩ := h hl
  refine ⟨b, off, e, hS, hb, fun i hi => ?_⟩
  obtain ⟨vs, h1, h2, h3⟩ := hc i hi
  unfold ElP at h3
  subst h3
  have e0 := h2 0 (by omega)
  have e1 := h2 1 (by omega)
  have e2 := h2 2 (by omega)
  rw [show l.getD i (0, 0, 0) = l[i] by simp [hi]]
  exact ⟨by simpa using e0, by simpa using e1, by simpa using e2⟩
theorem ElsAt.srcAt {S : Nat → Prop} {w : World} {A : Option Addr} {l : List (List (List Int × Int))} (h : ElsAt ElS 1 S w A l) (hl : 0 < l.length) : ∃ b off, A = some ⟨b, off, none⟩ ∧ S b ∧ b < w.heap.size ∧ ∀ i, i < l.length → ∃ Ai ci, w.cell? ⟨b, off + i, none⟩ = some (.slice Ai (l.getD i []).length ci) ∧ (l.getD i []).length ≤ ci ∧ RecsAt S w Ai (l.getD i []) := by
  obtain ⟨b, off, e, hS, hb, hc⟩ := h hl
  refine ⟨b, off, e, hS, hb, fun i hi => ?_⟩
  obtain ⟨vs, h1, h2, Ai, ci, rfl, h3, h4⟩ := hc i hi
  have := h2 0 (by omega)
  rw [show l.getD i [] = l[i] by simp [hi]]
  exact ⟨Ai, ci, by simpa using this, h3, h4⟩

end Go.Proofs.YtmoecjhlonokfaaDoor
