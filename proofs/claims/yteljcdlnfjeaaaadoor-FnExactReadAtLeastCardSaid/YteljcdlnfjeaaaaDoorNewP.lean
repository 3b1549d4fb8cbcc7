/- newReader, its plain part: what each round adds to the reader's memory. -/
import Derived.Test.YteljcdlnfjeaaaaDoorRead
import Derived.Test.YteljcdlnfjeaaaaDoorApp
set_option linter.unusedVariables false
set_option linter.unusedSimpArgs false
namespace Go.Proofs.YteljcdlnfjeaaaaDoor
open Go.RowKit

/-- the cells xs are the steps st, their bytes in blocks of S -/
def StepCells (S : Nat → Prop) (w : World) (xs : List Value) (st : List (List Int × Int)) : Prop :=
  ∀ i, i < st.length → ∃ Ai ci, xs[i * 2]? = some (.slice Ai (dat st i).length ci) ∧ xs[i * 2 + 1]? = some (.int .i64 (err st i)) ∧ (dat st i).length ≤ ci ∧ BytesAt S w Ai (dat st i)

def NewInv (st : List (List Int × Int)) (w : World) (k : Nat) (wr : World) : Prop :=
  Below w.heap.size w wr ∧ w.heap.size + 2 ≤ wr.heap.size ∧ ∃ A' c' xs, Blk wr (w.heap.size + 1) 85 #[.slice A' k c', .int .i64 1] ∧ wr.ownsRow (w.heap.size + 2) 50 2 (.slice A' k c') k xs ∧
    StepCells (fun j => w.heap.size + 2 ≤ j ∧ j < wr.heap.size ∧ some j ≠ (Value.slice A' k c').ownBlock) wr xs (st.take k)

def NewPost (st : List (List Int × Int)) (w : World) (e : Ending) (w' : World) : Prop :=
  e = .returned (.pointer (some ⟨w.heap.size + 1, 0, none⟩)) ∧ Below w.heap.size w w' ∧ w.heap.size + 2 ≤ w'.heap.size ∧ ∃ g, w.heap.size + 1 ≤ g ∧ g < w'.heap.size ∧ Rd (fun j => w.heap.size + 2 ≤ j ∧ j < w'.heap.size ∧ j ≠ g) w' (w.heap.size + 1) g st 1

theorem dat_take {st : List (List Int × Int)} {k i : Nat} (h : i < k) : dat (st.take k) i = dat st i := by simp [dat, List.getElem?_take, h]
theorem err_take {st : List (List Int × Int)} {k i : Nat} (h : i < k) : err (st.take k) i = err st i := by simp [err, List.getElem?_take, h]

theorem new_step {st : List (List Int × Int)} {w wr w1 w2 : World} {k : Nat} {A' A1 A2 : Option Addr} {c' c1 c2 : Nat} {xs : List Value} {d : List Int} {x : Int} {o o2 : Obj} (hk : k < st.length) (hd : dat st k = d) (hx : err st k = x)
    (hbel : Below w.heap.size w wr) (hsz : w.heap.size + 2 ≤ wr.heap.size) (hblk : Blk wr (w.heap.size + 1) 85 #[.slice A' k c', .int .i64 1]) (hown : wr.ownsRow (w.heap.size + 2) 50 2 (.slice A' k c') k xs)
    (hcells : StepCells (fun j => w.heap.size + 2 ≤ j ∧ j < wr.heap.size ∧ some j ≠ (Value.slice A' k c').ownBlock) wr xs (st.take k))
    (hap1 : Appended (w.heap.size + 2) 5 1 A1 d.length c1 (bytesV d) (some (wr.heap.size + 1)) (((wr.alloc o).alloc (.cells #[] 5)).drew) w1)
    (hap2 : Appended (w.heap.size + 2) 50 2 A2 (k + 1) c2 (xs ++ [.slice A1 d.length c1, .int .i64 x]) (Value.slice A' k c').ownBlock (w1.alloc o2) w2) :
    NewInv st w (k + 1) (w2.setCell ⟨w.heap.size + 1, 0, none⟩ (.slice A2 (k + 1) c2)) := by
  have hs1 := hap1.sizeLe
  have hs2 := hap2.sizeLe
  simp at hs1 hs2
  have hne : ∀ j, j < w.heap.size + 2 → some j ≠ (Value.slice A' k c').ownBlock := fun j hj e => by have := (own_block_lt hown e.symm).1; omega
  have hlt' : ∀ j, (Value.slice A' k c').ownBlock = some j → j < wr.heap.size := fun j e => (own_block_lt hown e).2
  have hA1 : ∀ j, (Value.slice A1 d.length c1).ownBlock = some j → wr.heap.size + 1 ≤ j ∧ j < w1.heap.size := fun j e => by
    refine ⟨?_, (own_block_lt hap1.own e).2⟩
    rcases hap1.2.2 with h | h
    · rw [h] at e; injection e with e; omega
    · rw [h] at e; injection e with e; simp at e; omega
  have hA2 : (Value.slice A2 (k + 1) c2).ownBlock = (Value.slice A' k c').ownBlock ∨ (Value.slice A2 (k + 1) c2).ownBlock = some (w1.heap.size + 1) := by simpa using hap2.2.2
  -- a block of wr that is neither b nor the row is as it was
  have old : ∀ j, j < wr.heap.size → some j ≠ (Value.slice A' k c').ownBlock → w2.heap[j]? = wr.heap[j]? := fun j hj hn => by
    rw [hap2.grown.block j (by simp; omega) hn, Below.heap_alloc _ _ _ (by omega), hap1.grown.block j (by simp; omega) (by simp; omega)]
    show ((wr.alloc o).alloc (.cells #[] 5)).heap[j]? = _
    rw [Below.heap_alloc _ _ _ (by simp; omega), Below.heap_alloc _ _ _ hj]
  have set_ : ∀ j, j ≠ w.heap.size + 1 → (w2.setCell ⟨w.heap.size + 1, 0, none⟩ (.slice A2 (k + 1) c2)).heap[j]? = w2.heap[j]? := fun j hj => Below.heap_setCell _ _ _ _ hj
  have hlen : (st.take k).length = k := by simp; omega
  refine ⟨?_, by simp [World.setCell]; omega, A2, c2, xs ++ [.slice A1 d.length c1, .int .i64 x], ?_, ?_, ?_⟩
  · refine hbel.trans ⟨?_, ?_, ?_, by simp [World.setCell]; omega, fun j hj => ?_⟩
    · exact hap2.grown.os.trans hap1.grown.os
    · exact hap2.grown.tape.trans hap1.grown.tape
    · exact hap2.grown.output.trans hap1.grown.output
    · rw [set_ j (by omega), old j (by omega) (hne j (by omega))]
  · have b2 : Blk w2 (w.heap.size + 1) 85 #[.slice A' k c', .int .i64 1] := hblk.keep (old _ hblk.lt (hne _ (by omega)))
    simpa using b2.put 0 (.slice A2 (k + 1) c2)
  · exact ownsRow_setCell_below hap2.own (by simp) _
  · have hxl : xs.length = k * 2 := hown.1
    intro i hi
    have hi' : i < k + 1 := by simp at hi; omega
    rw [dat_take hi', err_take hi']
    by_cases hik : i < k
    · obtain ⟨Ai, ci, h1, h2, h3, h4⟩ := hcells i (by rw [hlen]; exact hik)
      rw [dat_take hik] at h1 h3 h4
      rw [err_take hik] at h2
      refine ⟨Ai, ci, by rw [List.getElem?_append_left (by omega)]; exact h1, by rw [List.getElem?_append_left (by omega)]; exact h2, h3, h4.move (by simp [World.setCell]; omega) fun j hj hS => ?_⟩
      obtain ⟨q1, q2, q3⟩ := hS
      refine ⟨⟨q1, by simp [World.setCell]; omega, ?_⟩, ?_⟩
      · rcases hA2 with h | h
        · rw [h]; exact q3
        · rw [h]; intro e; injection e with e; omega
      · rw [set_ j (by omega), old j q2 q3]
    · obtain rfl : i = k := by omega
      rw [hd, hx]
      refine ⟨A1, c1, by rw [List.getElem?_append_right (by omega), hxl]; simp, by rw [List.getElem?_append_right (by omega), hxl, show i * 2 + 1 - i * 2 = 1 by omega]; rfl, own_cap hap1.own, (own_bytes hap1.own).move (by simp [World.setCell]; omega) fun j hj hS => ?_⟩
      obtain ⟨q1, q2⟩ := hA1 j hS
      refine ⟨⟨by omega, by simp [World.setCell]; omega, ?_⟩, ?_⟩
      · rcases hA2 with h | h
        · rw [h]; intro e; have := hlt' j e.symm; omega
        · rw [h]; intro e; injection e with e; omega
      · rw [set_ j (by omega), hap2.grown.block j (by simp; omega) (fun e => by have := hlt' j e.symm; omega), Below.heap_alloc _ _ _ q2]

theorem new_done {st : List (List Int × Int)} {w wr : World} (h : NewInv st w st.length wr) : NewPost st w (.returned (.pointer (some ⟨w.heap.size + 1, 0, none⟩))) wr := by
  obtain ⟨hbel, hsz, A', c', xs, hblk, hown, hcells⟩ := h
  rw [List.take_length] at hcells
  refine ⟨rfl, hbel, hsz, ?_⟩
  rcases hown.2 with ⟨_, h0⟩ | ⟨g, cap, cur, hv, hg1, hg, hnc, _, hcs, ht⟩
  · refine ⟨w.heap.size + 1, Nat.le_refl _, by omega, A', c', hblk, own_cap hown, fun hp => by omega⟩
  · obtain ⟨rfl, rfl⟩ : A' = some ⟨g, 0, none⟩ ∧ c' = cap := by injection hv with h1 _ h3; exact ⟨h1, h3⟩
    refine ⟨g, by omega, (Array.getElem?_eq_some_iff.1 hg).1, _, _, hblk, hnc, fun _ => ⟨0, rfl, cur.toList, hg, fun i hi => ?_⟩⟩
    obtain ⟨Ai, ci, h1, h2, h3, h4⟩ := hcells i hi
    have e : ∀ j, j < st.length * 2 → cur.toList[j]? = xs[j]? := fun j hj => by rw [← ht, List.getElem?_take, if_pos hj]
    refine ⟨Ai, ci, by rw [Nat.zero_add, e _ (by omega)]; exact h1, by rw [Nat.zero_add, e _ (by omega)]; exact h2, h3, h4.mono fun j _ hS => ⟨hS.1, hS.2.1, fun e => hS.2.2 (by rw [e]; rfl)⟩⟩

end Go.Proofs.YteljcdlnfjeaaaaDoor
