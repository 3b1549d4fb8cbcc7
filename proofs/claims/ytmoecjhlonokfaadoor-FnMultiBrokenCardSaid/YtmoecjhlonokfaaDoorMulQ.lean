/- Plain laws of the lists of sources that the Multi laws gather, and the call over no sources that stands in their text. -/
import Derived.Test.YtmoecjhlonokfaaDoorMultiR
import Derived.Test.YtmoecjhlonokfaaDoorMultiP
import Derived.Test.YtmoecjhlonokfaaDoorDrawM
import Derived.Test.YtmoecjhlonokfaaDoorSpec
set_option linter.unusedVariables false
set_option linter.unusedSimpArgs false
namespace Go.Proofs.YtmoecjhlonokfaaDoor
open Go.RowKit

theorem ints_one (w : World) (t : TypeId) (z : Int) : IntsAt (fun j => w.heap.size ≤ j) (w.alloc (.cells #[.int .i64 z] t)) (some ⟨w.heap.size, 0, none⟩) [z] := fun _ => by
  refine ⟨w.heap.size, 0, rfl, Nat.le_refl _, by simp, fun j hj => ?_⟩
  obtain rfl : j = 0 := by simpa using hj
  rw [(Blk.new w t _).cell]
  rfl

theorem lit_sizes : SizesOK [(1 : Int)] := by
  refine ⟨fun i hi => ?_, by simp⟩
  obtain rfl : i = 0 := by simpa using hi
  simp

/-- one read of no sources gives one answer -/
theorem lit_multi {B : Nat} {w : World} {E : Nat → Addr} (hE : Errs B w E) (hBw : B ≤ w.heap.size) :
    Calls Tryd.prog 22 #[.slice none 0 0, .slice (some ⟨w.heap.size, 0, none⟩) 1 1] (w.alloc (.cells #[.int .i64 1] 3))
      fun e w' => ∃ A c, e = .returned (.slice A 1 c) ∧ Below w.heap.size w w' := by
  have hb : Below w.heap.size w (w.alloc (.cells #[.int .i64 1] 3)) := (Below.refl _ _).alloc (Nat.le_refl _) _
  have C := implMulti_any (ss := []) (zs := [(1 : Int)]) (S0 := fun _ => True) (A := none) (hE.below (hb.mono hBw)) (Nat.le_trans hBw hb.size) 0 1 (ElsAt.nil _ _ _) (by simp) (fun st h => by cases h) (fun t h => by cases h) (ints_one w 3 1) lit_sizes (by simp)
  refine Calls.mono C ?_
  rintro e w' ⟨A, c, he, _, _, hb'⟩
  rw [runs_length] at he
  exact ⟨A, c, he, hb.trans (hb'.mono (by simp))⟩

theorem srcs_take {ss : List (List (List Int × Int))} {k : Nat} (h : k < ss.length) : srcs (ss.take (k + 1)) = srcs (ss.take k) ++ [(lastErr (ss.getD k []), ss.getD k [])] := by
  unfold srcs
  rw [List.take_succ_eq_append_getElem h, List.map_append]
  simp [h]

theorem srcs_parts {ss : List (List (List Int × Int))} {k : Nat} (h : k < ss.length) : srcs ss = srcs (ss.take k) ++ (lastErr (ss.getD k []), ss.getD k []) :: srcs (ss.drop (k + 1)) := by
  have e : ss = ss.take (k + 1) ++ ss.drop (k + 1) := (List.take_append_drop _ _).symm
  have := congrArg srcs e
  rw [this, show srcs (ss.take (k + 1) ++ ss.drop (k + 1)) = srcs (ss.take (k + 1)) ++ srcs (ss.drop (k + 1)) by simp [srcs], srcs_take h, List.append_assoc]
  rfl

theorem joinAll_append (a b : List (Int × List (List Int × Int))) : joinAll (a ++ b) = joinAll a ++ joinAll b := by simp [joinAll]
theorem joinAll_one (t : Int × List (List Int × Int)) : joinAll [t] = joinD t.2 := by simp [joinAll]

theorem joinAll_take {ss : List (List (List Int × Int))} {k : Nat} (h : k < ss.length) : joinAll (srcs (ss.take (k + 1))) = joinAll (srcs (ss.take k)) ++ joinD (ss.getD k []) := by
  rw [srcs_take h, joinAll_append, joinAll_one]

theorem joinD_small {st : List (List Int × Int)} (h : SmallSrc st) : (joinD st).length ≤ 4200 := by
  have h1 := joinD_len_le h.2
  have h2 := h.1
  omega

theorem joinAll_small : ∀ {ss : List (List (List Int × Int))}, (∀ st ∈ ss, SmallSrc st) → (joinAll (srcs ss)).length ≤ ss.length * 4200
  | [], _ => by simp [srcs, joinAll]
  | st :: r, h => by
    have h1 := joinD_small (h st List.mem_cons_self)
    have h2 := joinAll_small (ss := r) fun x hx => h x (List.mem_cons_of_mem _ hx)
    have e : joinAll (srcs (st :: r)) = joinD st ++ joinAll (srcs r) := by simp [srcs, joinAll]
    rw [e, List.length_append, List.length_cons]
    omega

theorem joinAll_take_le {ss : List (List (List Int × Int))} (h : ∀ st ∈ ss, SmallSrc st) (h5 : ss.length ≤ 5) (k : Nat) : (joinAll (srcs (ss.take k))).length ≤ 21000 := by
  have h1 := joinAll_small (ss := ss.take k) fun x hx => h x (List.mem_of_mem_take hx)
  have h2 : (ss.take k).length ≤ ss.length := by rw [List.length_take]; omega
  omega

theorem EndAll.snoc {a : List (Int × List (List Int × Int))} {t : Int × List (List Int × Int)} (h : EndAll a) (ht : t.1 = 1) : EndAll (a ++ [t]) := fun x hx => by
  rcases List.mem_append.1 hx with hx | hx
  · exact h x hx
  · rw [List.mem_singleton.1 hx]; exact ht

/-- the answer at i is the part of all that begins where the answers ahead of it end -/
theorem mid_of_join {R : List (List Int × Int)} {rest all : List Int} (h : joinD R ++ rest = all) {i : Nat} (hi : i < R.length) : (all.drop (joinD (R.take i)).length).take (dat R i).length = dat R i := by
  have e : R = R.take (i + 1) ++ R.drop (i + 1) := (List.take_append_drop _ _).symm
  have e2 : joinD R = joinD (R.take i) ++ (dat R i ++ joinD (R.drop (i + 1))) := by
    rw [← List.append_assoc, ← joinD_take' hi, ← joinD_append, ← e]
  rw [← h, e2, List.append_assoc, List.append_assoc, List.drop_left' rfl, List.take_left' rfl]

/-- no source breaks -/
def NoBrk (ts : List (Int × List (List Int × Int))) : Prop := ∀ t ∈ ts, t.1 ≠ 2

theorem NoBrk.snoc {a : List (Int × List (List Int × Int))} {t : Int × List (List Int × Int)} (h : NoBrk a) (ht : t.1 ≠ 2) : NoBrk (a ++ [t]) := fun x hx => by
  rcases List.mem_append.1 hx with hx | hx
  · exact h x hx
  · rw [List.mem_singleton.1 hx]; exact ht

theorem allB_append : ∀ {a : List (Int × List (List Int × Int))} (_ : NoBrk a) (b : List (Int × List (List Int × Int))), allB (a ++ b) = joinAll a ++ allB b
  | [], _, b => by simp [joinAll]
  | (L, st) :: r, h, b => by
    have hL : L ≠ 2 := h (L, st) List.mem_cons_self
    rw [List.cons_append, allB, if_neg hL, allB_append (fun x hx => h x (List.mem_cons_of_mem _ hx)) b, joinAll_cons, List.append_assoc]

/-- the first source that breaks -/
theorem brk_at {ss : List (List (List Int × Int))} {k : Nat} (hk : k < ss.length) (h : NoBrk (srcs (ss.take k))) (he : lastErr (ss.getD k []) = 2) : Brk (srcs ss) ∧ allB (srcs ss) = joinAll (srcs (ss.take (k + 1))) := by
  rw [srcs_parts hk]
  refine ⟨⟨(lastErr (ss.getD k []), ss.getD k []), by simp, he⟩, ?_⟩
  rw [allB_append h, joinAll_take hk, allB, if_pos he, List.append_nil]

end Go.Proofs.YtmoecjhlonokfaaDoor
