/- Plain laws of reads with a sink. -/
import Derived.Test.YtbddgkmkdjkloaaDoorTee
import Derived.Test.YtbddgkmkdjkloaaDoorLimP
set_option linter.unusedVariables false
set_option linter.unusedSimpArgs false
namespace Go.Proofs.YtbddgkmkdjkloaaDoor

theorem teeStep_len (L : Int) (s : List (List Int × Int) × Nat × List Int) (m : Nat) : (teeStep (rd L) s m).1.1.length ≤ m := by
  have := rd_len L s.1 m
  simp only [teeStep, List.length_take]
  omega

theorem take_split (a r : List Int) (n : Nat) : (a ++ r).take n = a.take n ++ r.take (n - (a.take n).length) := by
  rw [List.take_append, List.length_take]
  congr 2
  omega

/-- what the sink takes: the beginning of what is read -/
theorem tee_taken (L : Int) : ∀ (zs : List Int) (st : List (List Int × Int)) (left : Nat) (data : List Int), (runs (teeStep (rd L)) zs (st, left, data)).2.2.2 = data ++ (joinD (runs (rd L) zs st).1).take left
  | [], _, _, _ => by simp [runs, joinD]
  | z :: zs, st, left, data => by
    rw [runs, runs, joinD_cons]
    simp only
    rw [show (teeStep (rd L) (st, left, data) z.toNat).2 = ((rd L st z.toNat).2, left - ((rd L st z.toNat).1.1.take left).length, data ++ (rd L st z.toNat).1.1.take left) from rfl]
    rw [tee_taken L zs, take_split, List.append_assoc]

/-- with room for all, the reads are as without the sink -/
theorem tee_room (L : Int) : ∀ (zs : List Int) (st : List (List Int × Int)) (left : Nat) (data : List Int), (joinD st).length ≤ left → (runs (teeStep (rd L)) zs (st, left, data)).1 = (runs (rd L) zs st).1
  | [], _, _, _, _ => rfl
  | z :: zs, st, left, data, h => by
    have hr := rd_n L st z.toNat
    rw [runs, runs]
    simp only
    have e : teeStep (rd L) (st, left, data) z.toNat = ((rd L st z.toNat).1, ((rd L st z.toNat).2, left - (rd L st z.toNat).1.1.length, data ++ (rd L st z.toNat).1.1)) := by
      unfold teeStep
      simp only
      rw [List.take_of_length_le (by omega), if_neg (by omega)]
    rw [e]
    simp only
    rw [tee_room L zs _ _ _ (by omega)]

/-- is there a read that the sink stopped -/
def metFull (R : List (List Int × Int)) : Bool := R.any fun x => x.2 == 3

theorem tee_met (L : Int) : ∀ (zs : List Int) (st : List (List Int × Int)) (left : Nat) (data : List Int), Valid L st → metFull (runs (teeStep (rd L)) zs (st, left, data)).1 = decide (left < (joinD (runs (rd L) zs st).1).length)
  | [], _, _, _, _ => by simp [runs, joinD, metFull]
  | z :: zs, st, left, data, hv => by
    rw [runs, runs, joinD_cons]
    simp only
    have e : teeStep (rd L) (st, left, data) z.toNat = (((rd L st z.toNat).1.1.take left, if left < (rd L st z.toNat).1.1.length then 3 else (rd L st z.toNat).1.2), ((rd L st z.toNat).2, left - ((rd L st z.toNat).1.1.take left).length, data ++ (rd L st z.toNat).1.1.take left)) := rfl
    have he := hv.err z.toNat
    have ih := tee_met L zs (rd L st z.toNat).2 (left - ((rd L st z.toNat).1.1.take left).length) (data ++ (rd L st z.toNat).1.1.take left) (hv.rd _)
    rw [e]
    unfold metFull at ih ⊢
    rw [List.any_cons]
    simp only at ih ⊢
    rw [ih, List.length_take, List.length_append]
    generalize (joinD (runs (rd L) zs (rd L st z.toNat).2).1).length = q
    generalize (rd L st z.toNat).1.1.length = p at *
    by_cases hp : left < p
    · rw [if_pos hp]
      simp
      omega
    · rw [if_neg hp]
      have : ((rd L st z.toNat).1.2 == 3) = false := by
        rcases he with h | h | h <;> rw [h] <;> rfl
      rw [this, Bool.false_or]
      congr 1
      apply propext
      omega

theorem metFull_take {R : List (List Int × Int)} {k : Nat} (h : k < R.length) : metFull (R.take (k + 1)) = (metFull (R.take k) || decide (err R k = 3)) := by
  unfold metFull
  rw [List.take_succ_eq_append_getElem h, List.any_append, err_get h]
  simp
  rfl

end Go.Proofs.YtbddgkmkdjkloaaDoor
