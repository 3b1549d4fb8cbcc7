/- Plain laws of limited reads. -/
import Derived.Test.YtbddgkmkdjkloaaDoorScript
import Derived.Test.YtbddgkmkdjkloaaDoorLim
import Derived.Test.YtbddgkmkdjkloaaDoorCopyP
set_option linter.unusedVariables false
set_option linter.unusedSimpArgs false
namespace Go.Proofs.YtbddgkmkdjkloaaDoor

theorem limStep_join (L : Int) (s : List (List Int × Int) × Int) (m : Nat) : (limStep (rd L) s m).1.1 ++ joinD (limStep (rd L) s m).2.1 = joinD s.1 := by
  unfold limStep
  split
  · rfl
  · exact rd_join L s.1 _

theorem limStep_left (L : Int) (s : List (List Int × Int) × Int) (m : Nat) : (limStep (rd L) s m).2.2 = s.2 - (limStep (rd L) s m).1.1.length := by
  unfold limStep
  split
  · simp
  · rfl

theorem limStep_len (L : Int) (s : List (List Int × Int) × Int) (m : Nat) : (limStep (rd L) s m).1.1.length ≤ m := by
  unfold limStep
  split
  · simp
  · have := rd_len L s.1 (min m s.2.toNat); simp only; omega

theorem runs_join (L : Int) : ∀ (zs : List Int) (s : List (List Int × Int) × Int), joinD (runs (limStep (rd L)) zs s).1 ++ joinD (runs (limStep (rd L)) zs s).2.1 = joinD s.1
  | [], s => by simp [runs, joinD]
  | z :: zs, s => by
    rw [runs, joinD_cons]
    simp only
    rw [List.append_assoc, runs_join L zs, limStep_join]

theorem runs_left (L : Int) : ∀ (zs : List Int) (s : List (List Int × Int) × Int), (runs (limStep (rd L)) zs s).2.2 = s.2 - (joinD (runs (limStep (rd L)) zs s).1).length
  | [], s => by simp [runs, joinD]
  | z :: zs, s => by
    rw [runs, joinD_cons]
    simp only
    rw [runs_left L zs, limStep_left, List.length_append]
    omega

theorem limStep_le (L : Int) (s : List (List Int × Int) × Int) (m : Nat) : (limStep (rd L) s m).1.1.length ≤ s.2.toNat := by
  unfold limStep
  split
  · simp
  · have := rd_len L s.1 (min m s.2.toNat); simp only; omega

theorem runs_le (L : Int) : ∀ (zs : List Int) (s : List (List Int × Int) × Int), (joinD (runs (limStep (rd L)) zs s).1).length ≤ s.2.toNat
  | [], s => by simp [runs, joinD]
  | z :: zs, s => by
    rw [runs, joinD_cons]
    have h1 := runs_le L zs (limStep (rd L) s z.toNat).2
    have h2 := limStep_left L s z.toNat
    have h3 := limStep_le L s z.toNat
    rw [List.length_append]
    omega

/-- behind the limit there is the end alone -/
def EndOK : Int → List (List Int × Int) → Prop
  | _, [] => True
  | n, (d, e) :: r => (n ≤ 0 → d = [] ∧ e = 1) ∧ EndOK (n - d.length) r

theorem runs_end (L : Int) : ∀ (zs : List Int) (s : List (List Int × Int) × Int), EndOK s.2 (runs (limStep (rd L)) zs s).1
  | [], s => trivial
  | z :: zs, s => by
    have h := runs_end L zs (limStep (rd L) s z.toNat).2
    rw [limStep_left] at h
    refine ⟨fun hn => ?_, h⟩
    unfold limStep
    rw [if_pos hn]
    exact ⟨rfl, rfl⟩

theorem EndOK.at : ∀ {n : Int} {R : List (List Int × Int)} {i : Nat}, EndOK n R → i < R.length → n - ((joinD (R.take i)).length : Int) ≤ 0 → dat R i = [] ∧ err R i = 1
  | n, (d, e) :: r, 0, h, _, hl => h.1 (by simpa [joinD] using hl)
  | n, (d, e) :: r, i + 1, h, hi, hl => by
    rw [dat_succ, err_succ]
    refine EndOK.at h.2 (by simpa using hi) ?_
    rw [List.take_succ_cons, joinD_cons, List.length_append] at hl
    simp only at hl
    omega

/-- a limit greater than all is none -/
theorem limStep_all {L : Int} {st : List (List Int × Int)} {n : Int} (hn : ((joinD st).length : Int) < n) (m : Nat) : limStep (rd L) (st, n) m = ((rd L st m).1, ((rd L st m).2, n - (rd L st m).1.1.length)) := by
  unfold limStep
  rw [if_neg (by simp only; omega)]
  have e : rd L st (min m n.toNat) = rd L st m := by
    match st with
    | [] => rfl
    | (d, e) :: r =>
      have hd : d.length ≤ (joinD ((d, e) :: r)).length := by rw [joinD_cons, List.length_append]; simp only; omega
      rw [rd_cons, rd_cons]
      by_cases h : m < d.length
      · rw [if_pos h, if_pos (by omega), Nat.min_eq_left (by omega)]
      · rw [if_neg h, if_neg (by omega)]
  simp only [e]

theorem runs_all {L : Int} : ∀ (zs : List Int) (st : List (List Int × Int)) (n : Int), ((joinD st).length : Int) < n → (runs (limStep (rd L)) zs (st, n)).1 = (runs (rd L) zs st).1
  | [], _, _, _ => rfl
  | z :: zs, st, n, h => by
    rw [runs, runs, limStep_all h]
    simp only
    have hj := congrArg List.length (rd_join L st z.toNat)
    rw [List.length_append] at hj
    rw [runs_all zs _ _ (by omega)]

theorem rdruns_join (L : Int) : ∀ (zs : List Int) (st : List (List Int × Int)), joinD (runs (rd L) zs st).1 ++ joinD (runs (rd L) zs st).2 = joinD st
  | [], s => by simp [runs, joinD]
  | z :: zs, s => by
    rw [runs, joinD_cons]
    simp only
    rw [List.append_assoc, rdruns_join L zs, rd_join]

theorem runs_lens {τ : Type} {step : τ → Nat → (List Int × Int) × τ} (hl : ∀ t m, (step t m).1.1.length ≤ m) {zs : List Int} {t : τ} (hz : SizesOK zs) : ∀ i, i < (runs step zs t).1.length → (dat (runs step zs t).1 i).length ≤ 1048576 := fun i hi => by
  rw [runs_length] at hi
  have h1 := runs_small step hl zs t i hi
  have h2 := (hz.1 i hi).2
  have h3 : nth zs i = zs.getD i 0 := rfl
  omega

end Go.Proofs.YtbddgkmkdjkloaaDoor
