/- Plain laws of copying: what copying a reader to a sink comes to. No program is named here. -/
import Derived.Test.YteljcdlnfjeaaaaDoorJoinP
set_option linter.unusedVariables false
set_option linter.unusedSimpArgs false
namespace Go.Proofs.YteljcdlnfjeaaaaDoor

/-- copying with a buffer of a size: what the sink has, and the error -/
def copyP {τ : Type} (step : τ → Nat → (List Int × Int) × τ) (size : Nat) : Nat → τ → Nat → List Int → List Int × Int
  | 0, _, _, data => (data, 0)
  | f + 1, t, left, data =>
    if left < (step t size).1.1.length then (data ++ (step t size).1.1.take left, 3)
    else if (step t size).1.2 = 0 then copyP step size f (step t size).2 (left - (step t size).1.1.length) (data ++ (step t size).1.1)
    else (data ++ (step t size).1.1, if (step t size).1.2 = 1 then 0 else (step t size).1.2)

theorem copyP_full {τ : Type} {step : τ → Nat → (List Int × Int) × τ} {size f left : Nat} {t : τ} {data : List Int} (h : left < (step t size).1.1.length) : copyP step size (f + 1) t left data = (data ++ (step t size).1.1.take left, 3) := by
  rw [copyP, if_pos h]
theorem copyP_go {τ : Type} {step : τ → Nat → (List Int × Int) × τ} {size f left : Nat} {t : τ} {data : List Int} (h : ¬ left < (step t size).1.1.length) (he : (step t size).1.2 = 0) : copyP step size (f + 1) t left data = copyP step size f (step t size).2 (left - (step t size).1.1.length) (data ++ (step t size).1.1) := by
  rw [copyP, if_neg h, if_pos he]
theorem copyP_end {τ : Type} {step : τ → Nat → (List Int × Int) × τ} {size f left : Nat} {t : τ} {data : List Int} (h : ¬ left < (step t size).1.1.length) (he : (step t size).1.2 ≠ 0) : copyP step size (f + 1) t left data = (data ++ (step t size).1.1, if (step t size).1.2 = 1 then 0 else (step t size).1.2) := by
  rw [copyP, if_neg h, if_neg he]

theorem joinD_bound {B : Nat} : ∀ {l : List (List Int × Int)}, (∀ i, i < l.length → (dat l i).length ≤ B) → (joinD l).length ≤ l.length * B
  | [], _ => by simp [joinD]
  | (d, e) :: r, h => by
    have h0 := h 0 (by simp)
    have ih := joinD_bound (B := B) (l := r) fun i hi => h (i + 1) (by simpa using hi)
    rw [dat_zero] at h0
    rw [joinD_cons, List.length_append, List.length_cons, Nat.add_mul]
    simp only
    omega

/-- a measure of a source: it goes down with every read that has no error -/
def srcM (st : List (List Int × Int)) : Nat := (joinD st).length + st.length

theorem rd_m {L : Int} {st : List (List Int × Int)} (hv : Valid L st) {m : Nat} (hm : 0 < m) (he : (rd L st m).1.2 = 0) : srcM (rd L st m).2 < srcM st := by
  match st, hv with
  | [], hv => simp [rd] at he; have := hv.ends; omega
  | (d, e) :: r, hv =>
    rw [rd_cons] at he ⊢
    unfold srcM
    split
    · simp [joinD]; omega
    · simp [joinD]; omega
theorem rd_n (L : Int) (st : List (List Int × Int)) (m : Nat) : (rd L st m).1.1.length + (joinD (rd L st m).2).length ≤ (joinD st).length := by
  have := congrArg List.length (rd_join L st m)
  rw [List.length_append] at this
  omega

theorem rd_err_last {L : Int} {st : List (List Int × Int)} (h : Valid L st) (n : Nat) (he : (rd L st n).1.2 ≠ 0) : (rd L st n).1.2 = L := by
  match st, h with
  | [], _ => rfl
  | (d, e) :: r, h =>
    rw [rd_cons] at he ⊢
    split at he
    · exact absurd rfl he
    · next hlt =>
      rw [if_neg hlt]
      simp only at he ⊢
      by_cases hr : r = []
      · rcases h.head.2.2 hr with h1 | h1
        · exact absurd h1.1 he
        · exact h1
      · exact absurd (h.head.2.1 hr) he

/-- a source, copied -/
theorem copy_src {L : Int} {size : Nat} (hs : 0 < size) : ∀ (f : Nat) (st : List (List Int × Int)) (left : Nat) (data : List Int), Valid L st → srcM st + 1 ≤ f →
    copyP (rd L) size f st left data = if left < (joinD st).length then (data ++ (joinD st).take left, 3) else (data ++ joinD st, if L = 1 then 0 else L)
  | 0, _, _, _, _, h => by omega
  | f + 1, st, left, data, hv, h => by
    have hj := rd_join L st size
    by_cases h1 : left < (rd L st size).1.1.length
    · rw [copyP_full h1, if_pos (by rw [← hj, List.length_append]; omega), ← hj, List.take_append_of_le_length (by omega)]
    · by_cases h2 : (rd L st size).1.2 = 0
      · rw [copyP_go h1 h2, copy_src hs f _ _ _ (hv.rd size) (by have := rd_m hv hs h2; omega)]
        rw [← hj]
        generalize (rd L st size).1.1 = a at *
        generalize joinD (rd L st size).2 = J at *
        by_cases h3 : left < (a ++ J).length
        · rw [if_pos h3]
          rw [List.length_append] at h3
          rw [if_pos (show left - a.length < J.length by omega), List.append_assoc, List.take_append, List.take_of_length_le (show a.length ≤ left by omega)]
        · rw [if_neg h3]
          rw [List.length_append] at h3
          rw [if_neg (show ¬ left - a.length < J.length by omega), List.append_assoc]
      · rw [copyP_end h1 h2]
        have h3 := rd_fin hv size h2
        have h4 := rd_err_last hv size h2
        rw [h3, joinD_nil, List.append_nil] at hj
        rw [hj] at h1
        rw [if_neg (show ¬ left < (joinD st).length from h1), hj, h4]

end Go.Proofs.YteljcdlnfjeaaaaDoor
