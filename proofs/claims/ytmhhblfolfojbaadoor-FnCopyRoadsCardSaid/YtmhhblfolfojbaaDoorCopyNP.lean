/- Plain laws of copying some bytes. No program is named here, but for a limited read. -/
import Derived.Test.YtmhhblfolfojbaaDoorCopyP
import Derived.Test.YtmhhblfolfojbaaDoorLim
set_option linter.unusedVariables false
set_option linter.unusedSimpArgs false
namespace Go.Proofs.YtmhhblfolfojbaaDoor

/-- a limited source, copied -/
theorem copy_lim {L : Int} {size : Nat} (hs : 0 < size) : ∀ (f : Nat) (st : List (List Int × Int)) (n left : Nat) (data : List Int), Valid L st → srcM st + 1 ≤ f →
    (left < (joinD st).length → left < n → copyP (limStep (rd L)) size f (st, (n : Int)) left data = (data ++ (joinD st).take left, 3)) ∧
    (n ≤ (joinD st).length → n ≤ left → (copyP (limStep (rd L)) size f (st, (n : Int)) left data).1 = data ++ (joinD st).take n) ∧
    ((joinD st).length < n → (joinD st).length ≤ left → copyP (limStep (rd L)) size f (st, (n : Int)) left data = (data ++ joinD st, if L = 1 then 0 else L))
  | 0, _, _, _, _, _, h => by omega
  | f + 1, st, n, left, data, hv, h => by
    by_cases hn : n = 0
    · subst hn
      have hst : limStep (rd L) (st, ((0 : Nat) : Int)) size = (([], 1), (st, ((0 : Nat) : Int))) := by unfold limStep; rw [if_pos (by simp)]
      refine ⟨fun _ h2 => by omega, fun _ _ => ?_, fun h1 _ => by omega⟩
      rw [copyP_end (by rw [hst]; simp) (by rw [hst]; simp), hst]
      simp
    · have hst : limStep (rd L) (st, (n : Int)) size = ((rd L st (min size n)).1, ((rd L st (min size n)).2, (n : Int) - (rd L st (min size n)).1.1.length)) := by
        unfold limStep
        rw [if_neg (by simp; omega)]
        simp
      have hj := rd_join L st (min size n)
      have hl := rd_len L st (min size n)
      have hm := fun he => rd_m (m := min size n) hv (by omega) he
      have hf := rd_fin hv (min size n)
      have hel := rd_err_last hv (min size n)
      have hvr := hv.rd (min size n)
      generalize rd L st (min size n) = r at *
      obtain ⟨⟨a, e⟩, st'⟩ := r
      simp only at hst hj hl hm hf hel hvr
      have e1 : (limStep (rd L) (st, (n : Int)) size).1.1 = a := by rw [hst]
      have e2 : (limStep (rd L) (st, (n : Int)) size).1.2 = e := by rw [hst]
      have e3 : (limStep (rd L) (st, (n : Int)) size).2 = (st', ((n - a.length : Nat) : Int)) := by rw [hst]; simp; omega
      by_cases h1 : left < a.length
      · have hc := copyP_full (step := limStep (rd L)) (size := size) (f := f) (t := (st, (n : Int))) (data := data) (by rw [e1]; exact h1)
        rw [e1] at hc
        have hla : a.length ≤ (joinD st).length := by rw [← hj, List.length_append]; omega
        refine ⟨fun _ _ => ?_, fun _ h2 => by omega, fun _ h2 => by omega⟩
        rw [hc, ← hj, List.take_append_of_le_length (by omega)]
      · by_cases h2 : e = 0
        · have hc := copyP_go (step := limStep (rd L)) (size := size) (f := f) (t := (st, (n : Int))) (data := data) (left := left) (by rw [e1]; exact h1) (by rw [e2]; exact h2)
          rw [e1, e3] at hc
          obtain ⟨i1, i2, i3⟩ := copy_lim hs f st' (n - a.length) (left - a.length) (data ++ a) hvr (by have := hm h2; omega)
          rw [hc, ← hj, List.length_append]
          generalize joinD st' = J at *
          refine ⟨fun g1 g2 => ?_, fun g1 g2 => ?_, fun g1 g2 => ?_⟩
          · rw [i1 (by omega) (by omega), List.append_assoc, List.take_append, List.take_of_length_le (show a.length ≤ left by omega)]
          · rw [i2 (by omega) (by omega), List.append_assoc, List.take_append, List.take_of_length_le (show a.length ≤ n by omega)]
          · rw [i3 (by omega) (by omega), List.append_assoc]
        · have hc := copyP_end (step := limStep (rd L)) (size := size) (f := f) (t := (st, (n : Int))) (data := data) (left := left) (by rw [e1]; exact h1) (by rw [e2]; exact h2)
          rw [e1, e2] at hc
          have h3 := hf h2
          have h4 := hel h2
          subst h3
          rw [joinD_nil, List.append_nil] at hj
          subst hj
          rw [hc]
          refine ⟨fun g1 g2 => by omega, fun g1 g2 => ?_, fun g1 g2 => ?_⟩
          · simp only
            rw [List.take_of_length_le (by omega)]
          · rw [h4]

/-- what copying n bytes of a source to a sink with a limit comes to -/
def copyNR (L : Int) (st : List (List Int × Int)) (lim n : Nat) : List Int × Int :=
  if n ≤ (joinD st).length ∧ n ≤ lim then ((joinD st).take n, 0) else if lim < (joinD st).length then ((joinD st).take lim, 3) else (joinD st, L)

theorem copyNR_err {L : Int} {st : List (List Int × Int)} (hv : Valid L st) (lim n : Nat) : (copyNR L st lim n).2 = 0 ∨ (copyNR L st lim n).2 = 1 ∨ (copyNR L st lim n).2 = 2 ∨ (copyNR L st lim n).2 = 3 := by
  have := hv.ends
  unfold copyNR
  split
  · simp
  · split
    · simp
    · simp only; omega
theorem copyNR_len (L : Int) (st : List (List Int × Int)) (lim n : Nat) : (copyNR L st lim n).1.length ≤ (joinD st).length := by
  unfold copyNR
  split
  · simp; omega
  · split
    · simp; omega
    · simp

/-- what CopyN makes of what Copy tells -/
theorem copyN_of {L : Int} {st : List (List Int × Int)} {lim n : Nat} (hv : Valid L st) {R : List Int × Int} (h1 : lim < (joinD st).length → lim < n → R = ((joinD st).take lim, 3)) (h2 : n ≤ (joinD st).length → n ≤ lim → R.1 = (joinD st).take n)
    (h3 : (joinD st).length < n → (joinD st).length ≤ lim → R = (joinD st, if L = 1 then 0 else L)) :
    (R.1.length = n → copyNR L st lim n = (R.1, 0)) ∧ (R.1.length ≠ n → R.1.length < n ∧ copyNR L st lim n = (R.1, if R.2 = 0 then 1 else R.2)) := by
  have hL := hv.ends
  unfold copyNR
  by_cases g1 : n ≤ (joinD st).length ∧ n ≤ lim
  · rw [if_pos g1]
    have e := h2 g1.1 g1.2
    refine ⟨fun _ => by rw [e], fun h => ?_⟩
    rw [e, List.length_take] at h
    omega
  · rw [if_neg g1]
    by_cases g2 : lim < (joinD st).length
    · rw [if_pos g2]
      have e := h1 g2 (by omega)
      subst e
      simp only [List.length_take]
      exact ⟨fun h => by omega, fun _ => ⟨by omega, by simp⟩⟩
    · rw [if_neg g2]
      have e := h3 (by omega) (by omega)
      subst e
      refine ⟨fun h => ?_, fun _ => ⟨by simp only; omega, ?_⟩⟩
      · simp only at h; omega
      · rcases hL with rfl | rfl <;> simp

end Go.Proofs.YtmhhblfolfojbaaDoor
