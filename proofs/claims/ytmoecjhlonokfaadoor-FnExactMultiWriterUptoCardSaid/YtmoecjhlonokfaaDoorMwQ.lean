/- More plain laws of writes to several sinks. -/
import Derived.Test.YtmoecjhlonokfaaDoorSMw
set_option linter.unusedVariables false
set_option linter.unusedSimpArgs false
namespace Go.Proofs.YtmoecjhlonokfaaDoor

theorem flatten_le {B : Nat} : ∀ {ps : List (List Int)}, (∀ p ∈ ps, p.length ≤ B) → ps.flatten.length ≤ ps.length * B
  | [], _ => by simp
  | p :: r, h => by
    have h0 := h p List.mem_cons_self
    have ih := flatten_le (ps := r) fun x hx => h x (List.mem_cons_of_mem _ hx)
    rw [List.flatten_cons, List.length_append, List.length_cons, Nat.add_mul]
    omega

theorem mwRuns_bound : ∀ {ps : List (List Int)} {ss : List (Nat × List Int)} {b : Nat}, (∀ x ∈ ss, x.2.length ≤ b) → ∀ x ∈ (mwRuns ps ss).2, x.2.length ≤ b + ps.flatten.length
  | [], _, _, h, x, hx => by have := h x hx; simp; omega
  | p :: ps, ss, b, h, x, hx => by
    rw [mwRuns] at hx
    have := mwRuns_bound (ps := ps) (mwStep_len (p := p) h) x hx
    rw [List.flatten_cons, List.length_append]
    omega

theorem full_succ {n : Nat} {ls : List Nat} {k : Nat} (h : k < ls.length) : full n (ls.take (k + 1)) = (full n (ls.take k) || decide (ls.getD k 0 < n)) := by
  unfold full
  rw [List.take_succ_eq_append_getElem h, List.any_append]
  simp [h]

theorem takes_at : ∀ {p : List Int} {ls : List Nat} {k : Nat}, k < ls.length → (takes p ls).getD k [] = if full p.length (ls.take k) then [] else p.take (ls.getD k 0)
  | p, l :: r, 0, _ => by simp [takes, full]
  | p, l :: r, k + 1, h => by
    unfold takes
    rw [List.getD_cons_succ, List.getD_cons_succ, List.take_succ_cons]
    by_cases hl : l < p.length
    · rw [if_pos hl]
      have e : full p.length (l :: r.take k) = true := by unfold full; simp [hl]
      rw [if_pos e]
      have hk : k < r.length := by simpa using h
      simp [hk]
    · rw [if_neg hl, takes_at (by simpa using h)]
      have e : full p.length (l :: r.take k) = full p.length (r.take k) := by unfold full; simp [hl]
      rw [e]

theorem takes_length : ∀ (p : List Int) (ls : List Nat), (takes p ls).length = ls.length
  | _, [] => rfl
  | p, l :: r => by
    unfold takes
    split
    · simp
    · simp [takes_length p r]

theorem mwRuns_one (p : List Int) (ss : List (Nat × List Int)) : mwRuns [p] ss = ([(mwStep ss p).1], (mwStep ss p).2) := rfl

end Go.Proofs.YtmoecjhlonokfaaDoor
