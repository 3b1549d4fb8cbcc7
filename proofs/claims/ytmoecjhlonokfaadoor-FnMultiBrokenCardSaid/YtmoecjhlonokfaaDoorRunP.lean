/- Plain laws of reads one behind the other. -/
import Derived.Test.YtmoecjhlonokfaaDoorScript
import Derived.Test.YtmoecjhlonokfaaDoorCopyP
set_option linter.unusedVariables false
set_option linter.unusedSimpArgs false
namespace Go.Proofs.YtmoecjhlonokfaaDoor

theorem rdruns_join (L : Int) : ∀ (zs : List Int) (st : List (List Int × Int)), joinD (runs (rd L) zs st).1 ++ joinD (runs (rd L) zs st).2 = joinD st
  | [], s => by simp [runs, joinD]
  | z :: zs, s => by
    rw [runs, joinD_cons]
    simp only
    rw [List.append_assoc, rdruns_join L zs, rd_join]

theorem runs_lens {τ : Type} {step : τ → Nat → (List Int × Int) × τ} (hl : ∀ t m, (step t m).1.1.length ≤ m) {zs : List Int} {t : τ} (hz : SizesOK zs) : ∀ i, i < (runs step zs t).1.length → (dat (runs step zs t).1 i).length ≤ 1048576 := fun i hi => by
  rw [runs_length] at hi
  have h1 := runs_small step hl zs t i hi
  have h2 := (hz.1 i hi).2
  have h3 : nth zs i = zs.getD i 0 := rfl
  omega

end Go.Proofs.YtmoecjhlonokfaaDoor
