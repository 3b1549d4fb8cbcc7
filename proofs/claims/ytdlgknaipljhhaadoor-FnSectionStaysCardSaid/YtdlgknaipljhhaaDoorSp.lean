/- The reference's source as a state: what is left of it, and how it ends; what one read of it gives. -/
import Derived.Test.YtdlgknaipljhhaaDoorFull
import Derived.Deep.RegionHeld3
set_option linter.unusedVariables false
set_option linter.unusedSimpArgs false
namespace Go.Proofs.YtdlgknaipljhhaaDoor
open Go.RowKit

theorem own_kept {D : Nat → Prop} {w w' : World} {base : Nat} {e : TypeId} {size : Nat} {v : Value} {n : Nat} {xs : List Value} (h : w.ownsRow base e size v n xs) (hk : Kept D w w') (hd : ∀ g, base ≤ g → g < w.heap.size → ¬ D g) : w'.ownsRow base e size v n xs := by
  refine ⟨h.1, ?_⟩
  rcases h.2 with h2 | ⟨g, cap, cur, hv, hg, hh, r⟩
  · exact Or.inl h2
  · have hlt := (Array.getElem?_eq_some_iff.1 hh).1
    exact Or.inr ⟨g, cap, cur, hv, hg, by rw [hk.block g hlt (hd g hg hlt)]; exact hh, r⟩

end Go.Proofs.YtdlgknaipljhhaaDoor
