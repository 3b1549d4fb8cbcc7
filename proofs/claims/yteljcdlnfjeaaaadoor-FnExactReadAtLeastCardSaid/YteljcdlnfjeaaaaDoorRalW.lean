/- Words for the laws on ReadAtLeast. -/
import Derived.Test.YteljcdlnfjeaaaaDoorSRal
import Derived.Test.YteljcdlnfjeaaaaDoorDrawAL
import Derived.Test.YteljcdlnfjeaaaaDoorSameG
import Derived.Test.YteljcdlnfjeaaaaDoorCopyP
import Derived.Test.YteljcdlnfjeaaaaDoorLaw
set_option linter.unusedVariables false
set_option linter.unusedSimpArgs false
namespace Go.Proofs.YteljcdlnfjeaaaaDoor
open Go.RowKit

theorem ints_two (w : World) (t : TypeId) (a b : Int) : IntsAt (fun j => w.heap.size ≤ j) (w.alloc (.cells #[.int .i64 a, .int .i64 b] t)) (some ⟨w.heap.size, 0, none⟩) [a, b] := fun _ => by
  refine ⟨w.heap.size, 0, rfl, Nat.le_refl _, by simp, fun j hj => ?_⟩
  have bl := Blk.new w t #[.int .i64 a, .int .i64 b]
  rw [Nat.zero_add, bl.cell]
  rcases j with _ | _ | j
  · rfl
  · rfl
  · simp at hj; omega

theorem validSizes_two (a b : Int) (w : World) : Calls Tryd.prog 18 #[.slice (some ⟨w.heap.size, 0, none⟩) 2 2] (w.alloc (.cells #[.int .i64 a, .int .i64 b] 3)) (SomeBool (SizesOK [a, b]) w) := by
  refine (validSizes_any (zs := [a, b]) 2 (by simp) (ints_two w 3 a b)).mono ?_
  rintro e w' ⟨v, he, hp, hb⟩
  exact ⟨v, he, hp, ((Below.refl _ _).alloc (Nat.le_refl _) _).trans (hb.mono (by simp))⟩

theorem cells_keepR {w w' : World} {b o : Nat} {v : Value} (hb : Below w.heap.size w w') (hlt : b < w.heap.size) (h : w.cell? ⟨b, o, none⟩ = some v) : w'.cell? ⟨b, o, none⟩ = some v := (hb.cell (p := ⟨b, o, none⟩) hlt).trans h

end Go.Proofs.YteljcdlnfjeaaaaDoor
