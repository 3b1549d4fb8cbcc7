/- What a law's walk comes to. -/
import Derived.Test.YteljcdlnfjeaaaaDoorWords
set_option linter.unusedVariables false
set_option linter.unusedSimpArgs false
namespace Go.Proofs.YteljcdlnfjeaaaaDoor
open Go.RowKit

/-- a law's answer: true, and nothing that was there is changed -/
def LawPost (w : World) (e : Ending) (w' : World) : Prop := e = .returned (.bool true) ∧ Below w.heap.size w w'

theorem cells_keep0 {w w' : World} {b : Nat} {v : Value} (hb : Below w.heap.size w w') (hlt : b < w.heap.size) (h : w.cell? ⟨b, 0, none⟩ = some v) : w'.cell? ⟨b, 0, none⟩ = some v := (hb.cell (p := ⟨b, 0, none⟩) hlt).trans h

end Go.Proofs.YteljcdlnfjeaaaaDoor
