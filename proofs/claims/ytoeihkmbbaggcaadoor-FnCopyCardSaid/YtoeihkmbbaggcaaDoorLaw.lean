/- What a law's walk comes to. -/
import Derived.Test.YtoeihkmbbaggcaaDoorWords
set_option linter.unusedVariables false
set_option linter.unusedSimpArgs false
namespace Go.Proofs.YtoeihkmbbaggcaaDoor
open Go.RowKit

/-- a law's answer: true, and nothing that was there is changed -/
def LawPost (w : World) (e : Ending) (w' : World) : Prop := e = .returned (.bool true) ∧ Below w.heap.size w w'

end Go.Proofs.YtoeihkmbbaggcaaDoor
