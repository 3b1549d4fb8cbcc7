/- What a law's walk comes to. -/
import Derived.Test.YtmhhblfolfojbaaDoorWords
set_option linter.unusedVariables false
set_option linter.unusedSimpArgs false
namespace Go.Proofs.YtmhhblfolfojbaaDoor
open Go.RowKit

/-- a law's answer: true, and nothing that was there is changed -/
def LawPost (w : World) (e : Ending) (w' : World) : Prop := e = .returned (.bool true) ∧ Below w.heap.size w w'

end Go.Proofs.YtmhhblfolfojbaaDoor
