/-
  DERIVED. GIVEN WITH THE SEED: THE CARDS: each row of YtoeihkmbbaggcaaDoorRows.lean that lists a variable, with what it lists TIED to the program's text (the seventh form; the later family's looks); each row that meets fmt, with fmt's text TOLD by the authors' own Lean function (tested against real Go, not proved from fmt's source: count such statements apart). THE CARD IS WHAT COUNTS. Prove the row's statement (the work); the ties are given (YtoeihkmbbaggcaaDoorTie.lean); close each card by the builder's one call (the guide's Derived/Test/ToyasCard.lean, 'card_holds'). Laid BY PROGRAM, IN A SANDBOX (cutbox-door.mjs). By AI agents, Wed Nov 11 2026. No macro, syntax, notation, axiom, sorry.
-/
import Derived.Test.YtoeihkmbbaggcaaDoorRows
import GoSem.ClaimSeven
namespace Go.Proofs.YtoeihkmbbaggcaaDoor
namespace Rows

/-- THE TIED CARD OF 'laws.FnCopy'. -/
def fnCopyCard : Claim7 := { stood := { row := fnCopyRow, standIns := [], harness := (true, "19d02dcc298f1b28c1c685a5071e3e5514bfdda1c7ed65c415f79d48e5887a44"), looks := true }, kinds := [], alts := [], laidByText := true, laidKinds := [.sentinel, .sentinel, .sentinel, .sentinel, .sentinel, .sentinel, .sentinel], laidTests := true, laidLooks := .later }
def FnCopyCardSaid : Prop := Claim7.holds Tryd.pinned (.plain (OpenSpec.ofChange fnCopySpec)) fnCopyCard

/-- THE TIED CARD OF 'laws.FnExactCopy'. -/
def fnExactCopyCard : Claim7 := { stood := { row := fnExactCopyRow, standIns := [], harness := (true, "19d02dcc298f1b28c1c685a5071e3e5514bfdda1c7ed65c415f79d48e5887a44"), looks := true }, kinds := [], alts := [], laidByText := true, laidKinds := [.sentinel, .sentinel, .sentinel, .sentinel, .sentinel, .sentinel, .sentinel], laidTests := true, laidLooks := .later }
def FnExactCopyCardSaid : Prop := Claim7.holds Tryd.pinned (.plain (OpenSpec.ofChange fnExactCopySpec)) fnExactCopyCard

/-- THE TIED CARD OF 'laws.FnExactReadFull'. -/
def fnExactReadFullCard : Claim7 := { stood := { row := fnExactReadFullRow, standIns := [], harness := (true, "19d02dcc298f1b28c1c685a5071e3e5514bfdda1c7ed65c415f79d48e5887a44"), looks := true }, kinds := [], alts := [], laidByText := true, laidKinds := [.sentinel, .sentinel, .sentinel, .sentinel, .sentinel, .sentinel], laidTests := true, laidLooks := .later }
def FnExactReadFullCardSaid : Prop := Claim7.holds Tryd.pinned (.plain (OpenSpec.ofChange fnExactReadFullSpec)) fnExactReadFullCard

/-- THE TIED CARD OF 'laws.FnReadFull'. -/
def fnReadFullCard : Claim7 := { stood := { row := fnReadFullRow, standIns := [], harness := (true, "19d02dcc298f1b28c1c685a5071e3e5514bfdda1c7ed65c415f79d48e5887a44"), looks := true }, kinds := [], alts := [], laidByText := true, laidKinds := [.sentinel, .sentinel, .sentinel, .sentinel, .sentinel, .sentinel], laidTests := true, laidLooks := .later }
def FnReadFullCardSaid : Prop := Claim7.holds Tryd.pinned (.plain (OpenSpec.ofChange fnReadFullSpec)) fnReadFullCard

/-- THE TIED CARD OF 'laws.FnReadFullIff'. -/
def fnReadFullIffCard : Claim7 := { stood := { row := fnReadFullIffRow, standIns := [], harness := (true, "19d02dcc298f1b28c1c685a5071e3e5514bfdda1c7ed65c415f79d48e5887a44"), looks := true }, kinds := [], alts := [], laidByText := true, laidKinds := [.sentinel, .sentinel, .sentinel, .sentinel, .sentinel, .sentinel], laidTests := true, laidLooks := .later }
def FnReadFullIffCardSaid : Prop := Claim7.holds Tryd.pinned (.plain (OpenSpec.ofChange fnReadFullIffSpec)) fnReadFullIffCard

/-- THE TIED CARD OF 'laws.FnReadFullJoin'. -/
def fnReadFullJoinCard : Claim7 := { stood := { row := fnReadFullJoinRow, standIns := [], harness := (true, "19d02dcc298f1b28c1c685a5071e3e5514bfdda1c7ed65c415f79d48e5887a44"), looks := true }, kinds := [], alts := [], laidByText := true, laidKinds := [.sentinel, .sentinel, .sentinel, .sentinel, .sentinel, .sentinel], laidTests := true, laidLooks := .later }
def FnReadFullJoinCardSaid : Prop := Claim7.holds Tryd.pinned (.plain (OpenSpec.ofChange fnReadFullJoinSpec)) fnReadFullJoinCard

/-- THE SECOND FORM's CARD OF 'laws.FnCopy'. -/
def fnCopyUptoCard : Claim7 := { stood := { row := fnCopyUptoRow, standIns := [], harness := (true, "19d02dcc298f1b28c1c685a5071e3e5514bfdda1c7ed65c415f79d48e5887a44"), looks := true }, kinds := [], alts := [], laidByText := true, laidKinds := [.sentinel, .sentinel, .sentinel, .sentinel, .sentinel, .sentinel, .sentinel], laidTests := true, laidLooks := .later }
def FnCopyUptoCardSaid : Prop := Claim7.holds Tryd.pinned (.plain (OpenSpec.upto fnCopySpec)) fnCopyUptoCard

/-- THE SECOND FORM's CARD OF 'laws.FnExactCopy'. -/
def fnExactCopyUptoCard : Claim7 := { stood := { row := fnExactCopyUptoRow, standIns := [], harness := (true, "19d02dcc298f1b28c1c685a5071e3e5514bfdda1c7ed65c415f79d48e5887a44"), looks := true }, kinds := [], alts := [], laidByText := true, laidKinds := [.sentinel, .sentinel, .sentinel, .sentinel, .sentinel, .sentinel, .sentinel], laidTests := true, laidLooks := .later }
def FnExactCopyUptoCardSaid : Prop := Claim7.holds Tryd.pinned (.plain (OpenSpec.upto fnExactCopySpec)) fnExactCopyUptoCard

/-- THE SECOND FORM's CARD OF 'laws.FnExactReadFull'. -/
def fnExactReadFullUptoCard : Claim7 := { stood := { row := fnExactReadFullUptoRow, standIns := [], harness := (true, "19d02dcc298f1b28c1c685a5071e3e5514bfdda1c7ed65c415f79d48e5887a44"), looks := true }, kinds := [], alts := [], laidByText := true, laidKinds := [.sentinel, .sentinel, .sentinel, .sentinel, .sentinel, .sentinel], laidTests := true, laidLooks := .later }
def FnExactReadFullUptoCardSaid : Prop := Claim7.holds Tryd.pinned (.plain (OpenSpec.upto fnExactReadFullSpec)) fnExactReadFullUptoCard

/-- THE SECOND FORM's CARD OF 'laws.FnReadFull'. -/
def fnReadFullUptoCard : Claim7 := { stood := { row := fnReadFullUptoRow, standIns := [], harness := (true, "19d02dcc298f1b28c1c685a5071e3e5514bfdda1c7ed65c415f79d48e5887a44"), looks := true }, kinds := [], alts := [], laidByText := true, laidKinds := [.sentinel, .sentinel, .sentinel, .sentinel, .sentinel, .sentinel], laidTests := true, laidLooks := .later }
def FnReadFullUptoCardSaid : Prop := Claim7.holds Tryd.pinned (.plain (OpenSpec.upto fnReadFullSpec)) fnReadFullUptoCard

/-- THE SECOND FORM's CARD OF 'laws.FnReadFullIff'. -/
def fnReadFullIffUptoCard : Claim7 := { stood := { row := fnReadFullIffUptoRow, standIns := [], harness := (true, "19d02dcc298f1b28c1c685a5071e3e5514bfdda1c7ed65c415f79d48e5887a44"), looks := true }, kinds := [], alts := [], laidByText := true, laidKinds := [.sentinel, .sentinel, .sentinel, .sentinel, .sentinel, .sentinel], laidTests := true, laidLooks := .later }
def FnReadFullIffUptoCardSaid : Prop := Claim7.holds Tryd.pinned (.plain (OpenSpec.upto fnReadFullIffSpec)) fnReadFullIffUptoCard

/-- THE SECOND FORM's CARD OF 'laws.FnReadFullJoin'. -/
def fnReadFullJoinUptoCard : Claim7 := { stood := { row := fnReadFullJoinUptoRow, standIns := [], harness := (true, "19d02dcc298f1b28c1c685a5071e3e5514bfdda1c7ed65c415f79d48e5887a44"), looks := true }, kinds := [], alts := [], laidByText := true, laidKinds := [.sentinel, .sentinel, .sentinel, .sentinel, .sentinel, .sentinel], laidTests := true, laidLooks := .later }
def FnReadFullJoinUptoCardSaid : Prop := Claim7.holds Tryd.pinned (.plain (OpenSpec.upto fnReadFullJoinSpec)) fnReadFullJoinUptoCard
end Rows
end Go.Proofs.YtoeihkmbbaggcaaDoor
