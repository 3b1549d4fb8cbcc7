/-
  DERIVED. GIVEN WITH THE SEED: THE CARDS: each row of YteljcdlnfjeaaaaDoorRows.lean that lists a variable, with what it lists TIED to the program's text (the seventh form; the later family's looks); each row that meets fmt, with fmt's text TOLD by the authors' own Lean function (tested against real Go, not proved from fmt's source: count such statements apart). THE CARD IS WHAT COUNTS. Prove the row's statement (the work); the ties are given (YteljcdlnfjeaaaaDoorTie.lean); close each card by the builder's one call (the guide's Derived/Test/ToyasCard.lean, 'card_holds'). Laid BY PROGRAM, IN A SANDBOX (cutbox-door.mjs). By AI agents, Wed Nov 11 2026. No macro, syntax, notation, axiom, sorry.
-/
import Derived.Test.YteljcdlnfjeaaaaDoorRows
import GoSem.ClaimSeven
namespace Go.Proofs.YteljcdlnfjeaaaaDoor
namespace Rows

/-- THE TIED CARD OF 'laws.FnCopyN'. -/
def fnCopyNCard : Claim7 := { stood := { row := fnCopyNRow, standIns := [], harness := (true, "028b55b9f2fe1b22222a864a433ae82e62f1494aa7efa1d9f7662fc3e61cffe8"), looks := true }, kinds := [], alts := [], laidByText := true, laidKinds := [.sentinel, .sentinel, .sentinel, .sentinel, .sentinel, .sentinel, .sentinel], laidTests := true, laidLooks := .later }
def FnCopyNCardSaid : Prop := Claim7.holds Tryd.pinned (.plain (OpenSpec.ofChange fnCopyNSpec)) fnCopyNCard

/-- THE TIED CARD OF 'laws.FnCopyNIff'. -/
def fnCopyNIffCard : Claim7 := { stood := { row := fnCopyNIffRow, standIns := [], harness := (true, "028b55b9f2fe1b22222a864a433ae82e62f1494aa7efa1d9f7662fc3e61cffe8"), looks := true }, kinds := [], alts := [], laidByText := true, laidKinds := [.sentinel, .sentinel, .sentinel, .sentinel, .sentinel, .sentinel, .sentinel], laidTests := true, laidLooks := .later }
def FnCopyNIffCardSaid : Prop := Claim7.holds Tryd.pinned (.plain (OpenSpec.ofChange fnCopyNIffSpec)) fnCopyNIffCard

/-- THE TIED CARD OF 'laws.FnExactCopyN'. -/
def fnExactCopyNCard : Claim7 := { stood := { row := fnExactCopyNRow, standIns := [], harness := (true, "028b55b9f2fe1b22222a864a433ae82e62f1494aa7efa1d9f7662fc3e61cffe8"), looks := true }, kinds := [], alts := [], laidByText := true, laidKinds := [.sentinel, .sentinel, .sentinel, .sentinel, .sentinel, .sentinel, .sentinel], laidTests := true, laidLooks := .later }
def FnExactCopyNCardSaid : Prop := Claim7.holds Tryd.pinned (.plain (OpenSpec.ofChange fnExactCopyNSpec)) fnExactCopyNCard

/-- THE TIED CARD OF 'laws.FnExactReadAtLeast'. -/
def fnExactReadAtLeastCard : Claim7 := { stood := { row := fnExactReadAtLeastRow, standIns := [], harness := (true, "028b55b9f2fe1b22222a864a433ae82e62f1494aa7efa1d9f7662fc3e61cffe8"), looks := true }, kinds := [], alts := [], laidByText := true, laidKinds := [.sentinel, .sentinel, .sentinel, .sentinel, .sentinel, .sentinel], laidTests := true, laidLooks := .later }
def FnExactReadAtLeastCardSaid : Prop := Claim7.holds Tryd.pinned (.plain (OpenSpec.ofChange fnExactReadAtLeastSpec)) fnExactReadAtLeastCard

/-- THE TIED CARD OF 'laws.FnReadAtLeast'. -/
def fnReadAtLeastCard : Claim7 := { stood := { row := fnReadAtLeastRow, standIns := [], harness := (true, "028b55b9f2fe1b22222a864a433ae82e62f1494aa7efa1d9f7662fc3e61cffe8"), looks := true }, kinds := [], alts := [], laidByText := true, laidKinds := [.sentinel, .sentinel, .sentinel, .sentinel, .sentinel, .sentinel], laidTests := true, laidLooks := .later }
def FnReadAtLeastCardSaid : Prop := Claim7.holds Tryd.pinned (.plain (OpenSpec.ofChange fnReadAtLeastSpec)) fnReadAtLeastCard

/-- THE TIED CARD OF 'laws.FnReadAtLeastIff'. -/
def fnReadAtLeastIffCard : Claim7 := { stood := { row := fnReadAtLeastIffRow, standIns := [], harness := (true, "028b55b9f2fe1b22222a864a433ae82e62f1494aa7efa1d9f7662fc3e61cffe8"), looks := true }, kinds := [], alts := [], laidByText := true, laidKinds := [.sentinel, .sentinel, .sentinel, .sentinel, .sentinel, .sentinel], laidTests := true, laidLooks := .later }
def FnReadAtLeastIffCardSaid : Prop := Claim7.holds Tryd.pinned (.plain (OpenSpec.ofChange fnReadAtLeastIffSpec)) fnReadAtLeastIffCard

/-- THE TIED CARD OF 'laws.FnCopyNFull'. -/
def fnCopyNFullCard : Claim7 := { stood := { row := fnCopyNFullRow, standIns := [], harness := (true, "028b55b9f2fe1b22222a864a433ae82e62f1494aa7efa1d9f7662fc3e61cffe8"), looks := true }, kinds := [], alts := [], laidByText := true, laidKinds := [.sentinel, .sentinel, .sentinel, .sentinel, .sentinel, .sentinel, .sentinel], laidTests := true, laidLooks := .later }
def FnCopyNFullCardSaid : Prop := Claim7.holds Tryd.pinned (.plain (OpenSpec.ofChange fnCopyNFullSpec)) fnCopyNFullCard

/-- THE TIED CARD OF 'laws.FnReadAtLeastFull'. -/
def fnReadAtLeastFullCard : Claim7 := { stood := { row := fnReadAtLeastFullRow, standIns := [], harness := (true, "028b55b9f2fe1b22222a864a433ae82e62f1494aa7efa1d9f7662fc3e61cffe8"), looks := true }, kinds := [], alts := [], laidByText := true, laidKinds := [.sentinel, .sentinel, .sentinel, .sentinel, .sentinel, .sentinel], laidTests := true, laidLooks := .later }
def FnReadAtLeastFullCardSaid : Prop := Claim7.holds Tryd.pinned (.plain (OpenSpec.ofChange fnReadAtLeastFullSpec)) fnReadAtLeastFullCard

/-- THE TIED CARD OF 'laws.FnReadAtLeastNext'. -/
def fnReadAtLeastNextCard : Claim7 := { stood := { row := fnReadAtLeastNextRow, standIns := [], harness := (true, "028b55b9f2fe1b22222a864a433ae82e62f1494aa7efa1d9f7662fc3e61cffe8"), looks := true }, kinds := [], alts := [], laidByText := true, laidKinds := [.sentinel, .sentinel, .sentinel, .sentinel, .sentinel, .sentinel], laidTests := true, laidLooks := .later }
def FnReadAtLeastNextCardSaid : Prop := Claim7.holds Tryd.pinned (.plain (OpenSpec.ofChange fnReadAtLeastNextSpec)) fnReadAtLeastNextCard

/-- THE TIED CARD OF 'laws.FnCopyRoads'. -/
def fnCopyRoadsCard : Claim7 := { stood := { row := fnCopyRoadsRow, standIns := [], harness := (true, "028b55b9f2fe1b22222a864a433ae82e62f1494aa7efa1d9f7662fc3e61cffe8"), looks := true }, kinds := [], alts := [], laidByText := true, laidKinds := [.sentinel, .sentinel, .sentinel, .sentinel, .sentinel, .sentinel, .sentinel], laidTests := true, laidLooks := .later }
def FnCopyRoadsCardSaid : Prop := Claim7.holds Tryd.pinned (.plain (OpenSpec.ofChange fnCopyRoadsSpec)) fnCopyRoadsCard

/-- THE SECOND FORM's CARD OF 'laws.FnCopyN'. -/
def fnCopyNUptoCard : Claim7 := { stood := { row := fnCopyNUptoRow, standIns := [], harness := (true, "028b55b9f2fe1b22222a864a433ae82e62f1494aa7efa1d9f7662fc3e61cffe8"), looks := true }, kinds := [], alts := [], laidByText := true, laidKinds := [.sentinel, .sentinel, .sentinel, .sentinel, .sentinel, .sentinel, .sentinel], laidTests := true, laidLooks := .later }
def FnCopyNUptoCardSaid : Prop := Claim7.holds Tryd.pinned (.plain (OpenSpec.upto fnCopyNSpec)) fnCopyNUptoCard

/-- THE SECOND FORM's CARD OF 'laws.FnCopyNIff'. -/
def fnCopyNIffUptoCard : Claim7 := { stood := { row := fnCopyNIffUptoRow, standIns := [], harness := (true, "028b55b9f2fe1b22222a864a433ae82e62f1494aa7efa1d9f7662fc3e61cffe8"), looks := true }, kinds := [], alts := [], laidByText := true, laidKinds := [.sentinel, .sentinel, .sentinel, .sentinel, .sentinel, .sentinel, .sentinel], laidTests := true, laidLooks := .later }
def FnCopyNIffUptoCardSaid : Prop := Claim7.holds Tryd.pinned (.plain (OpenSpec.upto fnCopyNIffSpec)) fnCopyNIffUptoCard

/-- THE SECOND FORM's CARD OF 'laws.FnExactCopyN'. -/
def fnExactCopyNUptoCard : Claim7 := { stood := { row := fnExactCopyNUptoRow, standIns := [], harness := (true, "028b55b9f2fe1b22222a864a433ae82e62f1494aa7efa1d9f7662fc3e61cffe8"), looks := true }, kinds := [], alts := [], laidByText := true, laidKinds := [.sentinel, .sentinel, .sentinel, .sentinel, .sentinel, .sentinel, .sentinel], laidTests := true, laidLooks := .later }
def FnExactCopyNUptoCardSaid : Prop := Claim7.holds Tryd.pinned (.plain (OpenSpec.upto fnExactCopyNSpec)) fnExactCopyNUptoCard

/-- THE SECOND FORM's CARD OF 'laws.FnExactReadAtLeast'. -/
def fnExactReadAtLeastUptoCard : Claim7 := { stood := { row := fnExactReadAtLeastUptoRow, standIns := [], harness := (true, "028b55b9f2fe1b22222a864a433ae82e62f1494aa7efa1d9f7662fc3e61cffe8"), looks := true }, kinds := [], alts := [], laidByText := true, laidKinds := [.sentinel, .sentinel, .sentinel, .sentinel, .sentinel, .sentinel], laidTests := true, laidLooks := .later }
def FnExactReadAtLeastUptoCardSaid : Prop := Claim7.holds Tryd.pinned (.plain (OpenSpec.upto fnExactReadAtLeastSpec)) fnExactReadAtLeastUptoCard

/-- THE SECOND FORM's CARD OF 'laws.FnReadAtLeast'. -/
def fnReadAtLeastUptoCard : Claim7 := { stood := { row := fnReadAtLeastUptoRow, standIns := [], harness := (true, "028b55b9f2fe1b22222a864a433ae82e62f1494aa7efa1d9f7662fc3e61cffe8"), looks := true }, kinds := [], alts := [], laidByText := true, laidKinds := [.sentinel, .sentinel, .sentinel, .sentinel, .sentinel, .sentinel], laidTests := true, laidLooks := .later }
def FnReadAtLeastUptoCardSaid : Prop := Claim7.holds Tryd.pinned (.plain (OpenSpec.upto fnReadAtLeastSpec)) fnReadAtLeastUptoCard

/-- THE SECOND FORM's CARD OF 'laws.FnReadAtLeastIff'. -/
def fnReadAtLeastIffUptoCard : Claim7 := { stood := { row := fnReadAtLeastIffUptoRow, standIns := [], harness := (true, "028b55b9f2fe1b22222a864a433ae82e62f1494aa7efa1d9f7662fc3e61cffe8"), looks := true }, kinds := [], alts := [], laidByText := true, laidKinds := [.sentinel, .sentinel, .sentinel, .sentinel, .sentinel, .sentinel], laidTests := true, laidLooks := .later }
def FnReadAtLeastIffUptoCardSaid : Prop := Claim7.holds Tryd.pinned (.plain (OpenSpec.upto fnReadAtLeastIffSpec)) fnReadAtLeastIffUptoCard

/-- THE SECOND FORM's CARD OF 'laws.FnCopyNFull'. -/
def fnCopyNFullUptoCard : Claim7 := { stood := { row := fnCopyNFullUptoRow, standIns := [], harness := (true, "028b55b9f2fe1b22222a864a433ae82e62f1494aa7efa1d9f7662fc3e61cffe8"), looks := true }, kinds := [], alts := [], laidByText := true, laidKinds := [.sentinel, .sentinel, .sentinel, .sentinel, .sentinel, .sentinel, .sentinel], laidTests := true, laidLooks := .later }
def FnCopyNFullUptoCardSaid : Prop := Claim7.holds Tryd.pinned (.plain (OpenSpec.upto fnCopyNFullSpec)) fnCopyNFullUptoCard

/-- THE SECOND FORM's CARD OF 'laws.FnReadAtLeastFull'. -/
def fnReadAtLeastFullUptoCard : Claim7 := { stood := { row := fnReadAtLeastFullUptoRow, standIns := [], harness := (true, "028b55b9f2fe1b22222a864a433ae82e62f1494aa7efa1d9f7662fc3e61cffe8"), looks := true }, kinds := [], alts := [], laidByText := true, laidKinds := [.sentinel, .sentinel, .sentinel, .sentinel, .sentinel, .sentinel], laidTests := true, laidLooks := .later }
def FnReadAtLeastFullUptoCardSaid : Prop := Claim7.holds Tryd.pinned (.plain (OpenSpec.upto fnReadAtLeastFullSpec)) fnReadAtLeastFullUptoCard

/-- THE SECOND FORM's CARD OF 'laws.FnReadAtLeastNext'. -/
def fnReadAtLeastNextUptoCard : Claim7 := { stood := { row := fnReadAtLeastNextUptoRow, standIns := [], harness := (true, "028b55b9f2fe1b22222a864a433ae82e62f1494aa7efa1d9f7662fc3e61cffe8"), looks := true }, kinds := [], alts := [], laidByText := true, laidKinds := [.sentinel, .sentinel, .sentinel, .sentinel, .sentinel, .sentinel], laidTests := true, laidLooks := .later }
def FnReadAtLeastNextUptoCardSaid : Prop := Claim7.holds Tryd.pinned (.plain (OpenSpec.upto fnReadAtLeastNextSpec)) fnReadAtLeastNextUptoCard

/-- THE SECOND FORM's CARD OF 'laws.FnCopyRoads'. -/
def fnCopyRoadsUptoCard : Claim7 := { stood := { row := fnCopyRoadsUptoRow, standIns := [], harness := (true, "028b55b9f2fe1b22222a864a433ae82e62f1494aa7efa1d9f7662fc3e61cffe8"), looks := true }, kinds := [], alts := [], laidByText := true, laidKinds := [.sentinel, .sentinel, .sentinel, .sentinel, .sentinel, .sentinel, .sentinel], laidTests := true, laidLooks := .later }
def FnCopyRoadsUptoCardSaid : Prop := Claim7.holds Tryd.pinned (.plain (OpenSpec.upto fnCopyRoadsSpec)) fnCopyRoadsUptoCard
end Rows
end Go.Proofs.YteljcdlnfjeaaaaDoor
