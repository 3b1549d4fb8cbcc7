/-
  DERIVED. GIVEN WITH THE SEED: THE CARDS: each row of YtbddgkmkdjkloaaDoorRows.lean that lists a variable, with what it lists TIED to the program's text (the seventh form; the later family's looks); each row that meets fmt, with fmt's text TOLD by the authors' own Lean function (tested against real Go, not proved from fmt's source: count such statements apart). THE CARD IS WHAT COUNTS. Prove the row's statement (the work); the ties are given (YtbddgkmkdjkloaaDoorTie.lean); close each card by the builder's one call (the guide's Derived/Test/ToyasCard.lean, 'card_holds'). Laid BY PROGRAM, IN A SANDBOX (cutbox-door.mjs). By AI agents, Wed Nov 11 2026. No macro, syntax, notation, axiom, sorry.
-/
import Derived.Test.YtbddgkmkdjkloaaDoorRows
import GoSem.ClaimSeven
namespace Go.Proofs.YtbddgkmkdjkloaaDoor
namespace Rows

/-- THE TIED CARD OF 'laws.FnExactLimit'. -/
def fnExactLimitCard : Claim7 := { stood := { row := fnExactLimitRow, standIns := [], harness := (true, "3996b74ca3c47e3e75295f6532c6e3e435bcd2a9885dfc7bbab5af0ad07f6bee"), looks := true }, kinds := [], alts := [], laidByText := true, laidKinds := [.sentinel, .sentinel, .sentinel, .sentinel, .sentinel, .sentinel], laidTests := true, laidLooks := .later }
def FnExactLimitCardSaid : Prop := Claim7.holds Tryd.pinned (.plain (OpenSpec.ofChange fnExactLimitSpec)) fnExactLimitCard

/-- THE TIED CARD OF 'laws.FnLimit'. -/
def fnLimitCard : Claim7 := { stood := { row := fnLimitRow, standIns := [], harness := (true, "3996b74ca3c47e3e75295f6532c6e3e435bcd2a9885dfc7bbab5af0ad07f6bee"), looks := true }, kinds := [], alts := [], laidByText := true, laidKinds := [.sentinel, .sentinel, .sentinel, .sentinel, .sentinel, .sentinel], laidTests := true, laidLooks := .later }
def FnLimitCardSaid : Prop := Claim7.holds Tryd.pinned (.plain (OpenSpec.ofChange fnLimitSpec)) fnLimitCard

/-- THE TIED CARD OF 'laws.FnLimitAll'. -/
def fnLimitAllCard : Claim7 := { stood := { row := fnLimitAllRow, standIns := [], harness := (true, "3996b74ca3c47e3e75295f6532c6e3e435bcd2a9885dfc7bbab5af0ad07f6bee"), looks := true }, kinds := [], alts := [], laidByText := true, laidKinds := [.sentinel, .sentinel, .sentinel, .sentinel, .sentinel, .sentinel], laidTests := true, laidLooks := .later }
def FnLimitAllCardSaid : Prop := Claim7.holds Tryd.pinned (.plain (OpenSpec.ofChange fnLimitAllSpec)) fnLimitAllCard

/-- THE TIED CARD OF 'laws.FnLimitData'. -/
def fnLimitDataCard : Claim7 := { stood := { row := fnLimitDataRow, standIns := [], harness := (true, "3996b74ca3c47e3e75295f6532c6e3e435bcd2a9885dfc7bbab5af0ad07f6bee"), looks := true }, kinds := [], alts := [], laidByText := true, laidKinds := [.sentinel, .sentinel, .sentinel, .sentinel, .sentinel, .sentinel], laidTests := true, laidLooks := .later }
def FnLimitDataCardSaid : Prop := Claim7.holds Tryd.pinned (.plain (OpenSpec.ofChange fnLimitDataSpec)) fnLimitDataCard

/-- THE TIED CARD OF 'laws.FnLimitEnd'. -/
def fnLimitEndCard : Claim7 := { stood := { row := fnLimitEndRow, standIns := [], harness := (true, "3996b74ca3c47e3e75295f6532c6e3e435bcd2a9885dfc7bbab5af0ad07f6bee"), looks := true }, kinds := [], alts := [], laidByText := true, laidKinds := [.sentinel, .sentinel, .sentinel, .sentinel, .sentinel, .sentinel], laidTests := true, laidLooks := .later }
def FnLimitEndCardSaid : Prop := Claim7.holds Tryd.pinned (.plain (OpenSpec.ofChange fnLimitEndSpec)) fnLimitEndCard

/-- THE TIED CARD OF 'laws.FnExactLimited'. -/
def fnExactLimitedCard : Claim7 := { stood := { row := fnExactLimitedRow, standIns := [], harness := (true, "3996b74ca3c47e3e75295f6532c6e3e435bcd2a9885dfc7bbab5af0ad07f6bee"), looks := true }, kinds := [], alts := [], laidByText := true, laidKinds := [.sentinel, .sentinel, .sentinel, .sentinel, .sentinel, .sentinel], laidTests := true, laidLooks := .later }
def FnExactLimitedCardSaid : Prop := Claim7.holds Tryd.pinned (.plain (OpenSpec.ofChange fnExactLimitedSpec)) fnExactLimitedCard

/-- THE TIED CARD OF 'laws.FnLimited'. -/
def fnLimitedCard : Claim7 := { stood := { row := fnLimitedRow, standIns := [], harness := (true, "3996b74ca3c47e3e75295f6532c6e3e435bcd2a9885dfc7bbab5af0ad07f6bee"), looks := true }, kinds := [], alts := [], laidByText := true, laidKinds := [.sentinel, .sentinel, .sentinel, .sentinel, .sentinel, .sentinel], laidTests := true, laidLooks := .later }
def FnLimitedCardSaid : Prop := Claim7.holds Tryd.pinned (.plain (OpenSpec.ofChange fnLimitedSpec)) fnLimitedCard

/-- THE TIED CARD OF 'laws.FnExactTee'. -/
def fnExactTeeCard : Claim7 := { stood := { row := fnExactTeeRow, standIns := [], harness := (true, "3996b74ca3c47e3e75295f6532c6e3e435bcd2a9885dfc7bbab5af0ad07f6bee"), looks := true }, kinds := [], alts := [], laidByText := true, laidKinds := [.sentinel, .sentinel, .sentinel, .sentinel, .sentinel, .sentinel], laidTests := true, laidLooks := .later }
def FnExactTeeCardSaid : Prop := Claim7.holds Tryd.pinned (.plain (OpenSpec.ofChange fnExactTeeSpec)) fnExactTeeCard

/-- THE TIED CARD OF 'laws.FnTee'. -/
def fnTeeCard : Claim7 := { stood := { row := fnTeeRow, standIns := [], harness := (true, "3996b74ca3c47e3e75295f6532c6e3e435bcd2a9885dfc7bbab5af0ad07f6bee"), looks := true }, kinds := [], alts := [], laidByText := true, laidKinds := [.sentinel, .sentinel, .sentinel, .sentinel, .sentinel, .sentinel], laidTests := true, laidLooks := .later }
def FnTeeCardSaid : Prop := Claim7.holds Tryd.pinned (.plain (OpenSpec.ofChange fnTeeSpec)) fnTeeCard

/-- THE TIED CARD OF 'laws.FnTeeData'. -/
def fnTeeDataCard : Claim7 := { stood := { row := fnTeeDataRow, standIns := [], harness := (true, "3996b74ca3c47e3e75295f6532c6e3e435bcd2a9885dfc7bbab5af0ad07f6bee"), looks := true }, kinds := [], alts := [], laidByText := true, laidKinds := [.sentinel, .sentinel, .sentinel, .sentinel, .sentinel, .sentinel], laidTests := true, laidLooks := .later }
def FnTeeDataCardSaid : Prop := Claim7.holds Tryd.pinned (.plain (OpenSpec.ofChange fnTeeDataSpec)) fnTeeDataCard

/-- THE TIED CARD OF 'laws.FnTeeFull'. -/
def fnTeeFullCard : Claim7 := { stood := { row := fnTeeFullRow, standIns := [], harness := (true, "3996b74ca3c47e3e75295f6532c6e3e435bcd2a9885dfc7bbab5af0ad07f6bee"), looks := true }, kinds := [], alts := [], laidByText := true, laidKinds := [.sentinel, .sentinel, .sentinel, .sentinel, .sentinel, .sentinel], laidTests := true, laidLooks := .later }
def FnTeeFullCardSaid : Prop := Claim7.holds Tryd.pinned (.plain (OpenSpec.ofChange fnTeeFullSpec)) fnTeeFullCard

/-- THE SECOND FORM's CARD OF 'laws.FnExactLimit'. -/
def fnExactLimitUptoCard : Claim7 := { stood := { row := fnExactLimitUptoRow, standIns := [], harness := (true, "3996b74ca3c47e3e75295f6532c6e3e435bcd2a9885dfc7bbab5af0ad07f6bee"), looks := true }, kinds := [], alts := [], laidByText := true, laidKinds := [.sentinel, .sentinel, .sentinel, .sentinel, .sentinel, .sentinel], laidTests := true, laidLooks := .later }
def FnExactLimitUptoCardSaid : Prop := Claim7.holds Tryd.pinned (.plain (OpenSpec.upto fnExactLimitSpec)) fnExactLimitUptoCard

/-- THE SECOND FORM's CARD OF 'laws.FnLimit'. -/
def fnLimitUptoCard : Claim7 := { stood := { row := fnLimitUptoRow, standIns := [], harness := (true, "3996b74ca3c47e3e75295f6532c6e3e435bcd2a9885dfc7bbab5af0ad07f6bee"), looks := true }, kinds := [], alts := [], laidByText := true, laidKinds := [.sentinel, .sentinel, .sentinel, .sentinel, .sentinel, .sentinel], laidTests := true, laidLooks := .later }
def FnLimitUptoCardSaid : Prop := Claim7.holds Tryd.pinned (.plain (OpenSpec.upto fnLimitSpec)) fnLimitUptoCard

/-- THE SECOND FORM's CARD OF 'laws.FnLimitAll'. -/
def fnLimitAllUptoCard : Claim7 := { stood := { row := fnLimitAllUptoRow, standIns := [], harness := (true, "3996b74ca3c47e3e75295f6532c6e3e435bcd2a9885dfc7bbab5af0ad07f6bee"), looks := true }, kinds := [], alts := [], laidByText := true, laidKinds := [.sentinel, .sentinel, .sentinel, .sentinel, .sentinel, .sentinel], laidTests := true, laidLooks := .later }
def FnLimitAllUptoCardSaid : Prop := Claim7.holds Tryd.pinned (.plain (OpenSpec.upto fnLimitAllSpec)) fnLimitAllUptoCard

/-- THE SECOND FORM's CARD OF 'laws.FnLimitData'. -/
def fnLimitDataUptoCard : Claim7 := { stood := { row := fnLimitDataUptoRow, standIns := [], harness := (true, "3996b74ca3c47e3e75295f6532c6e3e435bcd2a9885dfc7bbab5af0ad07f6bee"), looks := true }, kinds := [], alts := [], laidByText := true, laidKinds := [.sentinel, .sentinel, .sentinel, .sentinel, .sentinel, .sentinel], laidTests := true, laidLooks := .later }
def FnLimitDataUptoCardSaid : Prop := Claim7.holds Tryd.pinned (.plain (OpenSpec.upto fnLimitDataSpec)) fnLimitDataUptoCard

/-- THE SECOND FORM's CARD OF 'laws.FnLimitEnd'. -/
def fnLimitEndUptoCard : Claim7 := { stood := { row := fnLimitEndUptoRow, standIns := [], harness := (true, "3996b74ca3c47e3e75295f6532c6e3e435bcd2a9885dfc7bbab5af0ad07f6bee"), looks := true }, kinds := [], alts := [], laidByText := true, laidKinds := [.sentinel, .sentinel, .sentinel, .sentinel, .sentinel, .sentinel], laidTests := true, laidLooks := .later }
def FnLimitEndUptoCardSaid : Prop := Claim7.holds Tryd.pinned (.plain (OpenSpec.upto fnLimitEndSpec)) fnLimitEndUptoCard

/-- THE SECOND FORM's CARD OF 'laws.FnExactLimited'. -/
def fnExactLimitedUptoCard : Claim7 := { stood := { row := fnExactLimitedUptoRow, standIns := [], harness := (true, "3996b74ca3c47e3e75295f6532c6e3e435bcd2a9885dfc7bbab5af0ad07f6bee"), looks := true }, kinds := [], alts := [], laidByText := true, laidKinds := [.sentinel, .sentinel, .sentinel, .sentinel, .sentinel, .sentinel], laidTests := true, laidLooks := .later }
def FnExactLimitedUptoCardSaid : Prop := Claim7.holds Tryd.pinned (.plain (OpenSpec.upto fnExactLimitedSpec)) fnExactLimitedUptoCard

/-- THE SECOND FORM's CARD OF 'laws.FnLimited'. -/
def fnLimitedUptoCard : Claim7 := { stood := { row := fnLimitedUptoRow, standIns := [], harness := (true, "3996b74ca3c47e3e75295f6532c6e3e435bcd2a9885dfc7bbab5af0ad07f6bee"), looks := true }, kinds := [], alts := [], laidByText := true, laidKinds := [.sentinel, .sentinel, .sentinel, .sentinel, .sentinel, .sentinel], laidTests := true, laidLooks := .later }
def FnLimitedUptoCardSaid : Prop := Claim7.holds Tryd.pinned (.plain (OpenSpec.upto fnLimitedSpec)) fnLimitedUptoCard

/-- THE SECOND FORM's CARD OF 'laws.FnExactTee'. -/
def fnExactTeeUptoCard : Claim7 := { stood := { row := fnExactTeeUptoRow, standIns := [], harness := (true, "3996b74ca3c47e3e75295f6532c6e3e435bcd2a9885dfc7bbab5af0ad07f6bee"), looks := true }, kinds := [], alts := [], laidByText := true, laidKinds := [.sentinel, .sentinel, .sentinel, .sentinel, .sentinel, .sentinel], laidTests := true, laidLooks := .later }
def FnExactTeeUptoCardSaid : Prop := Claim7.holds Tryd.pinned (.plain (OpenSpec.upto fnExactTeeSpec)) fnExactTeeUptoCard

/-- THE SECOND FORM's CARD OF 'laws.FnTee'. -/
def fnTeeUptoCard : Claim7 := { stood := { row := fnTeeUptoRow, standIns := [], harness := (true, "3996b74ca3c47e3e75295f6532c6e3e435bcd2a9885dfc7bbab5af0ad07f6bee"), looks := true }, kinds := [], alts := [], laidByText := true, laidKinds := [.sentinel, .sentinel, .sentinel, .sentinel, .sentinel, .sentinel], laidTests := true, laidLooks := .later }
def FnTeeUptoCardSaid : Prop := Claim7.holds Tryd.pinned (.plain (OpenSpec.upto fnTeeSpec)) fnTeeUptoCard

/-- THE SECOND FORM's CARD OF 'laws.FnTeeData'. -/
def fnTeeDataUptoCard : Claim7 := { stood := { row := fnTeeDataUptoRow, standIns := [], harness := (true, "3996b74ca3c47e3e75295f6532c6e3e435bcd2a9885dfc7bbab5af0ad07f6bee"), looks := true }, kinds := [], alts := [], laidByText := true, laidKinds := [.sentinel, .sentinel, .sentinel, .sentinel, .sentinel, .sentinel], laidTests := true, laidLooks := .later }
def FnTeeDataUptoCardSaid : Prop := Claim7.holds Tryd.pinned (.plain (OpenSpec.upto fnTeeDataSpec)) fnTeeDataUptoCard

/-- THE SECOND FORM's CARD OF 'laws.FnTeeFull'. -/
def fnTeeFullUptoCard : Claim7 := { stood := { row := fnTeeFullUptoRow, standIns := [], harness := (true, "3996b74ca3c47e3e75295f6532c6e3e435bcd2a9885dfc7bbab5af0ad07f6bee"), looks := true }, kinds := [], alts := [], laidByText := true, laidKinds := [.sentinel, .sentinel, .sentinel, .sentinel, .sentinel, .sentinel], laidTests := true, laidLooks := .later }
def FnTeeFullUptoCardSaid : Prop := Claim7.holds Tryd.pinned (.plain (OpenSpec.upto fnTeeFullSpec)) fnTeeFullUptoCard
end Rows
end Go.Proofs.YtbddgkmkdjkloaaDoor
