/-
  DERIVED. GIVEN WITH THE SEED: THE CARDS: each row of YtmoecjhlonokfaaDoorRows.lean that lists a variable, with what it lists TIED to the program's text (the seventh form; the later family's looks); each row that meets fmt, with fmt's text TOLD by the authors' own Lean function (tested against real Go, not proved from fmt's source: count such statements apart). THE CARD IS WHAT COUNTS. Prove the row's statement (the work); the ties are given (YtmoecjhlonokfaaDoorTie.lean); close each card by the builder's one call (the guide's Derived/Test/ToyasCard.lean, 'card_holds'). Laid BY PROGRAM, IN A SANDBOX (cutbox-door.mjs). By AI agents, Wed Nov 11 2026. No macro, syntax, notation, axiom, sorry.
-/
import Derived.Test.YtmoecjhlonokfaaDoorRows
import GoSem.ClaimSeven
namespace Go.Proofs.YtmoecjhlonokfaaDoor
namespace Rows

/-- THE TIED CARD OF 'laws.FnExactMultiWriter'. -/
def fnExactMultiWriterCard : Claim7 := { stood := { row := fnExactMultiWriterRow, standIns := [], harness := (true, "9045fbe03a4655f72ddbd8b9521c77dabd54e9c971c60bfa427c524db7e101fe"), looks := true }, kinds := [], alts := [], laidByText := true, laidKinds := [.sentinel, .sentinel, .sentinel, .sentinel, .sentinel, .sentinel], laidTests := true, laidLooks := .later }
def FnExactMultiWriterCardSaid : Prop := Claim7.holds Tryd.pinned (.plain (OpenSpec.ofChange fnExactMultiWriterSpec)) fnExactMultiWriterCard

/-- THE TIED CARD OF 'laws.FnMultiWriter'. -/
def fnMultiWriterCard : Claim7 := { stood := { row := fnMultiWriterRow, standIns := [], harness := (true, "9045fbe03a4655f72ddbd8b9521c77dabd54e9c971c60bfa427c524db7e101fe"), looks := true }, kinds := [], alts := [], laidByText := true, laidKinds := [.sentinel, .sentinel, .sentinel, .sentinel, .sentinel, .sentinel], laidTests := true, laidLooks := .later }
def FnMultiWriterCardSaid : Prop := Claim7.holds Tryd.pinned (.plain (OpenSpec.ofChange fnMultiWriterSpec)) fnMultiWriterCard

/-- THE TIED CARD OF 'laws.FnMultiWriterAll'. -/
def fnMultiWriterAllCard : Claim7 := { stood := { row := fnMultiWriterAllRow, standIns := [], harness := (true, "9045fbe03a4655f72ddbd8b9521c77dabd54e9c971c60bfa427c524db7e101fe"), looks := true }, kinds := [], alts := [], laidByText := true, laidKinds := [.sentinel, .sentinel, .sentinel, .sentinel, .sentinel, .sentinel], laidTests := true, laidLooks := .later }
def FnMultiWriterAllCardSaid : Prop := Claim7.holds Tryd.pinned (.plain (OpenSpec.ofChange fnMultiWriterAllSpec)) fnMultiWriterAllCard

/-- THE TIED CARD OF 'laws.FnMultiWriterStop'. -/
def fnMultiWriterStopCard : Claim7 := { stood := { row := fnMultiWriterStopRow, standIns := [], harness := (true, "9045fbe03a4655f72ddbd8b9521c77dabd54e9c971c60bfa427c524db7e101fe"), looks := true }, kinds := [], alts := [], laidByText := true, laidKinds := [.sentinel, .sentinel, .sentinel, .sentinel, .sentinel, .sentinel], laidTests := true, laidLooks := .later }
def FnMultiWriterStopCardSaid : Prop := Claim7.holds Tryd.pinned (.plain (OpenSpec.ofChange fnMultiWriterStopSpec)) fnMultiWriterStopCard

/-- THE TIED CARD OF 'laws.FnExactMulti'. -/
def fnExactMultiCard : Claim7 := { stood := { row := fnExactMultiRow, standIns := [], harness := (true, "9045fbe03a4655f72ddbd8b9521c77dabd54e9c971c60bfa427c524db7e101fe"), looks := true }, kinds := [], alts := [], laidByText := true, laidKinds := [.sentinel, .sentinel, .sentinel, .sentinel, .sentinel, .sentinel], laidTests := true, laidLooks := .later }
def FnExactMultiCardSaid : Prop := Claim7.holds Tryd.pinned (.plain (OpenSpec.ofChange fnExactMultiSpec)) fnExactMultiCard

/-- THE TIED CARD OF 'laws.FnMulti'. -/
def fnMultiCard : Claim7 := { stood := { row := fnMultiRow, standIns := [], harness := (true, "9045fbe03a4655f72ddbd8b9521c77dabd54e9c971c60bfa427c524db7e101fe"), looks := true }, kinds := [], alts := [], laidByText := true, laidKinds := [.sentinel, .sentinel, .sentinel, .sentinel, .sentinel, .sentinel], laidTests := true, laidLooks := .later }
def FnMultiCardSaid : Prop := Claim7.holds Tryd.pinned (.plain (OpenSpec.ofChange fnMultiSpec)) fnMultiCard

/-- THE TIED CARD OF 'laws.FnMultiBroken'. -/
def fnMultiBrokenCard : Claim7 := { stood := { row := fnMultiBrokenRow, standIns := [], harness := (true, "9045fbe03a4655f72ddbd8b9521c77dabd54e9c971c60bfa427c524db7e101fe"), looks := true }, kinds := [], alts := [], laidByText := true, laidKinds := [.sentinel, .sentinel, .sentinel, .sentinel, .sentinel, .sentinel], laidTests := true, laidLooks := .later }
def FnMultiBrokenCardSaid : Prop := Claim7.holds Tryd.pinned (.plain (OpenSpec.ofChange fnMultiBrokenSpec)) fnMultiBrokenCard

/-- THE TIED CARD OF 'laws.FnMultiData'. -/
def fnMultiDataCard : Claim7 := { stood := { row := fnMultiDataRow, standIns := [], harness := (true, "9045fbe03a4655f72ddbd8b9521c77dabd54e9c971c60bfa427c524db7e101fe"), looks := true }, kinds := [], alts := [], laidByText := true, laidKinds := [.sentinel, .sentinel, .sentinel, .sentinel, .sentinel, .sentinel], laidTests := true, laidLooks := .later }
def FnMultiDataCardSaid : Prop := Claim7.holds Tryd.pinned (.plain (OpenSpec.ofChange fnMultiDataSpec)) fnMultiDataCard

/-- THE TIED CARD OF 'laws.FnMultiNone'. -/
def fnMultiNoneCard : Claim7 := { stood := { row := fnMultiNoneRow, standIns := [], harness := (true, "9045fbe03a4655f72ddbd8b9521c77dabd54e9c971c60bfa427c524db7e101fe"), looks := true }, kinds := [], alts := [], laidByText := true, laidKinds := [.sentinel, .sentinel, .sentinel, .sentinel, .sentinel, .sentinel], laidTests := true, laidLooks := .later }
def FnMultiNoneCardSaid : Prop := Claim7.holds Tryd.pinned (.plain (OpenSpec.ofChange fnMultiNoneSpec)) fnMultiNoneCard

/-- THE SECOND FORM's CARD OF 'laws.FnExactMultiWriter'. -/
def fnExactMultiWriterUptoCard : Claim7 := { stood := { row := fnExactMultiWriterUptoRow, standIns := [], harness := (true, "9045fbe03a4655f72ddbd8b9521c77dabd54e9c971c60bfa427c524db7e101fe"), looks := true }, kinds := [], alts := [], laidByText := true, laidKinds := [.sentinel, .sentinel, .sentinel, .sentinel, .sentinel, .sentinel], laidTests := true, laidLooks := .later }
def FnExactMultiWriterUptoCardSaid : Prop := Claim7.holds Tryd.pinned (.plain (OpenSpec.upto fnExactMultiWriterSpec)) fnExactMultiWriterUptoCard

/-- THE SECOND FORM's CARD OF 'laws.FnMultiWriter'. -/
def fnMultiWriterUptoCard : Claim7 := { stood := { row := fnMultiWriterUptoRow, standIns := [], harness := (true, "9045fbe03a4655f72ddbd8b9521c77dabd54e9c971c60bfa427c524db7e101fe"), looks := true }, kinds := [], alts := [], laidByText := true, laidKinds := [.sentinel, .sentinel, .sentinel, .sentinel, .sentinel, .sentinel], laidTests := true, laidLooks := .later }
def FnMultiWriterUptoCardSaid : Prop := Claim7.holds Tryd.pinned (.plain (OpenSpec.upto fnMultiWriterSpec)) fnMultiWriterUptoCard

/-- THE SECOND FORM's CARD OF 'laws.FnMultiWriterAll'. -/
def fnMultiWriterAllUptoCard : Claim7 := { stood := { row := fnMultiWriterAllUptoRow, standIns := [], harness := (true, "9045fbe03a4655f72ddbd8b9521c77dabd54e9c971c60bfa427c524db7e101fe"), looks := true }, kinds := [], alts := [], laidByText := true, laidKinds := [.sentinel, .sentinel, .sentinel, .sentinel, .sentinel, .sentinel], laidTests := true, laidLooks := .later }
def FnMultiWriterAllUptoCardSaid : Prop := Claim7.holds Tryd.pinned (.plain (OpenSpec.upto fnMultiWriterAllSpec)) fnMultiWriterAllUptoCard

/-- THE SECOND FORM's CARD OF 'laws.FnMultiWriterStop'. -/
def fnMultiWriterStopUptoCard : Claim7 := { stood := { row := fnMultiWriterStopUptoRow, standIns := [], harness := (true, "9045fbe03a4655f72ddbd8b9521c77dabd54e9c971c60bfa427c524db7e101fe"), looks := true }, kinds := [], alts := [], laidByText := true, laidKinds := [.sentinel, .sentinel, .sentinel, .sentinel, .sentinel, .sentinel], laidTests := true, laidLooks := .later }
def FnMultiWriterStopUptoCardSaid : Prop := Claim7.holds Tryd.pinned (.plain (OpenSpec.upto fnMultiWriterStopSpec)) fnMultiWriterStopUptoCard

/-- THE SECOND FORM's CARD OF 'laws.FnExactMulti'. -/
def fnExactMultiUptoCard : Claim7 := { stood := { row := fnExactMultiUptoRow, standIns := [], harness := (true, "9045fbe03a4655f72ddbd8b9521c77dabd54e9c971c60bfa427c524db7e101fe"), looks := true }, kinds := [], alts := [], laidByText := true, laidKinds := [.sentinel, .sentinel, .sentinel, .sentinel, .sentinel, .sentinel], laidTests := true, laidLooks := .later }
def FnExactMultiUptoCardSaid : Prop := Claim7.holds Tryd.pinned (.plain (OpenSpec.upto fnExactMultiSpec)) fnExactMultiUptoCard

/-- THE SECOND FORM's CARD OF 'laws.FnMulti'. -/
def fnMultiUptoCard : Claim7 := { stood := { row := fnMultiUptoRow, standIns := [], harness := (true, "9045fbe03a4655f72ddbd8b9521c77dabd54e9c971c60bfa427c524db7e101fe"), looks := true }, kinds := [], alts := [], laidByText := true, laidKinds := [.sentinel, .sentinel, .sentinel, .sentinel, .sentinel, .sentinel], laidTests := true, laidLooks := .later }
def FnMultiUptoCardSaid : Prop := Claim7.holds Tryd.pinned (.plain (OpenSpec.upto fnMultiSpec)) fnMultiUptoCard

/-- THE SECOND FORM's CARD OF 'laws.FnMultiBroken'. -/
def fnMultiBrokenUptoCard : Claim7 := { stood := { row := fnMultiBrokenUptoRow, standIns := [], harness := (true, "9045fbe03a4655f72ddbd8b9521c77dabd54e9c971c60bfa427c524db7e101fe"), looks := true }, kinds := [], alts := [], laidByText := true, laidKinds := [.sentinel, .sentinel, .sentinel, .sentinel, .sentinel, .sentinel], laidTests := true, laidLooks := .later }
def FnMultiBrokenUptoCardSaid : Prop := Claim7.holds Tryd.pinned (.plain (OpenSpec.upto fnMultiBrokenSpec)) fnMultiBrokenUptoCard

/-- THE SECOND FORM's CARD OF 'laws.FnMultiData'. -/
def fnMultiDataUptoCard : Claim7 := { stood := { row := fnMultiDataUptoRow, standIns := [], harness := (true, "9045fbe03a4655f72ddbd8b9521c77dabd54e9c971c60bfa427c524db7e101fe"), looks := true }, kinds := [], alts := [], laidByText := true, laidKinds := [.sentinel, .sentinel, .sentinel, .sentinel, .sentinel, .sentinel], laidTests := true, laidLooks := .later }
def FnMultiDataUptoCardSaid : Prop := Claim7.holds Tryd.pinned (.plain (OpenSpec.upto fnMultiDataSpec)) fnMultiDataUptoCard

/-- THE SECOND FORM's CARD OF 'laws.FnMultiNone'. -/
def fnMultiNoneUptoCard : Claim7 := { stood := { row := fnMultiNoneUptoRow, standIns := [], harness := (true, "9045fbe03a4655f72ddbd8b9521c77dabd54e9c971c60bfa427c524db7e101fe"), looks := true }, kinds := [], alts := [], laidByText := true, laidKinds := [.sentinel, .sentinel, .sentinel, .sentinel, .sentinel, .sentinel], laidTests := true, laidLooks := .later }
def FnMultiNoneUptoCardSaid : Prop := Claim7.holds Tryd.pinned (.plain (OpenSpec.upto fnMultiNoneSpec)) fnMultiNoneUptoCard
end Rows
end Go.Proofs.YtmoecjhlonokfaaDoor
