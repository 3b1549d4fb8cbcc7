/-
  DERIVED. GIVEN WITH THE SEED: THE CARDS: each row of YtdlgknaipljhhaaDoorRows.lean that lists a variable, with what it lists TIED to the program's text (the seventh form; the later family's looks); each row that meets fmt, with fmt's text TOLD by the authors' own Lean function (tested against real Go, not proved from fmt's source: count such statements apart). THE CARD IS WHAT COUNTS. Prove the row's statement (the work); the ties are given (YtdlgknaipljhhaaDoorTie.lean); close each card by the builder's one call (the guide's Derived/Test/ToyasCard.lean, 'card_holds'). Laid BY PROGRAM, IN A SANDBOX (cutbox-door.mjs). By AI agents, Wed Nov 11 2026. No macro, syntax, notation, axiom, sorry.
-/
import Derived.Test.YtdlgknaipljhhaaDoorRows
import GoSem.ClaimSeven
namespace Go.Proofs.YtdlgknaipljhhaaDoor
namespace Rows

/-- THE TIED CARD OF 'laws.FnSectionReads'. -/
def fnSectionReadsCard : Claim7 := { stood := { row := fnSectionReadsRow, standIns := [], harness := (true, "a30cceb7c7992a3d4623ef9682d42cca0aa8831620d361c867a1741e3d91e90c"), looks := true }, kinds := [], alts := [], laidByText := true, laidKinds := [.sentinel, .sentinel, .sentinel, .sentinel, .sentinel, .sentinel, .sentinel, .sentinel], laidTests := true, laidLooks := .later }
def FnSectionReadsCardSaid : Prop := Claim7.holds Tryd.pinned (.plain (OpenSpec.ofChange fnSectionReadsSpec)) fnSectionReadsCard

/-- THE TIED CARD OF 'laws.FnSectionSeek'. -/
def fnSectionSeekCard : Claim7 := { stood := { row := fnSectionSeekRow, standIns := [], harness := (true, "a30cceb7c7992a3d4623ef9682d42cca0aa8831620d361c867a1741e3d91e90c"), looks := true }, kinds := [], alts := [], laidByText := true, laidKinds := [.sentinel, .sentinel, .sentinel, .sentinel, .sentinel, .sentinel, .sentinel, .sentinel], laidTests := true, laidLooks := .later }
def FnSectionSeekCardSaid : Prop := Claim7.holds Tryd.pinned (.plain (OpenSpec.ofChange fnSectionSeekSpec)) fnSectionSeekCard

/-- THE TIED CARD OF 'laws.FnSectionStays'. -/
def fnSectionStaysCard : Claim7 := { stood := { row := fnSectionStaysRow, standIns := [], harness := (true, "a30cceb7c7992a3d4623ef9682d42cca0aa8831620d361c867a1741e3d91e90c"), looks := true }, kinds := [], alts := [], laidByText := true, laidKinds := [.sentinel, .sentinel, .sentinel, .sentinel, .sentinel, .sentinel, .sentinel, .sentinel], laidTests := true, laidLooks := .later }
def FnSectionStaysCardSaid : Prop := Claim7.holds Tryd.pinned (.plain (OpenSpec.ofChange fnSectionStaysSpec)) fnSectionStaysCard

/-- THE TIED CARD OF 'laws.FnExactSection'. -/
def fnExactSectionCard : Claim7 := { stood := { row := fnExactSectionRow, standIns := [], harness := (true, "a30cceb7c7992a3d4623ef9682d42cca0aa8831620d361c867a1741e3d91e90c"), looks := true }, kinds := [], alts := [], laidByText := true, laidKinds := [.sentinel, .sentinel, .sentinel, .sentinel, .sentinel, .sentinel, .sentinel, .sentinel], laidTests := true, laidLooks := .later }
def FnExactSectionCardSaid : Prop := Claim7.holds Tryd.pinned (.plain (OpenSpec.ofChange fnExactSectionSpec)) fnExactSectionCard

/-- THE TIED CARD OF 'laws.FnSection'. -/
def fnSectionCard : Claim7 := { stood := { row := fnSectionRow, standIns := [], harness := (true, "a30cceb7c7992a3d4623ef9682d42cca0aa8831620d361c867a1741e3d91e90c"), looks := true }, kinds := [], alts := [], laidByText := true, laidKinds := [.sentinel, .sentinel, .sentinel, .sentinel, .sentinel, .sentinel, .sentinel, .sentinel], laidTests := true, laidLooks := .later }
def FnSectionCardSaid : Prop := Claim7.holds Tryd.pinned (.plain (OpenSpec.ofChange fnSectionSpec)) fnSectionCard

/-- THE TIED CARD OF 'laws.FnSectionAll'. -/
def fnSectionAllCard : Claim7 := { stood := { row := fnSectionAllRow, standIns := [], harness := (true, "a30cceb7c7992a3d4623ef9682d42cca0aa8831620d361c867a1741e3d91e90c"), looks := true }, kinds := [], alts := [], laidByText := true, laidKinds := [.sentinel, .sentinel, .sentinel, .sentinel, .sentinel, .sentinel, .sentinel, .sentinel], laidTests := true, laidLooks := .later }
def FnSectionAllCardSaid : Prop := Claim7.holds Tryd.pinned (.plain (OpenSpec.ofChange fnSectionAllSpec)) fnSectionAllCard

/-- THE TIED CARD OF 'laws.FnSectionBad'. -/
def fnSectionBadCard : Claim7 := { stood := { row := fnSectionBadRow, standIns := [], harness := (true, "a30cceb7c7992a3d4623ef9682d42cca0aa8831620d361c867a1741e3d91e90c"), looks := true }, kinds := [], alts := [], laidByText := true, laidKinds := [.sentinel, .sentinel, .sentinel, .sentinel, .sentinel, .sentinel, .sentinel, .sentinel], laidTests := true, laidLooks := .later }
def FnSectionBadCardSaid : Prop := Claim7.holds Tryd.pinned (.plain (OpenSpec.ofChange fnSectionBadSpec)) fnSectionBadCard

/-- THE SECOND FORM's CARD OF 'laws.FnSectionReads'. -/
def fnSectionReadsUptoCard : Claim7 := { stood := { row := fnSectionReadsUptoRow, standIns := [], harness := (true, "a30cceb7c7992a3d4623ef9682d42cca0aa8831620d361c867a1741e3d91e90c"), looks := true }, kinds := [], alts := [], laidByText := true, laidKinds := [.sentinel, .sentinel, .sentinel, .sentinel, .sentinel, .sentinel, .sentinel, .sentinel], laidTests := true, laidLooks := .later }
def FnSectionReadsUptoCardSaid : Prop := Claim7.holds Tryd.pinned (.plain (OpenSpec.upto fnSectionReadsSpec)) fnSectionReadsUptoCard

/-- THE SECOND FORM's CARD OF 'laws.FnSectionSeek'. -/
def fnSectionSeekUptoCard : Claim7 := { stood := { row := fnSectionSeekUptoRow, standIns := [], harness := (true, "a30cceb7c7992a3d4623ef9682d42cca0aa8831620d361c867a1741e3d91e90c"), looks := true }, kinds := [], alts := [], laidByText := true, laidKinds := [.sentinel, .sentinel, .sentinel, .sentinel, .sentinel, .sentinel, .sentinel, .sentinel], laidTests := true, laidLooks := .later }
def FnSectionSeekUptoCardSaid : Prop := Claim7.holds Tryd.pinned (.plain (OpenSpec.upto fnSectionSeekSpec)) fnSectionSeekUptoCard

/-- THE SECOND FORM's CARD OF 'laws.FnSectionStays'. -/
def fnSectionStaysUptoCard : Claim7 := { stood := { row := fnSectionStaysUptoRow, standIns := [], harness := (true, "a30cceb7c7992a3d4623ef9682d42cca0aa8831620d361c867a1741e3d91e90c"), looks := true }, kinds := [], alts := [], laidByText := true, laidKinds := [.sentinel, .sentinel, .sentinel, .sentinel, .sentinel, .sentinel, .sentinel, .sentinel], laidTests := true, laidLooks := .later }
def FnSectionStaysUptoCardSaid : Prop := Claim7.holds Tryd.pinned (.plain (OpenSpec.upto fnSectionStaysSpec)) fnSectionStaysUptoCard

/-- THE SECOND FORM's CARD OF 'laws.FnExactSection'. -/
def fnExactSectionUptoCard : Claim7 := { stood := { row := fnExactSectionUptoRow, standIns := [], harness := (true, "a30cceb7c7992a3d4623ef9682d42cca0aa8831620d361c867a1741e3d91e90c"), looks := true }, kinds := [], alts := [], laidByText := true, laidKinds := [.sentinel, .sentinel, .sentinel, .sentinel, .sentinel, .sentinel, .sentinel, .sentinel], laidTests := true, laidLooks := .later }
def FnExactSectionUptoCardSaid : Prop := Claim7.holds Tryd.pinned (.plain (OpenSpec.upto fnExactSectionSpec)) fnExactSectionUptoCard

/-- THE SECOND FORM's CARD OF 'laws.FnSection'. -/
def fnSectionUptoCard : Claim7 := { stood := { row := fnSectionUptoRow, standIns := [], harness := (true, "a30cceb7c7992a3d4623ef9682d42cca0aa8831620d361c867a1741e3d91e90c"), looks := true }, kinds := [], alts := [], laidByText := true, laidKinds := [.sentinel, .sentinel, .sentinel, .sentinel, .sentinel, .sentinel, .sentinel, .sentinel], laidTests := true, laidLooks := .later }
def FnSectionUptoCardSaid : Prop := Claim7.holds Tryd.pinned (.plain (OpenSpec.upto fnSectionSpec)) fnSectionUptoCard

/-- THE SECOND FORM's CARD OF 'laws.FnSectionAll'. -/
def fnSectionAllUptoCard : Claim7 := { stood := { row := fnSectionAllUptoRow, standIns := [], harness := (true, "a30cceb7c7992a3d4623ef9682d42cca0aa8831620d361c867a1741e3d91e90c"), looks := true }, kinds := [], alts := [], laidByText := true, laidKinds := [.sentinel, .sentinel, .sentinel, .sentinel, .sentinel, .sentinel, .sentinel, .sentinel], laidTests := true, laidLooks := .later }
def FnSectionAllUptoCardSaid : Prop := Claim7.holds Tryd.pinned (.plain (OpenSpec.upto fnSectionAllSpec)) fnSectionAllUptoCard

/-- THE SECOND FORM's CARD OF 'laws.FnSectionBad'. -/
def fnSectionBadUptoCard : Claim7 := { stood := { row := fnSectionBadUptoRow, standIns := [], harness := (true, "a30cceb7c7992a3d4623ef9682d42cca0aa8831620d361c867a1741e3d91e90c"), looks := true }, kinds := [], alts := [], laidByText := true, laidKinds := [.sentinel, .sentinel, .sentinel, .sentinel, .sentinel, .sentinel, .sentinel, .sentinel], laidTests := true, laidLooks := .later }
def FnSectionBadUptoCardSaid : Prop := Claim7.holds Tryd.pinned (.plain (OpenSpec.upto fnSectionBadSpec)) fnSectionBadUptoCard
end Rows
end Go.Proofs.YtdlgknaipljhhaaDoor
