/-
  DERIVED. GIVEN WITH THE SEED: THE CARDS: each row of YtnehminojlocoaaDoorRows.lean that lists a variable, with what it lists TIED to the program's text (the seventh form; the later family's looks); each row that meets fmt, with fmt's text TOLD by the authors' own Lean function (tested against real Go, not proved from fmt's source: count such statements apart). THE CARD IS WHAT COUNTS. Prove the row's statement (the work); the ties are given (YtnehminojlocoaaDoorTie.lean); close each card by the builder's one call (the guide's Derived/Test/ToyasCard.lean, 'card_holds'). Laid BY PROGRAM, IN A SANDBOX (cutbox-door.mjs). By AI agents, Wed Nov 11 2026. No macro, syntax, notation, axiom, sorry.
-/
import Derived.Test.YtnehminojlocoaaDoorRows
import GoSem.ClaimSeven
namespace Go.Proofs.YtnehminojlocoaaDoor
namespace Rows

/-- THE TIED CARD OF 'laws.FnHighwayRefused'. -/
def fnHighwayRefusedCard : Claim7 := { stood := { row := fnHighwayRefusedRow, standIns := [], harness := (true, "d3dab5cd8de328f66b1ef3990a566b4a8759218f4060480dfaa067c0ed8e4cb4"), looks := true }, kinds := [], alts := [], laidByText := true, laidKinds := [.sentinel], laidTests := true, laidLooks := .later }
def FnHighwayRefusedCardSaid : Prop := Claim7.holds Tryd.pinned (.plain (OpenSpec.ofChange fnHighwayRefusedSpec)) fnHighwayRefusedCard

/-- THE TIED CARD OF 'laws.FnHighwayRun'. -/
def fnHighwayRunCard : Claim7 := { stood := { row := fnHighwayRunRow, standIns := [], harness := (true, "d3dab5cd8de328f66b1ef3990a566b4a8759218f4060480dfaa067c0ed8e4cb4"), looks := true }, kinds := [], alts := [], laidByText := true, laidKinds := [.sentinel], laidTests := true, laidLooks := .later }
def FnHighwayRunCardSaid : Prop := Claim7.holds Tryd.pinned (.plain (OpenSpec.ofChange fnHighwayRunSpec)) fnHighwayRunCard

/-- THE TIED CARD OF 'laws.FnHighwayRoads'. -/
def fnHighwayRoadsCard : Claim7 := { stood := { row := fnHighwayRoadsRow, standIns := [], harness := (true, "d3dab5cd8de328f66b1ef3990a566b4a8759218f4060480dfaa067c0ed8e4cb4"), looks := true }, kinds := [], alts := [], laidByText := true, laidKinds := [.sentinel], laidTests := true, laidLooks := .later }
def FnHighwayRoadsCardSaid : Prop := Claim7.holds Tryd.pinned (.plain (OpenSpec.ofChange fnHighwayRoadsSpec)) fnHighwayRoadsCard

/-- THE TIED CARD OF 'laws.FnHighwaySum'. -/
def fnHighwaySumCard : Claim7 := { stood := { row := fnHighwaySumRow, standIns := [], harness := (true, "d3dab5cd8de328f66b1ef3990a566b4a8759218f4060480dfaa067c0ed8e4cb4"), looks := true }, kinds := [], alts := [], laidByText := true, laidKinds := [.sentinel], laidTests := true, laidLooks := .later }
def FnHighwaySumCardSaid : Prop := Claim7.holds Tryd.pinned (.plain (OpenSpec.ofChange fnHighwaySumSpec)) fnHighwaySumCard

/-- THE SECOND FORM's CARD OF 'laws.FnHighwayRefused'. -/
def fnHighwayRefusedUptoCard : Claim7 := { stood := { row := fnHighwayRefusedUptoRow, standIns := [], harness := (true, "d3dab5cd8de328f66b1ef3990a566b4a8759218f4060480dfaa067c0ed8e4cb4"), looks := true }, kinds := [], alts := [], laidByText := true, laidKinds := [.sentinel], laidTests := true, laidLooks := .later }
def FnHighwayRefusedUptoCardSaid : Prop := Claim7.holds Tryd.pinned (.plain (OpenSpec.upto fnHighwayRefusedSpec)) fnHighwayRefusedUptoCard

/-- THE SECOND FORM's CARD OF 'laws.FnHighwayRun'. -/
def fnHighwayRunUptoCard : Claim7 := { stood := { row := fnHighwayRunUptoRow, standIns := [], harness := (true, "d3dab5cd8de328f66b1ef3990a566b4a8759218f4060480dfaa067c0ed8e4cb4"), looks := true }, kinds := [], alts := [], laidByText := true, laidKinds := [.sentinel], laidTests := true, laidLooks := .later }
def FnHighwayRunUptoCardSaid : Prop := Claim7.holds Tryd.pinned (.plain (OpenSpec.upto fnHighwayRunSpec)) fnHighwayRunUptoCard

/-- THE SECOND FORM's CARD OF 'laws.FnHighwayRoads'. -/
def fnHighwayRoadsUptoCard : Claim7 := { stood := { row := fnHighwayRoadsUptoRow, standIns := [], harness := (true, "d3dab5cd8de328f66b1ef3990a566b4a8759218f4060480dfaa067c0ed8e4cb4"), looks := true }, kinds := [], alts := [], laidByText := true, laidKinds := [.sentinel], laidTests := true, laidLooks := .later }
def FnHighwayRoadsUptoCardSaid : Prop := Claim7.holds Tryd.pinned (.plain (OpenSpec.upto fnHighwayRoadsSpec)) fnHighwayRoadsUptoCard

/-- THE SECOND FORM's CARD OF 'laws.FnHighwaySum'. -/
def fnHighwaySumUptoCard : Claim7 := { stood := { row := fnHighwaySumUptoRow, standIns := [], harness := (true, "d3dab5cd8de328f66b1ef3990a566b4a8759218f4060480dfaa067c0ed8e4cb4"), looks := true }, kinds := [], alts := [], laidByText := true, laidKinds := [.sentinel], laidTests := true, laidLooks := .later }
def FnHighwaySumUptoCardSaid : Prop := Claim7.holds Tryd.pinned (.plain (OpenSpec.upto fnHighwaySumSpec)) fnHighwaySumUptoCard
end Rows
end Go.Proofs.YtnehminojlocoaaDoor
