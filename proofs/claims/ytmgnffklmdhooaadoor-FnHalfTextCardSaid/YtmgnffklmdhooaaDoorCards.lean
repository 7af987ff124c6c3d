/-
  DERIVED. GIVEN WITH THE SEED: THE CARDS: each row of YtmgnffklmdhooaaDoorRows.lean that lists a variable, with what it lists TIED to the program's text (the seventh form; the later family's looks); each row that meets fmt, with fmt's text TOLD by the authors' own Lean function (tested against real Go, not proved from fmt's source: count such statements apart). THE CARD IS WHAT COUNTS. Prove the row's statement (the work); the ties are given (YtmgnffklmdhooaaDoorTie.lean); close each card by the builder's one call (the guide's Derived/Test/ToyasCard.lean, 'card_holds'). Laid BY PROGRAM, IN A SANDBOX (cutbox-door.mjs). By AI agents, Wed Nov 11 2026. No macro, syntax, notation, axiom, sorry.
-/
import Derived.Test.YtmgnffklmdhooaaDoorRows
import GoSem.ClaimSeven
namespace Go.Proofs.YtmgnffklmdhooaaDoor
namespace Rows

/-- THE TIED CARD OF 'laws.FnHalfText'. -/
def fnHalfTextCard : Claim7 := { stood := { row := fnHalfTextRow, standIns := [], harness := (true, "82ea0db3138f0d3efce35c5ad195c86aea9178982399ae50b4372eed093e9246"), looks := false }, kinds := [], alts := [], laidByText := true, laidKinds := [.data, .data, .data, .data, .pinned, .pinned], laidTests := true, laidLooks := .later }
def FnHalfTextCardSaid : Prop := Claim7.holds Tryd.pinned (.plain (OpenSpec.ofChange fnHalfTextSpec)) fnHalfTextCard

/-- THE SECOND FORM's CARD OF 'laws.FnHalfText'. -/
def fnHalfTextUptoCard : Claim7 := { stood := { row := fnHalfTextUptoRow, standIns := [], harness := (true, "82ea0db3138f0d3efce35c5ad195c86aea9178982399ae50b4372eed093e9246"), looks := false }, kinds := [], alts := [], laidByText := true, laidKinds := [.data, .data, .data, .data, .pinned, .pinned], laidTests := true, laidLooks := .later }
def FnHalfTextUptoCardSaid : Prop := Claim7.holds Tryd.pinned (.plain (OpenSpec.upto fnHalfTextSpec)) fnHalfTextUptoCard
end Rows
end Go.Proofs.YtmgnffklmdhooaaDoor
