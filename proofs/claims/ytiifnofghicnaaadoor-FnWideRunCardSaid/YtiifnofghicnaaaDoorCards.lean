/-
  DERIVED. GIVEN WITH THE SEED: THE CARDS: each row of YtiifnofghicnaaaDoorRows.lean that lists a variable, with what it lists TIED to the program's text (the seventh form; the later family's looks); each row that meets fmt, with fmt's text TOLD by the authors' own Lean function (tested against real Go, not proved from fmt's source: count such statements apart). THE CARD IS WHAT COUNTS. Prove the row's statement (the work); the ties are given (YtiifnofghicnaaaDoorTie.lean); close each card by the builder's one call (the guide's Derived/Test/ToyasCard.lean, 'card_holds'). Laid BY PROGRAM, IN A SANDBOX (cutbox-door.mjs). By AI agents, Wed Nov 11 2026. No macro, syntax, notation, axiom, sorry.
-/
import Derived.Test.YtiifnofghicnaaaDoorRows
import GoSem.ClaimSeven
namespace Go.Proofs.YtiifnofghicnaaaDoor
namespace Rows

/-- THE TIED CARD OF 'laws.FnWideConstants'. -/
def fnWideConstantsCard : Claim7 := { stood := { row := fnWideConstantsRow, standIns := [], harness := (true, "fb46fe1f5bb39fb5f74f659d942952184e1538aa198083185c96437e5ab896ec"), looks := false }, kinds := [], alts := [], laidByText := true, laidKinds := [.data, .data], laidTests := true, laidLooks := .later }
def FnWideConstantsCardSaid : Prop := Claim7.holds Tryd.pinned (.plain (OpenSpec.ofChange fnWideConstantsSpec)) fnWideConstantsCard

/-- THE TIED CARD OF 'laws.FnWideCounts'. -/
def fnWideCountsCard : Claim7 := { stood := { row := fnWideCountsRow, standIns := [], harness := (true, "fb46fe1f5bb39fb5f74f659d942952184e1538aa198083185c96437e5ab896ec"), looks := false }, kinds := [], alts := [], laidByText := true, laidKinds := [.data], laidTests := true, laidLooks := .later }
def FnWideCountsCardSaid : Prop := Claim7.holds Tryd.pinned (.plain (OpenSpec.ofChange fnWideCountsSpec)) fnWideCountsCard

/-- THE TIED CARD OF 'laws.FnWideText'. -/
def fnWideTextCard : Claim7 := { stood := { row := fnWideTextRow, standIns := [], harness := (true, "fb46fe1f5bb39fb5f74f659d942952184e1538aa198083185c96437e5ab896ec"), looks := false }, kinds := [], alts := [], laidByText := true, laidKinds := [.sentinel, .sentinel], laidTests := true, laidLooks := .later }
def FnWideTextCardSaid : Prop := Claim7.holds Tryd.pinned (.plain (OpenSpec.ofChange fnWideTextSpec)) fnWideTextCard

/-- THE TIED CARD OF 'laws.FnWideQuoRem64'. -/
def fnWideQuoRem64Card : Claim7 := { stood := { row := fnWideQuoRem64Row, standIns := [], harness := (true, "fb46fe1f5bb39fb5f74f659d942952184e1538aa198083185c96437e5ab896ec"), looks := false }, kinds := [], alts := [], laidByText := true, laidKinds := [.sentinel, .sentinel], laidTests := true, laidLooks := .later }
def FnWideQuoRem64CardSaid : Prop := Claim7.holds Tryd.pinned (.plain (OpenSpec.ofChange fnWideQuoRem64Spec)) fnWideQuoRem64Card

/-- THE TIED CARD OF 'laws.FnWideQuoRem'. -/
def fnWideQuoRemCard : Claim7 := { stood := { row := fnWideQuoRemRow, standIns := [], harness := (true, "fb46fe1f5bb39fb5f74f659d942952184e1538aa198083185c96437e5ab896ec"), looks := false }, kinds := [], alts := [], laidByText := true, laidKinds := [.sentinel, .sentinel], laidTests := true, laidLooks := .later }
def FnWideQuoRemCardSaid : Prop := Claim7.holds Tryd.pinned (.plain (OpenSpec.ofChange fnWideQuoRemSpec)) fnWideQuoRemCard

/-- THE TIED CARD OF 'laws.FnWideDivides'. -/
def fnWideDividesCard : Claim7 := { stood := { row := fnWideDividesRow, standIns := [], harness := (true, "fb46fe1f5bb39fb5f74f659d942952184e1538aa198083185c96437e5ab896ec"), looks := false }, kinds := [], alts := [], laidByText := true, laidKinds := [.sentinel, .sentinel], laidTests := true, laidLooks := .later }
def FnWideDividesCardSaid : Prop := Claim7.holds Tryd.pinned (.plain (OpenSpec.ofChange fnWideDividesSpec)) fnWideDividesCard

/-- THE TIED CARD OF 'laws.FnWideBack'. -/
def fnWideBackCard : Claim7 := { stood := { row := fnWideBackRow, standIns := [], harness := (true, "fb46fe1f5bb39fb5f74f659d942952184e1538aa198083185c96437e5ab896ec"), looks := false }, kinds := [], alts := [], laidByText := true, laidKinds := [.sentinel, .sentinel], laidTests := true, laidLooks := .later }
def FnWideBackCardSaid : Prop := Claim7.holds Tryd.pinned (.plain (OpenSpec.ofChange fnWideBackSpec)) fnWideBackCard

/-- THE TIED CARD OF 'laws.FnWideRun'. -/
def fnWideRunCard : Claim7 := { stood := { row := fnWideRunRow, standIns := [], harness := (true, "fb46fe1f5bb39fb5f74f659d942952184e1538aa198083185c96437e5ab896ec"), looks := false }, kinds := [], alts := [], laidByText := true, laidKinds := [.sentinel, .sentinel], laidTests := true, laidLooks := .later }
def FnWideRunCardSaid : Prop := Claim7.holds Tryd.pinned (.plain (OpenSpec.ofChange fnWideRunSpec)) fnWideRunCard

/-- THE SECOND FORM's CARD OF 'laws.FnWideConstants'. -/
def fnWideConstantsUptoCard : Claim7 := { stood := { row := fnWideConstantsUptoRow, standIns := [], harness := (true, "fb46fe1f5bb39fb5f74f659d942952184e1538aa198083185c96437e5ab896ec"), looks := false }, kinds := [], alts := [], laidByText := true, laidKinds := [.data, .data], laidTests := true, laidLooks := .later }
def FnWideConstantsUptoCardSaid : Prop := Claim7.holds Tryd.pinned (.plain (OpenSpec.upto fnWideConstantsSpec)) fnWideConstantsUptoCard

/-- THE SECOND FORM's CARD OF 'laws.FnWideCounts'. -/
def fnWideCountsUptoCard : Claim7 := { stood := { row := fnWideCountsUptoRow, standIns := [], harness := (true, "fb46fe1f5bb39fb5f74f659d942952184e1538aa198083185c96437e5ab896ec"), looks := false }, kinds := [], alts := [], laidByText := true, laidKinds := [.data], laidTests := true, laidLooks := .later }
def FnWideCountsUptoCardSaid : Prop := Claim7.holds Tryd.pinned (.plain (OpenSpec.upto fnWideCountsSpec)) fnWideCountsUptoCard

/-- THE SECOND FORM's CARD OF 'laws.FnWideText'. -/
def fnWideTextUptoCard : Claim7 := { stood := { row := fnWideTextUptoRow, standIns := [], harness := (true, "fb46fe1f5bb39fb5f74f659d942952184e1538aa198083185c96437e5ab896ec"), looks := false }, kinds := [], alts := [], laidByText := true, laidKinds := [.sentinel, .sentinel], laidTests := true, laidLooks := .later }
def FnWideTextUptoCardSaid : Prop := Claim7.holds Tryd.pinned (.plain (OpenSpec.upto fnWideTextSpec)) fnWideTextUptoCard

/-- THE SECOND FORM's CARD OF 'laws.FnWideQuoRem64'. -/
def fnWideQuoRem64UptoCard : Claim7 := { stood := { row := fnWideQuoRem64UptoRow, standIns := [], harness := (true, "fb46fe1f5bb39fb5f74f659d942952184e1538aa198083185c96437e5ab896ec"), looks := false }, kinds := [], alts := [], laidByText := true, laidKinds := [.sentinel, .sentinel], laidTests := true, laidLooks := .later }
def FnWideQuoRem64UptoCardSaid : Prop := Claim7.holds Tryd.pinned (.plain (OpenSpec.upto fnWideQuoRem64Spec)) fnWideQuoRem64UptoCard

/-- THE SECOND FORM's CARD OF 'laws.FnWideQuoRem'. -/
def fnWideQuoRemUptoCard : Claim7 := { stood := { row := fnWideQuoRemUptoRow, standIns := [], harness := (true, "fb46fe1f5bb39fb5f74f659d942952184e1538aa198083185c96437e5ab896ec"), looks := false }, kinds := [], alts := [], laidByText := true, laidKinds := [.sentinel, .sentinel], laidTests := true, laidLooks := .later }
def FnWideQuoRemUptoCardSaid : Prop := Claim7.holds Tryd.pinned (.plain (OpenSpec.upto fnWideQuoRemSpec)) fnWideQuoRemUptoCard

/-- THE SECOND FORM's CARD OF 'laws.FnWideDivides'. -/
def fnWideDividesUptoCard : Claim7 := { stood := { row := fnWideDividesUptoRow, standIns := [], harness := (true, "fb46fe1f5bb39fb5f74f659d942952184e1538aa198083185c96437e5ab896ec"), looks := false }, kinds := [], alts := [], laidByText := true, laidKinds := [.sentinel, .sentinel], laidTests := true, laidLooks := .later }
def FnWideDividesUptoCardSaid : Prop := Claim7.holds Tryd.pinned (.plain (OpenSpec.upto fnWideDividesSpec)) fnWideDividesUptoCard

/-- THE SECOND FORM's CARD OF 'laws.FnWideBack'. -/
def fnWideBackUptoCard : Claim7 := { stood := { row := fnWideBackUptoRow, standIns := [], harness := (true, "fb46fe1f5bb39fb5f74f659d942952184e1538aa198083185c96437e5ab896ec"), looks := false }, kinds := [], alts := [], laidByText := true, laidKinds := [.sentinel, .sentinel], laidTests := true, laidLooks := .later }
def FnWideBackUptoCardSaid : Prop := Claim7.holds Tryd.pinned (.plain (OpenSpec.upto fnWideBackSpec)) fnWideBackUptoCard

/-- THE SECOND FORM's CARD OF 'laws.FnWideRun'. -/
def fnWideRunUptoCard : Claim7 := { stood := { row := fnWideRunUptoRow, standIns := [], harness := (true, "fb46fe1f5bb39fb5f74f659d942952184e1538aa198083185c96437e5ab896ec"), looks := false }, kinds := [], alts := [], laidByText := true, laidKinds := [.sentinel, .sentinel], laidTests := true, laidLooks := .later }
def FnWideRunUptoCardSaid : Prop := Claim7.holds Tryd.pinned (.plain (OpenSpec.upto fnWideRunSpec)) fnWideRunUptoCard
end Rows
end Go.Proofs.YtiifnofghicnaaaDoor
