/-
  DERIVED. GIVEN WITH THE SEED: THE PROGRAM's TIES (one call each: nine closed facts by the kernel) AND EACH ROW's TIE, after the 31st guide's Derived/Test/Toyas{Tie, Card}.lean. No idea stands in it: it is a product of the set-up. Laid BY PROGRAM, IN A SANDBOX (cutbox-door.mjs). By AI agents, Wed Nov 11 2026. No macro, syntax, notation, axiom, sorry.
-/
import Derived.Test.YtiifnofghicnaaaDoorRows
import Derived.LaidByTextLater
import Derived.SevenTiedAt
import Derived.LaidSub
import Derived.LaidOnce
namespace Go.Proofs.YtiifnofghicnaaaDoor
open Go
set_option maxRecDepth 100000
theorem seatTie1 : Tryd.prog.laidByTextLater [("math/bits.deBruijn64tab", Rows.laid_math_bits_deBruijn64tab), ("pub-hashloom/pub/gobits.overflowError", Rows.laid_pub_hashloom_pub_gobits_overflowError), ("pub-hashloom/pub/gobits.divideError", Rows.laid_pub_hashloom_pub_gobits_divideError), ("pub-hashloom/pub/uint128.Zero", Rows.laid_pub_hashloom_pub_uint128_Zero), ("pub-hashloom/pub/uint128.Max", Rows.laid_pub_hashloom_pub_uint128_Max)] [.data, .sentinel, .sentinel, .data, .data] true :=
  Program.laidByTextLater_by_one 62 8 65 (by kernel_rfl) (by kernel_rfl) (by kernel_rfl) (by kernel_rfl) (by kernel_rfl) (by kernel_rfl) (fun _ _ => by kernel_rfl)
theorem noOwnUnsafe : Tryd.pinned.checked.prog.headLifts.contains "ownunsafe" = false := by kernel_rfl
theorem tie : Tryd.prog.laidByTextLater [("pub-hashloom/pub/uint128.Zero", Rows.laid_pub_hashloom_pub_uint128_Zero), ("pub-hashloom/pub/uint128.Max", Rows.laid_pub_hashloom_pub_uint128_Max)] [.data, .data] true :=
  Program.laidByTextLater.sub seatTie1 ["pub-hashloom/pub/uint128.Zero", "pub-hashloom/pub/uint128.Max"] (by kernel_rfl) (by kernel_rfl)
theorem fnWideConstants_row_tie : Rows.fnWideConstantsRow.laidByTextAt .later Tryd.pinned [.data, .data] true :=
  OpenClaim.laidByTextAt_later rfl rfl tie noOwnUnsafe
theorem tie2 : Tryd.prog.laidByTextLater [("math/bits.deBruijn64tab", Rows.laid_math_bits_deBruijn64tab)] [.data] true :=
  Program.laidByTextLater.sub seatTie1 ["math/bits.deBruijn64tab"] (by kernel_rfl) (by kernel_rfl)
theorem fnWideCounts_row_tie : Rows.fnWideCountsRow.laidByTextAt .later Tryd.pinned [.data] true :=
  OpenClaim.laidByTextAt_later rfl rfl tie2 noOwnUnsafe
theorem tie3 : Tryd.prog.laidByTextLater [("pub-hashloom/pub/gobits.overflowError", Rows.laid_pub_hashloom_pub_gobits_overflowError), ("pub-hashloom/pub/gobits.divideError", Rows.laid_pub_hashloom_pub_gobits_divideError)] [.sentinel, .sentinel] true :=
  Program.laidByTextLater.sub seatTie1 ["pub-hashloom/pub/gobits.overflowError", "pub-hashloom/pub/gobits.divideError"] (by kernel_rfl) (by kernel_rfl)
theorem fnWideText_row_tie : Rows.fnWideTextRow.laidByTextAt .later Tryd.pinned [.sentinel, .sentinel] true :=
  OpenClaim.laidByTextAt_later rfl rfl tie3 noOwnUnsafe
theorem fnWideQuoRem64_row_tie : Rows.fnWideQuoRem64Row.laidByTextAt .later Tryd.pinned [.sentinel, .sentinel] true :=
  OpenClaim.laidByTextAt_later rfl rfl tie3 noOwnUnsafe
theorem fnWideQuoRem_row_tie : Rows.fnWideQuoRemRow.laidByTextAt .later Tryd.pinned [.sentinel, .sentinel] true :=
  OpenClaim.laidByTextAt_later rfl rfl tie3 noOwnUnsafe
theorem fnWideDivides_row_tie : Rows.fnWideDividesRow.laidByTextAt .later Tryd.pinned [.sentinel, .sentinel] true :=
  OpenClaim.laidByTextAt_later rfl rfl tie3 noOwnUnsafe
theorem fnWideBack_row_tie : Rows.fnWideBackRow.laidByTextAt .later Tryd.pinned [.sentinel, .sentinel] true :=
  OpenClaim.laidByTextAt_later rfl rfl tie3 noOwnUnsafe
theorem fnWideRun_row_tie : Rows.fnWideRunRow.laidByTextAt .later Tryd.pinned [.sentinel, .sentinel] true :=
  OpenClaim.laidByTextAt_later rfl rfl tie3 noOwnUnsafe
theorem fnWideConstantsUpto_row_tie : Rows.fnWideConstantsUptoRow.laidByTextAt .later Tryd.pinned [.data, .data] true :=
  OpenClaim.laidByTextAt_later rfl rfl tie noOwnUnsafe
theorem fnWideCountsUpto_row_tie : Rows.fnWideCountsUptoRow.laidByTextAt .later Tryd.pinned [.data] true :=
  OpenClaim.laidByTextAt_later rfl rfl tie2 noOwnUnsafe
theorem fnWideTextUpto_row_tie : Rows.fnWideTextUptoRow.laidByTextAt .later Tryd.pinned [.sentinel, .sentinel] true :=
  OpenClaim.laidByTextAt_later rfl rfl tie3 noOwnUnsafe
theorem fnWideQuoRem64Upto_row_tie : Rows.fnWideQuoRem64UptoRow.laidByTextAt .later Tryd.pinned [.sentinel, .sentinel] true :=
  OpenClaim.laidByTextAt_later rfl rfl tie3 noOwnUnsafe
theorem fnWideQuoRemUpto_row_tie : Rows.fnWideQuoRemUptoRow.laidByTextAt .later Tryd.pinned [.sentinel, .sentinel] true :=
  OpenClaim.laidByTextAt_later rfl rfl tie3 noOwnUnsafe
theorem fnWideDividesUpto_row_tie : Rows.fnWideDividesUptoRow.laidByTextAt .later Tryd.pinned [.sentinel, .sentinel] true :=
  OpenClaim.laidByTextAt_later rfl rfl tie3 noOwnUnsafe
theorem fnWideBackUpto_row_tie : Rows.fnWideBackUptoRow.laidByTextAt .later Tryd.pinned [.sentinel, .sentinel] true :=
  OpenClaim.laidByTextAt_later rfl rfl tie3 noOwnUnsafe
theorem fnWideRunUpto_row_tie : Rows.fnWideRunUptoRow.laidByTextAt .later Tryd.pinned [.sentinel, .sentinel] true :=
  OpenClaim.laidByTextAt_later rfl rfl tie3 noOwnUnsafe
end Go.Proofs.YtiifnofghicnaaaDoor
