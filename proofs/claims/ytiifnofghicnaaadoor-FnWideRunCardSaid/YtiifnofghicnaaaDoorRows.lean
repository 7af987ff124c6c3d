/-
  NARROWER THAN 'FOR EVERY INPUT', by the rows' own cells (each row's printed sentence says how): FnWideConstants: laid · FnWideCounts: laid · FnWideText: laid · FnWideQuoRem64: laid · FnWideQuoRem: laid · FnWideDivides: laid · FnWideBack: laid · FnWideRun: laid.
  DERIVED. THE GIVEN ROWS OF THIS SEAT. 8 by the template 'for every input the law returns true; each argument reads behind the call as it read before'; 0 by the template 'total and deterministic' (their statements: YtiifnofghicnaaaDoorTotals.lean).
  GIVEN WITH THE SEED: the statements are not yours to turn. If you find one false, say at which input.
  Laid BY PROGRAM, IN A SANDBOX (cutbox-rows.mjs): the forced cells as the released guide's own fill.sh prints them over the translation f3fcce1dc9db40bc… (all of the seat's roots in one cut). By AI agents, Wed Nov 11 2026. No macro, syntax, notation, axiom, sorry.
-/
import Derived.Test.YtiifnofghicnaaaDoorChecked
import GoSem.Claim
import GoSem.ClaimJoined
import GoSem.ClaimMapViews
import Derived.JoinedTies
import Derived.KernelRfl
namespace Go.Proofs.YtiifnofghicnaaaDoor
/- THE CELL 'sum', in the pinned program and in every row, IS THE sha256 OF THE DUMP (.gsa) THAT YtiifnofghicnaaaDoorProg.lean LOADS. Nothing in Lean hashes anything: it is a label: what it is worth is what the hold of that sum in a sandbox is worth. -/
noncomputable def Tryd.pinned : Pinned := { name := "ytiifnofghicnaaadoor", sum := "f3fcce1dc9db40bc4441cfb583aa427a5ec7dda6e26578d7c30d1ab823082585", checked := Tryd.checked }
namespace Rows
def none {H : Type} : Left H := { results := [], args := [] }

/- WHAT THE LISTED PACKAGE-LEVEL VARIABLES READ AS WHEN THE CALL BEGINS. Each datum BY PROGRAM (the guide's laid-datum.mjs) off the statement by which the dump's own 'gosem.cut.vars' lays the variable. In a bare row this is a premise. The card (YtiifnofghicnaaaDoorCards.lean) ties it to the program's text. -/
def laid_pub_hashloom_pub_uint128_Zero {H : Type} : DataW H := .agg [.lit (.int .u64 0), .lit (.int .u64 0)]
def laid_pub_hashloom_pub_uint128_Max {H : Type} : DataW H := .agg [.lit (.int .u64 18446744073709551615), .lit (.int .u64 18446744073709551615)]
def laid_math_bits_deBruijn64tab {H : Type} : DataW H := .agg [.lit (.int .u8 0), .lit (.int .u8 1), .lit (.int .u8 56), .lit (.int .u8 2), .lit (.int .u8 57), .lit (.int .u8 49), .lit (.int .u8 28), .lit (.int .u8 3), .lit (.int .u8 61), .lit (.int .u8 58), .lit (.int .u8 42), .lit (.int .u8 50), .lit (.int .u8 38), .lit (.int .u8 29), .lit (.int .u8 17), .lit (.int .u8 4), .lit (.int .u8 62), .lit (.int .u8 47), .lit (.int .u8 59), .lit (.int .u8 36), .lit (.int .u8 45), .lit (.int .u8 43), .lit (.int .u8 51), .lit (.int .u8 22), .lit (.int .u8 53), .lit (.int .u8 39), .lit (.int .u8 33), .lit (.int .u8 30), .lit (.int .u8 24), .lit (.int .u8 18), .lit (.int .u8 12), .lit (.int .u8 5), .lit (.int .u8 63), .lit (.int .u8 55), .lit (.int .u8 48), .lit (.int .u8 27), .lit (.int .u8 60), .lit (.int .u8 41), .lit (.int .u8 37), .lit (.int .u8 16), .lit (.int .u8 46), .lit (.int .u8 35), .lit (.int .u8 44), .lit (.int .u8 21), .lit (.int .u8 52), .lit (.int .u8 32), .lit (.int .u8 23), .lit (.int .u8 11), .lit (.int .u8 54), .lit (.int .u8 26), .lit (.int .u8 40), .lit (.int .u8 15), .lit (.int .u8 34), .lit (.int .u8 20), .lit (.int .u8 31), .lit (.int .u8 10), .lit (.int .u8 25), .lit (.int .u8 14), .lit (.int .u8 19), .lit (.int .u8 9), .lit (.int .u8 13), .lit (.int .u8 8), .lit (.int .u8 7), .lit (.int .u8 6)]
def laid_pub_hashloom_pub_gobits_overflowError {H : Type} : DataW H := .iface "*errors.errorString" (.ptr (.agg [.lit (.string [105, 110, 116, 101, 103, 101, 114, 32, 111, 118, 101, 114, 102, 108, 111, 119])]))
def laid_pub_hashloom_pub_gobits_divideError {H : Type} : DataW H := .iface "*errors.errorString" (.ptr (.agg [.lit (.string [105, 110, 116, 101, 103, 101, 114, 32, 100, 105, 118, 105, 100, 101, 32, 98, 121, 32, 122, 101, 114, 111])]))

/-- 'laws.FnWideConstants': WHATEVER THE INPUT: true; the input reads as it did. -/
def fnWideConstantsSpec : ChangeSpec := { name := "fnWideConstants", fn := fun _ => fun
  | [d1, d2] => { results := [.lit (.bool true)], args := [d1, d2] }
  | _ => none }
def fnWideConstantsRow : OpenClaim := { program := "ytiifnofghicnaaadoor", sum := "f3fcce1dc9db40bc4441cfb583aa427a5ec7dda6e26578d7c30d1ab823082585", func := "pub-hashloom/laws.FnWideConstants", spec := "fnWideConstants", unfollowed := true, recurses := true, named := ["pub-hashloom/pub/uint128.Zero", "pub-hashloom/pub/uint128.Max"], apart := false, laid := [("pub-hashloom/pub/uint128.Zero", laid_pub_hashloom_pub_uint128_Zero), ("pub-hashloom/pub/uint128.Max", laid_pub_hashloom_pub_uint128_Max)] }
def FnWideConstantsSaid : Prop := fnWideConstantsRow.holds Tryd.pinned (OpenSpec.ofChange fnWideConstantsSpec)

/-- ITS FALSE NEIGHBOUR: 'it returns false'. Refute it at one input. -/
def fnWideConstantsWrong : ChangeSpec := { name := "fnWideConstants", fn := fun _ => fun
  | [d1, d2] => { results := [.lit (.bool false)], args := [d1, d2] }
  | _ => none }
def FnWideConstantsWrongFalsely : Prop := fnWideConstantsRow.holds Tryd.pinned (OpenSpec.ofChange fnWideConstantsWrong)

/-- 'laws.FnWideCounts': WHATEVER THE INPUT: true; the input reads as it did. -/
def fnWideCountsSpec : ChangeSpec := { name := "fnWideCounts", fn := fun _ => fun
  | [d] => { results := [.lit (.bool true)], args := [d] }
  | _ => none }
def fnWideCountsRow : OpenClaim := { program := "ytiifnofghicnaaadoor", sum := "f3fcce1dc9db40bc4441cfb583aa427a5ec7dda6e26578d7c30d1ab823082585", func := "pub-hashloom/laws.FnWideCounts", spec := "fnWideCounts", unfollowed := true, recurses := true, named := ["math/bits.deBruijn64tab"], apart := false, laid := [("math/bits.deBruijn64tab", laid_math_bits_deBruijn64tab)] }
def FnWideCountsSaid : Prop := fnWideCountsRow.holds Tryd.pinned (OpenSpec.ofChange fnWideCountsSpec)

/-- ITS FALSE NEIGHBOUR: 'it returns false'. Refute it at one input. -/
def fnWideCountsWrong : ChangeSpec := { name := "fnWideCounts", fn := fun _ => fun
  | [d] => { results := [.lit (.bool false)], args := [d] }
  | _ => none }
def FnWideCountsWrongFalsely : Prop := fnWideCountsRow.holds Tryd.pinned (OpenSpec.ofChange fnWideCountsWrong)

/-- 'laws.FnWideText': WHATEVER THE INPUT: true; the input reads as it did. -/
def fnWideTextSpec : ChangeSpec := { name := "fnWideText", fn := fun _ => fun
  | [d] => { results := [.lit (.bool true)], args := [d] }
  | _ => none }
def fnWideTextRow : OpenClaim := { program := "ytiifnofghicnaaadoor", sum := "f3fcce1dc9db40bc4441cfb583aa427a5ec7dda6e26578d7c30d1ab823082585", func := "pub-hashloom/laws.FnWideText", spec := "fnWideText", unfollowed := true, recurses := true, named := ["pub-hashloom/pub/gobits.divideError", "pub-hashloom/pub/gobits.overflowError"], apart := false, laid := [("pub-hashloom/pub/gobits.overflowError", laid_pub_hashloom_pub_gobits_overflowError), ("pub-hashloom/pub/gobits.divideError", laid_pub_hashloom_pub_gobits_divideError)] }
def FnWideTextSaid : Prop := fnWideTextRow.holds Tryd.pinned (OpenSpec.ofChange fnWideTextSpec)

/-- ITS FALSE NEIGHBOUR: 'it returns false'. Refute it at one input. -/
def fnWideTextWrong : ChangeSpec := { name := "fnWideText", fn := fun _ => fun
  | [d] => { results := [.lit (.bool false)], args := [d] }
  | _ => none }
def FnWideTextWrongFalsely : Prop := fnWideTextRow.holds Tryd.pinned (OpenSpec.ofChange fnWideTextWrong)

/-- 'laws.FnWideQuoRem64': WHATEVER THE INPUT: true; the input reads as it did. -/
def fnWideQuoRem64Spec : ChangeSpec := { name := "fnWideQuoRem64", fn := fun _ => fun
  | [d1, d2] => { results := [.lit (.bool true)], args := [d1, d2] }
  | _ => none }
def fnWideQuoRem64Row : OpenClaim := { program := "ytiifnofghicnaaadoor", sum := "f3fcce1dc9db40bc4441cfb583aa427a5ec7dda6e26578d7c30d1ab823082585", func := "pub-hashloom/laws.FnWideQuoRem64", spec := "fnWideQuoRem64", unfollowed := true, recurses := true, named := ["pub-hashloom/pub/gobits.divideError", "pub-hashloom/pub/gobits.overflowError"], apart := false, laid := [("pub-hashloom/pub/gobits.overflowError", laid_pub_hashloom_pub_gobits_overflowError), ("pub-hashloom/pub/gobits.divideError", laid_pub_hashloom_pub_gobits_divideError)] }
def FnWideQuoRem64Said : Prop := fnWideQuoRem64Row.holds Tryd.pinned (OpenSpec.ofChange fnWideQuoRem64Spec)

/-- ITS FALSE NEIGHBOUR: 'it returns false'. Refute it at one input. -/
def fnWideQuoRem64Wrong : ChangeSpec := { name := "fnWideQuoRem64", fn := fun _ => fun
  | [d1, d2] => { results := [.lit (.bool false)], args := [d1, d2] }
  | _ => none }
def FnWideQuoRem64WrongFalsely : Prop := fnWideQuoRem64Row.holds Tryd.pinned (OpenSpec.ofChange fnWideQuoRem64Wrong)

/-- 'laws.FnWideQuoRem': WHATEVER THE INPUT: true; the input reads as it did. -/
def fnWideQuoRemSpec : ChangeSpec := { name := "fnWideQuoRem", fn := fun _ => fun
  | [d1, d2] => { results := [.lit (.bool true)], args := [d1, d2] }
  | _ => none }
def fnWideQuoRemRow : OpenClaim := { program := "ytiifnofghicnaaadoor", sum := "f3fcce1dc9db40bc4441cfb583aa427a5ec7dda6e26578d7c30d1ab823082585", func := "pub-hashloom/laws.FnWideQuoRem", spec := "fnWideQuoRem", inPlace := ["math/bits.Add64", "math/bits.Sub64"], unfollowed := true, recurses := true, named := ["pub-hashloom/pub/gobits.divideError", "pub-hashloom/pub/gobits.overflowError"], apart := false, laid := [("pub-hashloom/pub/gobits.overflowError", laid_pub_hashloom_pub_gobits_overflowError), ("pub-hashloom/pub/gobits.divideError", laid_pub_hashloom_pub_gobits_divideError)] }
def FnWideQuoRemSaid : Prop := fnWideQuoRemRow.holds Tryd.pinned (OpenSpec.ofChange fnWideQuoRemSpec)

/-- ITS FALSE NEIGHBOUR: 'it returns false'. Refute it at one input. -/
def fnWideQuoRemWrong : ChangeSpec := { name := "fnWideQuoRem", fn := fun _ => fun
  | [d1, d2] => { results := [.lit (.bool false)], args := [d1, d2] }
  | _ => none }
def FnWideQuoRemWrongFalsely : Prop := fnWideQuoRemRow.holds Tryd.pinned (OpenSpec.ofChange fnWideQuoRemWrong)

/-- 'laws.FnWideDivides': WHATEVER THE INPUT: true; the input reads as it did. -/
def fnWideDividesSpec : ChangeSpec := { name := "fnWideDivides", fn := fun _ => fun
  | [d1, d2] => { results := [.lit (.bool true)], args := [d1, d2] }
  | _ => none }
def fnWideDividesRow : OpenClaim := { program := "ytiifnofghicnaaadoor", sum := "f3fcce1dc9db40bc4441cfb583aa427a5ec7dda6e26578d7c30d1ab823082585", func := "pub-hashloom/laws.FnWideDivides", spec := "fnWideDivides", inPlace := ["math/bits.Add64", "math/bits.Sub64"], unfollowed := true, recurses := true, named := ["pub-hashloom/pub/gobits.divideError", "pub-hashloom/pub/gobits.overflowError"], apart := false, laid := [("pub-hashloom/pub/gobits.overflowError", laid_pub_hashloom_pub_gobits_overflowError), ("pub-hashloom/pub/gobits.divideError", laid_pub_hashloom_pub_gobits_divideError)] }
def FnWideDividesSaid : Prop := fnWideDividesRow.holds Tryd.pinned (OpenSpec.ofChange fnWideDividesSpec)

/-- ITS FALSE NEIGHBOUR: 'it returns false'. Refute it at one input. -/
def fnWideDividesWrong : ChangeSpec := { name := "fnWideDivides", fn := fun _ => fun
  | [d1, d2] => { results := [.lit (.bool false)], args := [d1, d2] }
  | _ => none }
def FnWideDividesWrongFalsely : Prop := fnWideDividesRow.holds Tryd.pinned (OpenSpec.ofChange fnWideDividesWrong)

/-- 'laws.FnWideBack': WHATEVER THE INPUT: true; the input reads as it did. -/
def fnWideBackSpec : ChangeSpec := { name := "fnWideBack", fn := fun _ => fun
  | [d1, d2] => { results := [.lit (.bool true)], args := [d1, d2] }
  | _ => none }
def fnWideBackRow : OpenClaim := { program := "ytiifnofghicnaaadoor", sum := "f3fcce1dc9db40bc4441cfb583aa427a5ec7dda6e26578d7c30d1ab823082585", func := "pub-hashloom/laws.FnWideBack", spec := "fnWideBack", inPlace := ["math/bits.Add64", "math/bits.Sub64"], unfollowed := true, recurses := true, named := ["pub-hashloom/pub/gobits.divideError", "pub-hashloom/pub/gobits.overflowError"], apart := false, laid := [("pub-hashloom/pub/gobits.overflowError", laid_pub_hashloom_pub_gobits_overflowError), ("pub-hashloom/pub/gobits.divideError", laid_pub_hashloom_pub_gobits_divideError)] }
def FnWideBackSaid : Prop := fnWideBackRow.holds Tryd.pinned (OpenSpec.ofChange fnWideBackSpec)

/-- ITS FALSE NEIGHBOUR: 'it returns false'. Refute it at one input. -/
def fnWideBackWrong : ChangeSpec := { name := "fnWideBack", fn := fun _ => fun
  | [d1, d2] => { results := [.lit (.bool false)], args := [d1, d2] }
  | _ => none }
def FnWideBackWrongFalsely : Prop := fnWideBackRow.holds Tryd.pinned (OpenSpec.ofChange fnWideBackWrong)

/-- 'laws.FnWideRun': WHATEVER THE INPUT: true; the input reads as it did. -/
def fnWideRunSpec : ChangeSpec := { name := "fnWideRun", fn := fun _ => fun
  | [d1, d2] => { results := [.lit (.bool true)], args := [d1, d2] }
  | _ => none }
def fnWideRunRow : OpenClaim := { program := "ytiifnofghicnaaadoor", sum := "f3fcce1dc9db40bc4441cfb583aa427a5ec7dda6e26578d7c30d1ab823082585", func := "pub-hashloom/laws.FnWideRun", spec := "fnWideRun", inPlace := ["math/bits.Add64", "math/bits.Sub64"], unfollowed := true, recurses := true, named := ["pub-hashloom/pub/gobits.divideError", "pub-hashloom/pub/gobits.overflowError"], apart := false, laid := [("pub-hashloom/pub/gobits.overflowError", laid_pub_hashloom_pub_gobits_overflowError), ("pub-hashloom/pub/gobits.divideError", laid_pub_hashloom_pub_gobits_divideError)] }
def FnWideRunSaid : Prop := fnWideRunRow.holds Tryd.pinned (OpenSpec.ofChange fnWideRunSpec)

/-- ITS FALSE NEIGHBOUR: 'it returns false'. Refute it at one input. -/
def fnWideRunWrong : ChangeSpec := { name := "fnWideRun", fn := fun _ => fun
  | [d1, d2] => { results := [.lit (.bool false)], args := [d1, d2] }
  | _ => none }
def FnWideRunWrongFalsely : Prop := fnWideRunRow.holds Tryd.pinned (OpenSpec.ofChange fnWideRunWrong)

/- THE SECOND FORM. 'bulk': how many values and letters a reading holds, each counted each time it is reached (what is shared counts as often as it is met; a slice's spare places count too). A statement '..UptoSaid' is the law's where the arguments, and the package variables that the reading takes, are together of bulk at most 1048576: NARROWER than '..Said'. Prove '..Said' where nothing that the law and all that it calls make is longer than what came in: it says more and counts as full. Else prove '..UptoSaid'. A law counts once. -/
mutual
def uptoBulk {H : Type} : DataW H → Nat
  | .lit (.string bytes) => bytes.length + 1
  | .lit _ => 1
  | .nil => 1
  | .ptr d => uptoBulk d + 1
  | .slice elems spare => uptoBulkAll elems + uptoBulkAll spare + 1
  | .agg parts => uptoBulkAll parts + 1
  | .iface _ d => uptoBulk d + 1
  | .map entries => uptoBulkEntries entries + 1
  | .held _ => 1
def uptoBulkAll {H : Type} : List (DataW H) → Nat
  | [] => 0
  | d :: r => uptoBulk d + uptoBulkAll r
def uptoBulkEntries {H : Type} : List (Lit × DataW H) → Nat
  | [] => 0
  | x :: r => uptoBulkEntry x + uptoBulkEntries r
def uptoBulkEntry {H : Type} : Lit × DataW H → Nat
  | (.string bytes, d) => bytes.length + uptoBulk d + 1
  | (_, d) => uptoBulk d + 1
 end
def uptoSmall : (H : Type) → List (DataW H) → Bool := fun _ ds => decide (uptoBulkAll ds ≤ 1048576)
def OpenSpec.upto (s : _root_.Go.ChangeSpec) : _root_.Go.OpenSpec := { _root_.Go.OpenSpec.ofChange s with cond := some uptoSmall }

/-- 'laws.FnWideConstants', WHERE WHAT IT READS IS OF BULK AT MOST 1048576: true; the input reads as it did. -/
def fnWideConstantsUptoRow : OpenClaim := { program := "ytiifnofghicnaaadoor", sum := "f3fcce1dc9db40bc4441cfb583aa427a5ec7dda6e26578d7c30d1ab823082585", func := "pub-hashloom/laws.FnWideConstants", spec := "fnWideConstants", unfollowed := true, recurses := true, named := ["pub-hashloom/pub/uint128.Zero", "pub-hashloom/pub/uint128.Max"], apart := false, laid := [("pub-hashloom/pub/uint128.Zero", laid_pub_hashloom_pub_uint128_Zero), ("pub-hashloom/pub/uint128.Max", laid_pub_hashloom_pub_uint128_Max)], narrowed := true }
def FnWideConstantsUptoSaid : Prop := fnWideConstantsUptoRow.holds Tryd.pinned (OpenSpec.upto fnWideConstantsSpec)

/-- 'laws.FnWideCounts', WHERE WHAT IT READS IS OF BULK AT MOST 1048576: true; the input reads as it did. -/
def fnWideCountsUptoRow : OpenClaim := { program := "ytiifnofghicnaaadoor", sum := "f3fcce1dc9db40bc4441cfb583aa427a5ec7dda6e26578d7c30d1ab823082585", func := "pub-hashloom/laws.FnWideCounts", spec := "fnWideCounts", unfollowed := true, recurses := true, named := ["math/bits.deBruijn64tab"], apart := false, laid := [("math/bits.deBruijn64tab", laid_math_bits_deBruijn64tab)], narrowed := true }
def FnWideCountsUptoSaid : Prop := fnWideCountsUptoRow.holds Tryd.pinned (OpenSpec.upto fnWideCountsSpec)

/-- 'laws.FnWideText', WHERE WHAT IT READS IS OF BULK AT MOST 1048576: true; the input reads as it did. -/
def fnWideTextUptoRow : OpenClaim := { program := "ytiifnofghicnaaadoor", sum := "f3fcce1dc9db40bc4441cfb583aa427a5ec7dda6e26578d7c30d1ab823082585", func := "pub-hashloom/laws.FnWideText", spec := "fnWideText", unfollowed := true, recurses := true, named := ["pub-hashloom/pub/gobits.divideError", "pub-hashloom/pub/gobits.overflowError"], apart := false, laid := [("pub-hashloom/pub/gobits.overflowError", laid_pub_hashloom_pub_gobits_overflowError), ("pub-hashloom/pub/gobits.divideError", laid_pub_hashloom_pub_gobits_divideError)], narrowed := true }
def FnWideTextUptoSaid : Prop := fnWideTextUptoRow.holds Tryd.pinned (OpenSpec.upto fnWideTextSpec)

/-- 'laws.FnWideQuoRem64', WHERE WHAT IT READS IS OF BULK AT MOST 1048576: true; the input reads as it did. -/
def fnWideQuoRem64UptoRow : OpenClaim := { program := "ytiifnofghicnaaadoor", sum := "f3fcce1dc9db40bc4441cfb583aa427a5ec7dda6e26578d7c30d1ab823082585", func := "pub-hashloom/laws.FnWideQuoRem64", spec := "fnWideQuoRem64", unfollowed := true, recurses := true, named := ["pub-hashloom/pub/gobits.divideError", "pub-hashloom/pub/gobits.overflowError"], apart := false, laid := [("pub-hashloom/pub/gobits.overflowError", laid_pub_hashloom_pub_gobits_overflowError), ("pub-hashloom/pub/gobits.divideError", laid_pub_hashloom_pub_gobits_divideError)], narrowed := true }
def FnWideQuoRem64UptoSaid : Prop := fnWideQuoRem64UptoRow.holds Tryd.pinned (OpenSpec.upto fnWideQuoRem64Spec)

/-- 'laws.FnWideQuoRem', WHERE WHAT IT READS IS OF BULK AT MOST 1048576: true; the input reads as it did. -/
def fnWideQuoRemUptoRow : OpenClaim := { program := "ytiifnofghicnaaadoor", sum := "f3fcce1dc9db40bc4441cfb583aa427a5ec7dda6e26578d7c30d1ab823082585", func := "pub-hashloom/laws.FnWideQuoRem", spec := "fnWideQuoRem", inPlace := ["math/bits.Add64", "math/bits.Sub64"], unfollowed := true, recurses := true, named := ["pub-hashloom/pub/gobits.divideError", "pub-hashloom/pub/gobits.overflowError"], apart := false, laid := [("pub-hashloom/pub/gobits.overflowError", laid_pub_hashloom_pub_gobits_overflowError), ("pub-hashloom/pub/gobits.divideError", laid_pub_hashloom_pub_gobits_divideError)], narrowed := true }
def FnWideQuoRemUptoSaid : Prop := fnWideQuoRemUptoRow.holds Tryd.pinned (OpenSpec.upto fnWideQuoRemSpec)

/-- 'laws.FnWideDivides', WHERE WHAT IT READS IS OF BULK AT MOST 1048576: true; the input reads as it did. -/
def fnWideDividesUptoRow : OpenClaim := { program := "ytiifnofghicnaaadoor", sum := "f3fcce1dc9db40bc4441cfb583aa427a5ec7dda6e26578d7c30d1ab823082585", func := "pub-hashloom/laws.FnWideDivides", spec := "fnWideDivides", inPlace := ["math/bits.Add64", "math/bits.Sub64"], unfollowed := true, recurses := true, named := ["pub-hashloom/pub/gobits.divideError", "pub-hashloom/pub/gobits.overflowError"], apart := false, laid := [("pub-hashloom/pub/gobits.overflowError", laid_pub_hashloom_pub_gobits_overflowError), ("pub-hashloom/pub/gobits.divideError", laid_pub_hashloom_pub_gobits_divideError)], narrowed := true }
def FnWideDividesUptoSaid : Prop := fnWideDividesUptoRow.holds Tryd.pinned (OpenSpec.upto fnWideDividesSpec)

/-- 'laws.FnWideBack', WHERE WHAT IT READS IS OF BULK AT MOST 1048576: true; the input reads as it did. -/
def fnWideBackUptoRow : OpenClaim := { program := "ytiifnofghicnaaadoor", sum := "f3fcce1dc9db40bc4441cfb583aa427a5ec7dda6e26578d7c30d1ab823082585", func := "pub-hashloom/laws.FnWideBack", spec := "fnWideBack", inPlace := ["math/bits.Add64", "math/bits.Sub64"], unfollowed := true, recurses := true, named := ["pub-hashloom/pub/gobits.divideError", "pub-hashloom/pub/gobits.overflowError"], apart := false, laid := [("pub-hashloom/pub/gobits.overflowError", laid_pub_hashloom_pub_gobits_overflowError), ("pub-hashloom/pub/gobits.divideError", laid_pub_hashloom_pub_gobits_divideError)], narrowed := true }
def FnWideBackUptoSaid : Prop := fnWideBackUptoRow.holds Tryd.pinned (OpenSpec.upto fnWideBackSpec)

/-- 'laws.FnWideRun', WHERE WHAT IT READS IS OF BULK AT MOST 1048576: true; the input reads as it did. -/
def fnWideRunUptoRow : OpenClaim := { program := "ytiifnofghicnaaadoor", sum := "f3fcce1dc9db40bc4441cfb583aa427a5ec7dda6e26578d7c30d1ab823082585", func := "pub-hashloom/laws.FnWideRun", spec := "fnWideRun", inPlace := ["math/bits.Add64", "math/bits.Sub64"], unfollowed := true, recurses := true, named := ["pub-hashloom/pub/gobits.divideError", "pub-hashloom/pub/gobits.overflowError"], apart := false, laid := [("pub-hashloom/pub/gobits.overflowError", laid_pub_hashloom_pub_gobits_overflowError), ("pub-hashloom/pub/gobits.divideError", laid_pub_hashloom_pub_gobits_divideError)], narrowed := true }
def FnWideRunUptoSaid : Prop := fnWideRunUptoRow.holds Tryd.pinned (OpenSpec.upto fnWideRunSpec)

end Rows
end Go.Proofs.YtiifnofghicnaaaDoor
