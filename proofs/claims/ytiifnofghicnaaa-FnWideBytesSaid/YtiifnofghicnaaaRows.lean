/-
  No cell of these rows narrows 'for every input' (looked for: loops, veiled, ifaces, maps, wideKeys, modest, calm, conditions, laid).
  DERIVED. THE GIVEN ROWS OF THIS SEAT. 21 by the template 'for every input the law returns true; each argument reads behind the call as it read before'; 0 by the template 'total and deterministic' (their statements: YtiifnofghicnaaaTotals.lean).
  GIVEN WITH THE SEED: the statements are not yours to turn. If you find one false, say at which input.
  Laid BY PROGRAM, IN A SANDBOX (cutbox-rows.mjs): the forced cells as the released guide's own fill.sh prints them over the translation f7ffb4098d859add… (all of the seat's roots in one cut). By AI agents, Wed Nov 11 2026. No macro, syntax, notation, axiom, sorry.
-/
import Derived.Test.YtiifnofghicnaaaChecked
import GoSem.Claim
import GoSem.ClaimJoined
import GoSem.ClaimMapViews
import Derived.JoinedTies
import Derived.KernelRfl
namespace Go.Proofs.Ytiifnofghicnaaa
/- THE CELL 'sum', in the pinned program and in every row, IS THE sha256 OF THE DUMP (.gsa) THAT YtiifnofghicnaaaProg.lean LOADS. Nothing in Lean hashes anything: it is a label: what it is worth is what the hold of that sum in a sandbox is worth. -/
noncomputable def Try.pinned : Pinned := { name := "ytiifnofghicnaaa", sum := "f7ffb4098d859add45eb6e026a93513b159bf2b35dfcca33120d299cb0346100", checked := Try.checked }
namespace Rows
def none {H : Type} : Left H := { results := [], args := [] }

/-- 'laws.FnWideZeroIs': WHATEVER THE INPUT: true; the input reads as it did. -/
def fnWideZeroIsSpec : ChangeSpec := { name := "fnWideZeroIs", fn := fun _ => fun
  | [d] => { results := [.lit (.bool true)], args := [d] }
  | _ => none }
def fnWideZeroIsRow : OpenClaim := { program := "ytiifnofghicnaaa", sum := "f7ffb4098d859add45eb6e026a93513b159bf2b35dfcca33120d299cb0346100", func := "pub-hashloom/laws.FnWideZeroIs", spec := "fnWideZeroIs", unfollowed := true, recurses := true, apart := false }
def FnWideZeroIsSaid : Prop := fnWideZeroIsRow.holds Try.pinned (OpenSpec.ofChange fnWideZeroIsSpec)

/-- ITS FALSE NEIGHBOUR: 'it returns false'. Refute it at one input. -/
def fnWideZeroIsWrong : ChangeSpec := { name := "fnWideZeroIs", fn := fun _ => fun
  | [d] => { results := [.lit (.bool false)], args := [d] }
  | _ => none }
def FnWideZeroIsWrongFalsely : Prop := fnWideZeroIsRow.holds Try.pinned (OpenSpec.ofChange fnWideZeroIsWrong)

/-- 'laws.FnWideAnd': WHATEVER THE INPUT: true; the input reads as it did. -/
def fnWideAndSpec : ChangeSpec := { name := "fnWideAnd", fn := fun _ => fun
  | [d1, d2, d3] => { results := [.lit (.bool true)], args := [d1, d2, d3] }
  | _ => none }
def fnWideAndRow : OpenClaim := { program := "ytiifnofghicnaaa", sum := "f7ffb4098d859add45eb6e026a93513b159bf2b35dfcca33120d299cb0346100", func := "pub-hashloom/laws.FnWideAnd", spec := "fnWideAnd", unfollowed := true, recurses := true, apart := false }
def FnWideAndSaid : Prop := fnWideAndRow.holds Try.pinned (OpenSpec.ofChange fnWideAndSpec)

/-- ITS FALSE NEIGHBOUR: 'it returns false'. Refute it at one input. -/
def fnWideAndWrong : ChangeSpec := { name := "fnWideAnd", fn := fun _ => fun
  | [d1, d2, d3] => { results := [.lit (.bool false)], args := [d1, d2, d3] }
  | _ => none }
def FnWideAndWrongFalsely : Prop := fnWideAndRow.holds Try.pinned (OpenSpec.ofChange fnWideAndWrong)

/-- 'laws.FnWideOr': WHATEVER THE INPUT: true; the input reads as it did. -/
def fnWideOrSpec : ChangeSpec := { name := "fnWideOr", fn := fun _ => fun
  | [d1, d2, d3] => { results := [.lit (.bool true)], args := [d1, d2, d3] }
  | _ => none }
def fnWideOrRow : OpenClaim := { program := "ytiifnofghicnaaa", sum := "f7ffb4098d859add45eb6e026a93513b159bf2b35dfcca33120d299cb0346100", func := "pub-hashloom/laws.FnWideOr", spec := "fnWideOr", unfollowed := true, recurses := true, apart := false }
def FnWideOrSaid : Prop := fnWideOrRow.holds Try.pinned (OpenSpec.ofChange fnWideOrSpec)

/-- ITS FALSE NEIGHBOUR: 'it returns false'. Refute it at one input. -/
def fnWideOrWrong : ChangeSpec := { name := "fnWideOr", fn := fun _ => fun
  | [d1, d2, d3] => { results := [.lit (.bool false)], args := [d1, d2, d3] }
  | _ => none }
def FnWideOrWrongFalsely : Prop := fnWideOrRow.holds Try.pinned (OpenSpec.ofChange fnWideOrWrong)

/-- 'laws.FnWideXor': WHATEVER THE INPUT: true; the input reads as it did. -/
def fnWideXorSpec : ChangeSpec := { name := "fnWideXor", fn := fun _ => fun
  | [d1, d2, d3] => { results := [.lit (.bool true)], args := [d1, d2, d3] }
  | _ => none }
def fnWideXorRow : OpenClaim := { program := "ytiifnofghicnaaa", sum := "f7ffb4098d859add45eb6e026a93513b159bf2b35dfcca33120d299cb0346100", func := "pub-hashloom/laws.FnWideXor", spec := "fnWideXor", unfollowed := true, recurses := true, apart := false }
def FnWideXorSaid : Prop := fnWideXorRow.holds Try.pinned (OpenSpec.ofChange fnWideXorSpec)

/-- ITS FALSE NEIGHBOUR: 'it returns false'. Refute it at one input. -/
def fnWideXorWrong : ChangeSpec := { name := "fnWideXor", fn := fun _ => fun
  | [d1, d2, d3] => { results := [.lit (.bool false)], args := [d1, d2, d3] }
  | _ => none }
def FnWideXorWrongFalsely : Prop := fnWideXorRow.holds Try.pinned (OpenSpec.ofChange fnWideXorWrong)

/-- 'laws.FnWideLsh': WHATEVER THE INPUT: true; the input reads as it did. -/
def fnWideLshSpec : ChangeSpec := { name := "fnWideLsh", fn := fun _ => fun
  | [d1, d2] => { results := [.lit (.bool true)], args := [d1, d2] }
  | _ => none }
def fnWideLshRow : OpenClaim := { program := "ytiifnofghicnaaa", sum := "f7ffb4098d859add45eb6e026a93513b159bf2b35dfcca33120d299cb0346100", func := "pub-hashloom/laws.FnWideLsh", spec := "fnWideLsh", unfollowed := true, recurses := true, apart := false }
def FnWideLshSaid : Prop := fnWideLshRow.holds Try.pinned (OpenSpec.ofChange fnWideLshSpec)

/-- ITS FALSE NEIGHBOUR: 'it returns false'. Refute it at one input. -/
def fnWideLshWrong : ChangeSpec := { name := "fnWideLsh", fn := fun _ => fun
  | [d1, d2] => { results := [.lit (.bool false)], args := [d1, d2] }
  | _ => none }
def FnWideLshWrongFalsely : Prop := fnWideLshRow.holds Try.pinned (OpenSpec.ofChange fnWideLshWrong)

/-- 'laws.FnWideRsh': WHATEVER THE INPUT: true; the input reads as it did. -/
def fnWideRshSpec : ChangeSpec := { name := "fnWideRsh", fn := fun _ => fun
  | [d1, d2] => { results := [.lit (.bool true)], args := [d1, d2] }
  | _ => none }
def fnWideRshRow : OpenClaim := { program := "ytiifnofghicnaaa", sum := "f7ffb4098d859add45eb6e026a93513b159bf2b35dfcca33120d299cb0346100", func := "pub-hashloom/laws.FnWideRsh", spec := "fnWideRsh", unfollowed := true, recurses := true, apart := false }
def FnWideRshSaid : Prop := fnWideRshRow.holds Try.pinned (OpenSpec.ofChange fnWideRshSpec)

/-- ITS FALSE NEIGHBOUR: 'it returns false'. Refute it at one input. -/
def fnWideRshWrong : ChangeSpec := { name := "fnWideRsh", fn := fun _ => fun
  | [d1, d2] => { results := [.lit (.bool false)], args := [d1, d2] }
  | _ => none }
def FnWideRshWrongFalsely : Prop := fnWideRshRow.holds Try.pinned (OpenSpec.ofChange fnWideRshWrong)

/-- 'laws.FnWideCmp': WHATEVER THE INPUT: true; the input reads as it did. -/
def fnWideCmpSpec : ChangeSpec := { name := "fnWideCmp", fn := fun _ => fun
  | [d1, d2] => { results := [.lit (.bool true)], args := [d1, d2] }
  | _ => none }
def fnWideCmpRow : OpenClaim := { program := "ytiifnofghicnaaa", sum := "f7ffb4098d859add45eb6e026a93513b159bf2b35dfcca33120d299cb0346100", func := "pub-hashloom/laws.FnWideCmp", spec := "fnWideCmp", unfollowed := true, recurses := true, apart := false }
def FnWideCmpSaid : Prop := fnWideCmpRow.holds Try.pinned (OpenSpec.ofChange fnWideCmpSpec)

/-- ITS FALSE NEIGHBOUR: 'it returns false'. Refute it at one input. -/
def fnWideCmpWrong : ChangeSpec := { name := "fnWideCmp", fn := fun _ => fun
  | [d1, d2] => { results := [.lit (.bool false)], args := [d1, d2] }
  | _ => none }
def FnWideCmpWrongFalsely : Prop := fnWideCmpRow.holds Try.pinned (OpenSpec.ofChange fnWideCmpWrong)

/-- 'laws.FnWideCmp64': WHATEVER THE INPUT: true; the input reads as it did. -/
def fnWideCmp64Spec : ChangeSpec := { name := "fnWideCmp64", fn := fun _ => fun
  | [d1, d2] => { results := [.lit (.bool true)], args := [d1, d2] }
  | _ => none }
def fnWideCmp64Row : OpenClaim := { program := "ytiifnofghicnaaa", sum := "f7ffb4098d859add45eb6e026a93513b159bf2b35dfcca33120d299cb0346100", func := "pub-hashloom/laws.FnWideCmp64", spec := "fnWideCmp64", unfollowed := true, recurses := true, apart := false }
def FnWideCmp64Said : Prop := fnWideCmp64Row.holds Try.pinned (OpenSpec.ofChange fnWideCmp64Spec)

/-- ITS FALSE NEIGHBOUR: 'it returns false'. Refute it at one input. -/
def fnWideCmp64Wrong : ChangeSpec := { name := "fnWideCmp64", fn := fun _ => fun
  | [d1, d2] => { results := [.lit (.bool false)], args := [d1, d2] }
  | _ => none }
def FnWideCmp64WrongFalsely : Prop := fnWideCmp64Row.holds Try.pinned (OpenSpec.ofChange fnWideCmp64Wrong)

/-- 'laws.FnWideSubWrap': WHATEVER THE INPUT: true; the input reads as it did. -/
def fnWideSubWrapSpec : ChangeSpec := { name := "fnWideSubWrap", fn := fun _ => fun
  | [d1, d2, d3] => { results := [.lit (.bool true)], args := [d1, d2, d3] }
  | _ => none }
def fnWideSubWrapRow : OpenClaim := { program := "ytiifnofghicnaaa", sum := "f7ffb4098d859add45eb6e026a93513b159bf2b35dfcca33120d299cb0346100", func := "pub-hashloom/laws.FnWideSubWrap", spec := "fnWideSubWrap", inPlace := ["math/bits.Sub64"], unfollowed := true, recurses := true, apart := false }
def FnWideSubWrapSaid : Prop := fnWideSubWrapRow.holds Try.pinned (OpenSpec.ofChange fnWideSubWrapSpec)

/-- ITS FALSE NEIGHBOUR: 'it returns false'. Refute it at one input. -/
def fnWideSubWrapWrong : ChangeSpec := { name := "fnWideSubWrap", fn := fun _ => fun
  | [d1, d2, d3] => { results := [.lit (.bool false)], args := [d1, d2, d3] }
  | _ => none }
def FnWideSubWrapWrongFalsely : Prop := fnWideSubWrapRow.holds Try.pinned (OpenSpec.ofChange fnWideSubWrapWrong)

/-- 'laws.FnWideAddWrap': WHATEVER THE INPUT: true; the input reads as it did. -/
def fnWideAddWrapSpec : ChangeSpec := { name := "fnWideAddWrap", fn := fun _ => fun
  | [d1, d2, d3] => { results := [.lit (.bool true)], args := [d1, d2, d3] }
  | _ => none }
def fnWideAddWrapRow : OpenClaim := { program := "ytiifnofghicnaaa", sum := "f7ffb4098d859add45eb6e026a93513b159bf2b35dfcca33120d299cb0346100", func := "pub-hashloom/laws.FnWideAddWrap", spec := "fnWideAddWrap", inPlace := ["math/bits.Add64"], unfollowed := true, recurses := true, apart := false }
def FnWideAddWrapSaid : Prop := fnWideAddWrapRow.holds Try.pinned (OpenSpec.ofChange fnWideAddWrapSpec)

/-- ITS FALSE NEIGHBOUR: 'it returns false'. Refute it at one input. -/
def fnWideAddWrapWrong : ChangeSpec := { name := "fnWideAddWrap", fn := fun _ => fun
  | [d1, d2, d3] => { results := [.lit (.bool false)], args := [d1, d2, d3] }
  | _ => none }
def FnWideAddWrapWrongFalsely : Prop := fnWideAddWrapRow.holds Try.pinned (OpenSpec.ofChange fnWideAddWrapWrong)

/-- 'laws.FnWideReverse': WHATEVER THE INPUT: true; the input reads as it did. -/
def fnWideReverseSpec : ChangeSpec := { name := "fnWideReverse", fn := fun _ => fun
  | [d] => { results := [.lit (.bool true)], args := [d] }
  | _ => none }
def fnWideReverseRow : OpenClaim := { program := "ytiifnofghicnaaa", sum := "f7ffb4098d859add45eb6e026a93513b159bf2b35dfcca33120d299cb0346100", func := "pub-hashloom/laws.FnWideReverse", spec := "fnWideReverse", unfollowed := true, recurses := true, apart := false }
def FnWideReverseSaid : Prop := fnWideReverseRow.holds Try.pinned (OpenSpec.ofChange fnWideReverseSpec)

/-- ITS FALSE NEIGHBOUR: 'it returns false'. Refute it at one input. -/
def fnWideReverseWrong : ChangeSpec := { name := "fnWideReverse", fn := fun _ => fun
  | [d] => { results := [.lit (.bool false)], args := [d] }
  | _ => none }
def FnWideReverseWrongFalsely : Prop := fnWideReverseRow.holds Try.pinned (OpenSpec.ofChange fnWideReverseWrong)

/-- 'laws.FnWideSub': WHATEVER THE INPUT: true; the input reads as it did. -/
def fnWideSubSpec : ChangeSpec := { name := "fnWideSub", fn := fun _ => fun
  | [d1, d2] => { results := [.lit (.bool true)], args := [d1, d2] }
  | _ => none }
def fnWideSubRow : OpenClaim := { program := "ytiifnofghicnaaa", sum := "f7ffb4098d859add45eb6e026a93513b159bf2b35dfcca33120d299cb0346100", func := "pub-hashloom/laws.FnWideSub", spec := "fnWideSub", inPlace := ["math/bits.Sub64"], unfollowed := true, recurses := true, apart := false }
def FnWideSubSaid : Prop := fnWideSubRow.holds Try.pinned (OpenSpec.ofChange fnWideSubSpec)

/-- ITS FALSE NEIGHBOUR: 'it returns false'. Refute it at one input. -/
def fnWideSubWrong : ChangeSpec := { name := "fnWideSub", fn := fun _ => fun
  | [d1, d2] => { results := [.lit (.bool false)], args := [d1, d2] }
  | _ => none }
def FnWideSubWrongFalsely : Prop := fnWideSubRow.holds Try.pinned (OpenSpec.ofChange fnWideSubWrong)

/-- 'laws.FnWideSub64': WHATEVER THE INPUT: true; the input reads as it did. -/
def fnWideSub64Spec : ChangeSpec := { name := "fnWideSub64", fn := fun _ => fun
  | [d1, d2] => { results := [.lit (.bool true)], args := [d1, d2] }
  | _ => none }
def fnWideSub64Row : OpenClaim := { program := "ytiifnofghicnaaa", sum := "f7ffb4098d859add45eb6e026a93513b159bf2b35dfcca33120d299cb0346100", func := "pub-hashloom/laws.FnWideSub64", spec := "fnWideSub64", inPlace := ["math/bits.Sub64"], unfollowed := true, recurses := true, apart := false }
def FnWideSub64Said : Prop := fnWideSub64Row.holds Try.pinned (OpenSpec.ofChange fnWideSub64Spec)

/-- ITS FALSE NEIGHBOUR: 'it returns false'. Refute it at one input. -/
def fnWideSub64Wrong : ChangeSpec := { name := "fnWideSub64", fn := fun _ => fun
  | [d1, d2] => { results := [.lit (.bool false)], args := [d1, d2] }
  | _ => none }
def FnWideSub64WrongFalsely : Prop := fnWideSub64Row.holds Try.pinned (OpenSpec.ofChange fnWideSub64Wrong)

/-- 'laws.FnWideAdd': WHATEVER THE INPUT: true; the input reads as it did. -/
def fnWideAddSpec : ChangeSpec := { name := "fnWideAdd", fn := fun _ => fun
  | [d1, d2] => { results := [.lit (.bool true)], args := [d1, d2] }
  | _ => none }
def fnWideAddRow : OpenClaim := { program := "ytiifnofghicnaaa", sum := "f7ffb4098d859add45eb6e026a93513b159bf2b35dfcca33120d299cb0346100", func := "pub-hashloom/laws.FnWideAdd", spec := "fnWideAdd", inPlace := ["math/bits.Add64"], unfollowed := true, recurses := true, apart := false }
def FnWideAddSaid : Prop := fnWideAddRow.holds Try.pinned (OpenSpec.ofChange fnWideAddSpec)

/-- ITS FALSE NEIGHBOUR: 'it returns false'. Refute it at one input. -/
def fnWideAddWrong : ChangeSpec := { name := "fnWideAdd", fn := fun _ => fun
  | [d1, d2] => { results := [.lit (.bool false)], args := [d1, d2] }
  | _ => none }
def FnWideAddWrongFalsely : Prop := fnWideAddRow.holds Try.pinned (OpenSpec.ofChange fnWideAddWrong)

/-- 'laws.FnWideAdd64': WHATEVER THE INPUT: true; the input reads as it did. -/
def fnWideAdd64Spec : ChangeSpec := { name := "fnWideAdd64", fn := fun _ => fun
  | [d1, d2] => { results := [.lit (.bool true)], args := [d1, d2] }
  | _ => none }
def fnWideAdd64Row : OpenClaim := { program := "ytiifnofghicnaaa", sum := "f7ffb4098d859add45eb6e026a93513b159bf2b35dfcca33120d299cb0346100", func := "pub-hashloom/laws.FnWideAdd64", spec := "fnWideAdd64", inPlace := ["math/bits.Add64"], unfollowed := true, recurses := true, apart := false }
def FnWideAdd64Said : Prop := fnWideAdd64Row.holds Try.pinned (OpenSpec.ofChange fnWideAdd64Spec)

/-- ITS FALSE NEIGHBOUR: 'it returns false'. Refute it at one input. -/
def fnWideAdd64Wrong : ChangeSpec := { name := "fnWideAdd64", fn := fun _ => fun
  | [d1, d2] => { results := [.lit (.bool false)], args := [d1, d2] }
  | _ => none }
def FnWideAdd64WrongFalsely : Prop := fnWideAdd64Row.holds Try.pinned (OpenSpec.ofChange fnWideAdd64Wrong)

/-- 'laws.FnWideMulWrap': WHATEVER THE INPUT: true; the input reads as it did. -/
def fnWideMulWrapSpec : ChangeSpec := { name := "fnWideMulWrap", fn := fun _ => fun
  | [d1, d2, d3] => { results := [.lit (.bool true)], args := [d1, d2, d3] }
  | _ => none }
def fnWideMulWrapRow : OpenClaim := { program := "ytiifnofghicnaaa", sum := "f7ffb4098d859add45eb6e026a93513b159bf2b35dfcca33120d299cb0346100", func := "pub-hashloom/laws.FnWideMulWrap", spec := "fnWideMulWrap", unfollowed := true, recurses := true, apart := false }
def FnWideMulWrapSaid : Prop := fnWideMulWrapRow.holds Try.pinned (OpenSpec.ofChange fnWideMulWrapSpec)

/-- ITS FALSE NEIGHBOUR: 'it returns false'. Refute it at one input. -/
def fnWideMulWrapWrong : ChangeSpec := { name := "fnWideMulWrap", fn := fun _ => fun
  | [d1, d2, d3] => { results := [.lit (.bool false)], args := [d1, d2, d3] }
  | _ => none }
def FnWideMulWrapWrongFalsely : Prop := fnWideMulWrapRow.holds Try.pinned (OpenSpec.ofChange fnWideMulWrapWrong)

/-- 'laws.FnWideRotateLeft': WHATEVER THE INPUT: true; the input reads as it did. -/
def fnWideRotateLeftSpec : ChangeSpec := { name := "fnWideRotateLeft", fn := fun _ => fun
  | [d1, d2] => { results := [.lit (.bool true)], args := [d1, d2] }
  | _ => none }
def fnWideRotateLeftRow : OpenClaim := { program := "ytiifnofghicnaaa", sum := "f7ffb4098d859add45eb6e026a93513b159bf2b35dfcca33120d299cb0346100", func := "pub-hashloom/laws.FnWideRotateLeft", spec := "fnWideRotateLeft", unfollowed := true, recurses := true, apart := false }
def FnWideRotateLeftSaid : Prop := fnWideRotateLeftRow.holds Try.pinned (OpenSpec.ofChange fnWideRotateLeftSpec)

/-- ITS FALSE NEIGHBOUR: 'it returns false'. Refute it at one input. -/
def fnWideRotateLeftWrong : ChangeSpec := { name := "fnWideRotateLeft", fn := fun _ => fun
  | [d1, d2] => { results := [.lit (.bool false)], args := [d1, d2] }
  | _ => none }
def FnWideRotateLeftWrongFalsely : Prop := fnWideRotateLeftRow.holds Try.pinned (OpenSpec.ofChange fnWideRotateLeftWrong)

/-- 'laws.FnWideRotateRight': WHATEVER THE INPUT: true; the input reads as it did. -/
def fnWideRotateRightSpec : ChangeSpec := { name := "fnWideRotateRight", fn := fun _ => fun
  | [d1, d2] => { results := [.lit (.bool true)], args := [d1, d2] }
  | _ => none }
def fnWideRotateRightRow : OpenClaim := { program := "ytiifnofghicnaaa", sum := "f7ffb4098d859add45eb6e026a93513b159bf2b35dfcca33120d299cb0346100", func := "pub-hashloom/laws.FnWideRotateRight", spec := "fnWideRotateRight", unfollowed := true, recurses := true, apart := false }
def FnWideRotateRightSaid : Prop := fnWideRotateRightRow.holds Try.pinned (OpenSpec.ofChange fnWideRotateRightSpec)

/-- ITS FALSE NEIGHBOUR: 'it returns false'. Refute it at one input. -/
def fnWideRotateRightWrong : ChangeSpec := { name := "fnWideRotateRight", fn := fun _ => fun
  | [d1, d2] => { results := [.lit (.bool false)], args := [d1, d2] }
  | _ => none }
def FnWideRotateRightWrongFalsely : Prop := fnWideRotateRightRow.holds Try.pinned (OpenSpec.ofChange fnWideRotateRightWrong)

/-- 'laws.FnWideMul64': WHATEVER THE INPUT: true; the input reads as it did. -/
def fnWideMul64Spec : ChangeSpec := { name := "fnWideMul64", fn := fun _ => fun
  | [d1, d2] => { results := [.lit (.bool true)], args := [d1, d2] }
  | _ => none }
def fnWideMul64Row : OpenClaim := { program := "ytiifnofghicnaaa", sum := "f7ffb4098d859add45eb6e026a93513b159bf2b35dfcca33120d299cb0346100", func := "pub-hashloom/laws.FnWideMul64", spec := "fnWideMul64", inPlace := ["math/bits.Add64"], unfollowed := true, recurses := true, apart := false }
def FnWideMul64Said : Prop := fnWideMul64Row.holds Try.pinned (OpenSpec.ofChange fnWideMul64Spec)

/-- ITS FALSE NEIGHBOUR: 'it returns false'. Refute it at one input. -/
def fnWideMul64Wrong : ChangeSpec := { name := "fnWideMul64", fn := fun _ => fun
  | [d1, d2] => { results := [.lit (.bool false)], args := [d1, d2] }
  | _ => none }
def FnWideMul64WrongFalsely : Prop := fnWideMul64Row.holds Try.pinned (OpenSpec.ofChange fnWideMul64Wrong)

/-- 'laws.FnWideMul': WHATEVER THE INPUT: true; the input reads as it did. -/
def fnWideMulSpec : ChangeSpec := { name := "fnWideMul", fn := fun _ => fun
  | [d1, d2] => { results := [.lit (.bool true)], args := [d1, d2] }
  | _ => none }
def fnWideMulRow : OpenClaim := { program := "ytiifnofghicnaaa", sum := "f7ffb4098d859add45eb6e026a93513b159bf2b35dfcca33120d299cb0346100", func := "pub-hashloom/laws.FnWideMul", spec := "fnWideMul", inPlace := ["math/bits.Add64"], unfollowed := true, recurses := true, apart := false }
def FnWideMulSaid : Prop := fnWideMulRow.holds Try.pinned (OpenSpec.ofChange fnWideMulSpec)

/-- ITS FALSE NEIGHBOUR: 'it returns false'. Refute it at one input. -/
def fnWideMulWrong : ChangeSpec := { name := "fnWideMul", fn := fun _ => fun
  | [d1, d2] => { results := [.lit (.bool false)], args := [d1, d2] }
  | _ => none }
def FnWideMulWrongFalsely : Prop := fnWideMulRow.holds Try.pinned (OpenSpec.ofChange fnWideMulWrong)

/-- 'laws.FnWideBytes': WHATEVER THE INPUT: true; the input reads as it did. -/
def fnWideBytesSpec : ChangeSpec := { name := "fnWideBytes", fn := fun _ => fun
  | [d1, d2, d3] => { results := [.lit (.bool true)], args := [d1, d2, d3] }
  | _ => none }
def fnWideBytesRow : OpenClaim := { program := "ytiifnofghicnaaa", sum := "f7ffb4098d859add45eb6e026a93513b159bf2b35dfcca33120d299cb0346100", func := "pub-hashloom/laws.FnWideBytes", spec := "fnWideBytes", unfollowed := true, recurses := true, named := ["encoding/binary.BigEndian", "encoding/binary.LittleEndian"], apart := false }
def FnWideBytesSaid : Prop := fnWideBytesRow.holds Try.pinned (OpenSpec.ofChange fnWideBytesSpec)

/-- ITS FALSE NEIGHBOUR: 'it returns false'. Refute it at one input. -/
def fnWideBytesWrong : ChangeSpec := { name := "fnWideBytes", fn := fun _ => fun
  | [d1, d2, d3] => { results := [.lit (.bool false)], args := [d1, d2, d3] }
  | _ => none }
def FnWideBytesWrongFalsely : Prop := fnWideBytesRow.holds Try.pinned (OpenSpec.ofChange fnWideBytesWrong)

/- THE SECOND FORM. 'bulk': how many values and letters a reading holds, each counted each time it is reached (what is shared counts as often as it is met; a slice's spare places count too). A statement '..UptoSaid' is the law's where the arguments, and the package variables that the reading takes, are together of bulk at most 1048576: NARROWER than '..Said'. Prove '..Said' where nothing that the law and all that it calls make is longer than what came in: it says more and counts as full. Else prove '..UptoSaid'. A law counts once. -/
mutual
def uptoBulk {H : Type} : DataW H → Nat
  | .lit (.string bytes) => bytes.length + 1
  | .lit _ => 1
  | .nil => 1
  | .ptr d => uptoBulk d + 1
  | .slice elems spare => uptoBulkAll elems + uptoBulkAll spare + 1
  | .agg parts => uptoBulkAll parts + 1
  | .iface _ d => uptoBulk d + 1
  | .map entries => uptoBulkEntries entries + 1
  | .held _ => 1
def uptoBulkAll {H : Type} : List (DataW H) → Nat
  | [] => 0
  | d :: r => uptoBulk d + uptoBulkAll r
def uptoBulkEntries {H : Type} : List (Lit × DataW H) → Nat
  | [] => 0
  | x :: r => uptoBulkEntry x + uptoBulkEntries r
def uptoBulkEntry {H : Type} : Lit × DataW H → Nat
  | (.string bytes, d) => bytes.length + uptoBulk d + 1
  | (_, d) => uptoBulk d + 1
 end
def uptoSmall : (H : Type) → List (DataW H) → Bool := fun _ ds => decide (uptoBulkAll ds ≤ 1048576)
def OpenSpec.upto (s : _root_.Go.ChangeSpec) : _root_.Go.OpenSpec := { _root_.Go.OpenSpec.ofChange s with cond := some uptoSmall }

/-- 'laws.FnWideZeroIs', WHERE WHAT IT READS IS OF BULK AT MOST 1048576: true; the input reads as it did. -/
def fnWideZeroIsUptoRow : OpenClaim := { program := "ytiifnofghicnaaa", sum := "f7ffb4098d859add45eb6e026a93513b159bf2b35dfcca33120d299cb0346100", func := "pub-hashloom/laws.FnWideZeroIs", spec := "fnWideZeroIs", unfollowed := true, recurses := true, apart := false, narrowed := true }
def FnWideZeroIsUptoSaid : Prop := fnWideZeroIsUptoRow.holds Try.pinned (OpenSpec.upto fnWideZeroIsSpec)

/-- 'laws.FnWideAnd', WHERE WHAT IT READS IS OF BULK AT MOST 1048576: true; the input reads as it did. -/
def fnWideAndUptoRow : OpenClaim := { program := "ytiifnofghicnaaa", sum := "f7ffb4098d859add45eb6e026a93513b159bf2b35dfcca33120d299cb0346100", func := "pub-hashloom/laws.FnWideAnd", spec := "fnWideAnd", unfollowed := true, recurses := true, apart := false, narrowed := true }
def FnWideAndUptoSaid : Prop := fnWideAndUptoRow.holds Try.pinned (OpenSpec.upto fnWideAndSpec)

/-- 'laws.FnWideOr', WHERE WHAT IT READS IS OF BULK AT MOST 1048576: true; the input reads as it did. -/
def fnWideOrUptoRow : OpenClaim := { program := "ytiifnofghicnaaa", sum := "f7ffb4098d859add45eb6e026a93513b159bf2b35dfcca33120d299cb0346100", func := "pub-hashloom/laws.FnWideOr", spec := "fnWideOr", unfollowed := true, recurses := true, apart := false, narrowed := true }
def FnWideOrUptoSaid : Prop := fnWideOrUptoRow.holds Try.pinned (OpenSpec.upto fnWideOrSpec)

/-- 'laws.FnWideXor', WHERE WHAT IT READS IS OF BULK AT MOST 1048576: true; the input reads as it did. -/
def fnWideXorUptoRow : OpenClaim := { program := "ytiifnofghicnaaa", sum := "f7ffb4098d859add45eb6e026a93513b159bf2b35dfcca33120d299cb0346100", func := "pub-hashloom/laws.FnWideXor", spec := "fnWideXor", unfollowed := true, recurses := true, apart := false, narrowed := true }
def FnWideXorUptoSaid : Prop := fnWideXorUptoRow.holds Try.pinned (OpenSpec.upto fnWideXorSpec)

/-- 'laws.FnWideLsh', WHERE WHAT IT READS IS OF BULK AT MOST 1048576: true; the input reads as it did. -/
def fnWideLshUptoRow : OpenClaim := { program := "ytiifnofghicnaaa", sum := "f7ffb4098d859add45eb6e026a93513b159bf2b35dfcca33120d299cb0346100", func := "pub-hashloom/laws.FnWideLsh", spec := "fnWideLsh", unfollowed := true, recurses := true, apart := false, narrowed := true }
def FnWideLshUptoSaid : Prop := fnWideLshUptoRow.holds Try.pinned (OpenSpec.upto fnWideLshSpec)

/-- 'laws.FnWideRsh', WHERE WHAT IT READS IS OF BULK AT MOST 1048576: true; the input reads as it did. -/
def fnWideRshUptoRow : OpenClaim := { program := "ytiifnofghicnaaa", sum := "f7ffb4098d859add45eb6e026a93513b159bf2b35dfcca33120d299cb0346100", func := "pub-hashloom/laws.FnWideRsh", spec := "fnWideRsh", unfollowed := true, recurses := true, apart := false, narrowed := true }
def FnWideRshUptoSaid : Prop := fnWideRshUptoRow.holds Try.pinned (OpenSpec.upto fnWideRshSpec)

/-- 'laws.FnWideCmp', WHERE WHAT IT READS IS OF BULK AT MOST 1048576: true; the input reads as it did. -/
def fnWideCmpUptoRow : OpenClaim := { program := "ytiifnofghicnaaa", sum := "f7ffb4098d859add45eb6e026a93513b159bf2b35dfcca33120d299cb0346100", func := "pub-hashloom/laws.FnWideCmp", spec := "fnWideCmp", unfollowed := true, recurses := true, apart := false, narrowed := true }
def FnWideCmpUptoSaid : Prop := fnWideCmpUptoRow.holds Try.pinned (OpenSpec.upto fnWideCmpSpec)

/-- 'laws.FnWideCmp64', WHERE WHAT IT READS IS OF BULK AT MOST 1048576: true; the input reads as it did. -/
def fnWideCmp64UptoRow : OpenClaim := { program := "ytiifnofghicnaaa", sum := "f7ffb4098d859add45eb6e026a93513b159bf2b35dfcca33120d299cb0346100", func := "pub-hashloom/laws.FnWideCmp64", spec := "fnWideCmp64", unfollowed := true, recurses := true, apart := false, narrowed := true }
def FnWideCmp64UptoSaid : Prop := fnWideCmp64UptoRow.holds Try.pinned (OpenSpec.upto fnWideCmp64Spec)

/-- 'laws.FnWideSubWrap', WHERE WHAT IT READS IS OF BULK AT MOST 1048576: true; the input reads as it did. -/
def fnWideSubWrapUptoRow : OpenClaim := { program := "ytiifnofghicnaaa", sum := "f7ffb4098d859add45eb6e026a93513b159bf2b35dfcca33120d299cb0346100", func := "pub-hashloom/laws.FnWideSubWrap", spec := "fnWideSubWrap", inPlace := ["math/bits.Sub64"], unfollowed := true, recurses := true, apart := false, narrowed := true }
def FnWideSubWrapUptoSaid : Prop := fnWideSubWrapUptoRow.holds Try.pinned (OpenSpec.upto fnWideSubWrapSpec)

/-- 'laws.FnWideAddWrap', WHERE WHAT IT READS IS OF BULK AT MOST 1048576: true; the input reads as it did. -/
def fnWideAddWrapUptoRow : OpenClaim := { program := "ytiifnofghicnaaa", sum := "f7ffb4098d859add45eb6e026a93513b159bf2b35dfcca33120d299cb0346100", func := "pub-hashloom/laws.FnWideAddWrap", spec := "fnWideAddWrap", inPlace := ["math/bits.Add64"], unfollowed := true, recurses := true, apart := false, narrowed := true }
def FnWideAddWrapUptoSaid : Prop := fnWideAddWrapUptoRow.holds Try.pinned (OpenSpec.upto fnWideAddWrapSpec)

/-- 'laws.FnWideReverse', WHERE WHAT IT READS IS OF BULK AT MOST 1048576: true; the input reads as it did. -/
def fnWideReverseUptoRow : OpenClaim := { program := "ytiifnofghicnaaa", sum := "f7ffb4098d859add45eb6e026a93513b159bf2b35dfcca33120d299cb0346100", func := "pub-hashloom/laws.FnWideReverse", spec := "fnWideReverse", unfollowed := true, recurses := true, apart := false, narrowed := true }
def FnWideReverseUptoSaid : Prop := fnWideReverseUptoRow.holds Try.pinned (OpenSpec.upto fnWideReverseSpec)

/-- 'laws.FnWideSub', WHERE WHAT IT READS IS OF BULK AT MOST 1048576: true; the input reads as it did. -/
def fnWideSubUptoRow : OpenClaim := { program := "ytiifnofghicnaaa", sum := "f7ffb4098d859add45eb6e026a93513b159bf2b35dfcca33120d299cb0346100", func := "pub-hashloom/laws.FnWideSub", spec := "fnWideSub", inPlace := ["math/bits.Sub64"], unfollowed := true, recurses := true, apart := false, narrowed := true }
def FnWideSubUptoSaid : Prop := fnWideSubUptoRow.holds Try.pinned (OpenSpec.upto fnWideSubSpec)

/-- 'laws.FnWideSub64', WHERE WHAT IT READS IS OF BULK AT MOST 1048576: true; the input reads as it did. -/
def fnWideSub64UptoRow : OpenClaim := { program := "ytiifnofghicnaaa", sum := "f7ffb4098d859add45eb6e026a93513b159bf2b35dfcca33120d299cb0346100", func := "pub-hashloom/laws.FnWideSub64", spec := "fnWideSub64", inPlace := ["math/bits.Sub64"], unfollowed := true, recurses := true, apart := false, narrowed := true }
def FnWideSub64UptoSaid : Prop := fnWideSub64UptoRow.holds Try.pinned (OpenSpec.upto fnWideSub64Spec)

/-- 'laws.FnWideAdd', WHERE WHAT IT READS IS OF BULK AT MOST 1048576: true; the input reads as it did. -/
def fnWideAddUptoRow : OpenClaim := { program := "ytiifnofghicnaaa", sum := "f7ffb4098d859add45eb6e026a93513b159bf2b35dfcca33120d299cb0346100", func := "pub-hashloom/laws.FnWideAdd", spec := "fnWideAdd", inPlace := ["math/bits.Add64"], unfollowed := true, recurses := true, apart := false, narrowed := true }
def FnWideAddUptoSaid : Prop := fnWideAddUptoRow.holds Try.pinned (OpenSpec.upto fnWideAddSpec)

/-- 'laws.FnWideAdd64', WHERE WHAT IT READS IS OF BULK AT MOST 1048576: true; the input reads as it did. -/
def fnWideAdd64UptoRow : OpenClaim := { program := "ytiifnofghicnaaa", sum := "f7ffb4098d859add45eb6e026a93513b159bf2b35dfcca33120d299cb0346100", func := "pub-hashloom/laws.FnWideAdd64", spec := "fnWideAdd64", inPlace := ["math/bits.Add64"], unfollowed := true, recurses := true, apart := false, narrowed := true }
def FnWideAdd64UptoSaid : Prop := fnWideAdd64UptoRow.holds Try.pinned (OpenSpec.upto fnWideAdd64Spec)

/-- 'laws.FnWideMulWrap', WHERE WHAT IT READS IS OF BULK AT MOST 1048576: true; the input reads as it did. -/
def fnWideMulWrapUptoRow : OpenClaim := { program := "ytiifnofghicnaaa", sum := "f7ffb4098d859add45eb6e026a93513b159bf2b35dfcca33120d299cb0346100", func := "pub-hashloom/laws.FnWideMulWrap", spec := "fnWideMulWrap", unfollowed := true, recurses := true, apart := false, narrowed := true }
def FnWideMulWrapUptoSaid : Prop := fnWideMulWrapUptoRow.holds Try.pinned (OpenSpec.upto fnWideMulWrapSpec)

/-- 'laws.FnWideRotateLeft', WHERE WHAT IT READS IS OF BULK AT MOST 1048576: true; the input reads as it did. -/
def fnWideRotateLeftUptoRow : OpenClaim := { program := "ytiifnofghicnaaa", sum := "f7ffb4098d859add45eb6e026a93513b159bf2b35dfcca33120d299cb0346100", func := "pub-hashloom/laws.FnWideRotateLeft", spec := "fnWideRotateLeft", unfollowed := true, recurses := true, apart := false, narrowed := true }
def FnWideRotateLeftUptoSaid : Prop := fnWideRotateLeftUptoRow.holds Try.pinned (OpenSpec.upto fnWideRotateLeftSpec)

/-- 'laws.FnWideRotateRight', WHERE WHAT IT READS IS OF BULK AT MOST 1048576: true; the input reads as it did. -/
def fnWideRotateRightUptoRow : OpenClaim := { program := "ytiifnofghicnaaa", sum := "f7ffb4098d859add45eb6e026a93513b159bf2b35dfcca33120d299cb0346100", func := "pub-hashloom/laws.FnWideRotateRight", spec := "fnWideRotateRight", unfollowed := true, recurses := true, apart := false, narrowed := true }
def FnWideRotateRightUptoSaid : Prop := fnWideRotateRightUptoRow.holds Try.pinned (OpenSpec.upto fnWideRotateRightSpec)

/-- 'laws.FnWideMul64', WHERE WHAT IT READS IS OF BULK AT MOST 1048576: true; the input reads as it did. -/
def fnWideMul64UptoRow : OpenClaim := { program := "ytiifnofghicnaaa", sum := "f7ffb4098d859add45eb6e026a93513b159bf2b35dfcca33120d299cb0346100", func := "pub-hashloom/laws.FnWideMul64", spec := "fnWideMul64", inPlace := ["math/bits.Add64"], unfollowed := true, recurses := true, apart := false, narrowed := true }
def FnWideMul64UptoSaid : Prop := fnWideMul64UptoRow.holds Try.pinned (OpenSpec.upto fnWideMul64Spec)

/-- 'laws.FnWideMul', WHERE WHAT IT READS IS OF BULK AT MOST 1048576: true; the input reads as it did. -/
def fnWideMulUptoRow : OpenClaim := { program := "ytiifnofghicnaaa", sum := "f7ffb4098d859add45eb6e026a93513b159bf2b35dfcca33120d299cb0346100", func := "pub-hashloom/laws.FnWideMul", spec := "fnWideMul", inPlace := ["math/bits.Add64"], unfollowed := true, recurses := true, apart := false, narrowed := true }
def FnWideMulUptoSaid : Prop := fnWideMulUptoRow.holds Try.pinned (OpenSpec.upto fnWideMulSpec)

/-- 'laws.FnWideBytes', WHERE WHAT IT READS IS OF BULK AT MOST 1048576: true; the input reads as it did. -/
def fnWideBytesUptoRow : OpenClaim := { program := "ytiifnofghicnaaa", sum := "f7ffb4098d859add45eb6e026a93513b159bf2b35dfcca33120d299cb0346100", func := "pub-hashloom/laws.FnWideBytes", spec := "fnWideBytes", unfollowed := true, recurses := true, named := ["encoding/binary.BigEndian", "encoding/binary.LittleEndian"], apart := false, narrowed := true }
def FnWideBytesUptoSaid : Prop := fnWideBytesUptoRow.holds Try.pinned (OpenSpec.upto fnWideBytesSpec)

end Rows
end Go.Proofs.Ytiifnofghicnaaa
