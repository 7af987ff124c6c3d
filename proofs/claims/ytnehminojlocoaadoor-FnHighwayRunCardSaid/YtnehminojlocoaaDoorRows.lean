/-
  NARROWER THAN 'FOR EVERY INPUT', by the rows' own cells (each row's printed sentence says how): FnHighwayRefused: laid · FnHighwayRun: laid · FnHighwayRoads: laid · FnHighwaySum: laid.
  DERIVED. THE GIVEN ROWS OF THIS SEAT. 4 by the template 'for every input the law returns true; each argument reads behind the call as it read before'; 0 by the template 'total and deterministic' (their statements: YtnehminojlocoaaDoorTotals.lean).
  GIVEN WITH THE SEED: the statements are not yours to turn. If you find one false, say at which input.
  Laid BY PROGRAM, IN A SANDBOX (cutbox-rows.mjs): the forced cells as the released guide's own fill.sh prints them over the translation 40f29aede176136a… (all of the seat's roots in one cut). By AI agents, Wed Nov 11 2026. No macro, syntax, notation, axiom, sorry.
-/
import Derived.Test.YtnehminojlocoaaDoorChecked
import GoSem.Claim
import GoSem.ClaimJoined
import GoSem.ClaimMapViews
import Derived.JoinedTies
import Derived.KernelRfl
namespace Go.Proofs.YtnehminojlocoaaDoor
/- THE CELL 'sum', in the pinned program and in every row, IS THE sha256 OF THE DUMP (.gsa) THAT YtnehminojlocoaaDoorProg.lean LOADS. Nothing in Lean hashes anything: it is a label: what it is worth is what the hold of that sum in a sandbox is worth. -/
noncomputable def Tryd.pinned : Pinned := { name := "ytnehminojlocoaadoor", sum := "40f29aede176136a5d030a202f585966b1d7ff2e5f21d952abb49b58a0db98bb", checked := Tryd.checked }
namespace Rows
def none {H : Type} : Left H := { results := [], args := [] }

/- WHAT THE LISTED PACKAGE-LEVEL VARIABLES READ AS WHEN THE CALL BEGINS. Each datum BY PROGRAM (the guide's laid-datum.mjs) off the statement by which the dump's own 'gosem.cut.vars' lays the variable. In a bare row this is a premise. The card (YtnehminojlocoaaDoorCards.lean) ties it to the program's text. -/
def laid_pub_hashloom_pub_highwayhash_errKeySize {H : Type} : DataW H := .iface "*errors.errorString" (.ptr (.agg [.lit (.string [104, 105, 103, 104, 119, 97, 121, 104, 97, 115, 104, 58, 32, 105, 110, 118, 97, 108, 105, 100, 32, 107, 101, 121, 32, 115, 105, 122, 101])]))

/-- 'laws.FnHighwayRefused': WHATEVER THE INPUT: true; the input reads as it did. -/
def fnHighwayRefusedSpec : ChangeSpec := { name := "fnHighwayRefused", fn := fun _ => fun
  | [d1, d2, d3] => { results := [.lit (.bool true)], args := [d1, d2, d3] }
  | _ => none }
def fnHighwayRefusedRow : OpenClaim := { program := "ytnehminojlocoaadoor", sum := "40f29aede176136a5d030a202f585966b1d7ff2e5f21d952abb49b58a0db98bb", func := "pub-hashloom/laws.FnHighwayRefused", spec := "fnHighwayRefused", unfollowed := true, recurses := true, named := ["pub-hashloom/pub/highwayhash.errKeySize", "encoding/binary.LittleEndian"], apart := false, laid := [("pub-hashloom/pub/highwayhash.errKeySize", laid_pub_hashloom_pub_highwayhash_errKeySize)] }
def FnHighwayRefusedSaid : Prop := fnHighwayRefusedRow.holds Tryd.pinned (OpenSpec.ofChange fnHighwayRefusedSpec)

/-- ITS FALSE NEIGHBOUR: 'it returns false'. Refute it at one input. -/
def fnHighwayRefusedWrong : ChangeSpec := { name := "fnHighwayRefused", fn := fun _ => fun
  | [d1, d2, d3] => { results := [.lit (.bool false)], args := [d1, d2, d3] }
  | _ => none }
def FnHighwayRefusedWrongFalsely : Prop := fnHighwayRefusedRow.holds Tryd.pinned (OpenSpec.ofChange fnHighwayRefusedWrong)

/-- 'laws.FnHighwayRun': WHATEVER THE INPUT: true; the input reads as it did. -/
def fnHighwayRunSpec : ChangeSpec := { name := "fnHighwayRun", fn := fun _ => fun
  | [d1, d2, d3, d4] => { results := [.lit (.bool true)], args := [d1, d2, d3, d4] }
  | _ => none }
def fnHighwayRunRow : OpenClaim := { program := "ytnehminojlocoaadoor", sum := "40f29aede176136a5d030a202f585966b1d7ff2e5f21d952abb49b58a0db98bb", func := "pub-hashloom/laws.FnHighwayRun", spec := "fnHighwayRun", unfollowed := true, recurses := true, named := ["pub-hashloom/pub/highwayhash.errKeySize", "encoding/binary.LittleEndian"], apart := false, laid := [("pub-hashloom/pub/highwayhash.errKeySize", laid_pub_hashloom_pub_highwayhash_errKeySize)] }
def FnHighwayRunSaid : Prop := fnHighwayRunRow.holds Tryd.pinned (OpenSpec.ofChange fnHighwayRunSpec)

/-- ITS FALSE NEIGHBOUR: 'it returns false'. Refute it at one input. -/
def fnHighwayRunWrong : ChangeSpec := { name := "fnHighwayRun", fn := fun _ => fun
  | [d1, d2, d3, d4] => { results := [.lit (.bool false)], args := [d1, d2, d3, d4] }
  | _ => none }
def FnHighwayRunWrongFalsely : Prop := fnHighwayRunRow.holds Tryd.pinned (OpenSpec.ofChange fnHighwayRunWrong)

/-- 'laws.FnHighwayRoads': WHATEVER THE INPUT: true; the input reads as it did. -/
def fnHighwayRoadsSpec : ChangeSpec := { name := "fnHighwayRoads", fn := fun _ => fun
  | [d1, d2, d3] => { results := [.lit (.bool true)], args := [d1, d2, d3] }
  | _ => none }
def fnHighwayRoadsRow : OpenClaim := { program := "ytnehminojlocoaadoor", sum := "40f29aede176136a5d030a202f585966b1d7ff2e5f21d952abb49b58a0db98bb", func := "pub-hashloom/laws.FnHighwayRoads", spec := "fnHighwayRoads", unfollowed := true, recurses := true, named := ["pub-hashloom/pub/highwayhash.errKeySize", "encoding/binary.LittleEndian"], apart := false, laid := [("pub-hashloom/pub/highwayhash.errKeySize", laid_pub_hashloom_pub_highwayhash_errKeySize)] }
def FnHighwayRoadsSaid : Prop := fnHighwayRoadsRow.holds Tryd.pinned (OpenSpec.ofChange fnHighwayRoadsSpec)

/-- ITS FALSE NEIGHBOUR: 'it returns false'. Refute it at one input. -/
def fnHighwayRoadsWrong : ChangeSpec := { name := "fnHighwayRoads", fn := fun _ => fun
  | [d1, d2, d3] => { results := [.lit (.bool false)], args := [d1, d2, d3] }
  | _ => none }
def FnHighwayRoadsWrongFalsely : Prop := fnHighwayRoadsRow.holds Tryd.pinned (OpenSpec.ofChange fnHighwayRoadsWrong)

/-- 'laws.FnHighwaySum': WHATEVER THE INPUT: true; the input reads as it did. -/
def fnHighwaySumSpec : ChangeSpec := { name := "fnHighwaySum", fn := fun _ => fun
  | [d1, d2, d3] => { results := [.lit (.bool true)], args := [d1, d2, d3] }
  | _ => none }
def fnHighwaySumRow : OpenClaim := { program := "ytnehminojlocoaadoor", sum := "40f29aede176136a5d030a202f585966b1d7ff2e5f21d952abb49b58a0db98bb", func := "pub-hashloom/laws.FnHighwaySum", spec := "fnHighwaySum", unfollowed := true, recurses := true, named := ["pub-hashloom/pub/highwayhash.errKeySize", "encoding/binary.LittleEndian"], apart := false, laid := [("pub-hashloom/pub/highwayhash.errKeySize", laid_pub_hashloom_pub_highwayhash_errKeySize)] }
def FnHighwaySumSaid : Prop := fnHighwaySumRow.holds Tryd.pinned (OpenSpec.ofChange fnHighwaySumSpec)

/-- ITS FALSE NEIGHBOUR: 'it returns false'. Refute it at one input. -/
def fnHighwaySumWrong : ChangeSpec := { name := "fnHighwaySum", fn := fun _ => fun
  | [d1, d2, d3] => { results := [.lit (.bool false)], args := [d1, d2, d3] }
  | _ => none }
def FnHighwaySumWrongFalsely : Prop := fnHighwaySumRow.holds Tryd.pinned (OpenSpec.ofChange fnHighwaySumWrong)

/- THE SECOND FORM. 'bulk': how many values and letters a reading holds, each counted each time it is reached (what is shared counts as often as it is met; a slice's spare places count too). A statement '..UptoSaid' is the law's where the arguments, and the package variables that the reading takes, are together of bulk at most 1048576: NARROWER than '..Said'. Prove '..Said' where nothing that the law and all that it calls make is longer than what came in: it says more and counts as full. Else prove '..UptoSaid'. A law counts once. -/
mutual
def uptoBulk {H : Type} : DataW H → Nat
  | .lit (.string bytes) => bytes.length + 1
  | .lit _ => 1
  | .nil => 1
  | .ptr d => uptoBulk d + 1
  | .slice elems spare => uptoBulkAll elems + uptoBulkAll spare + 1
  | .agg parts => uptoBulkAll parts + 1
  | .iface _ d => uptoBulk d + 1
  | .map entries => uptoBulkEntries entries + 1
  | .held _ => 1
def uptoBulkAll {H : Type} : List (DataW H) → Nat
  | [] => 0
  | d :: r => uptoBulk d + uptoBulkAll r
def uptoBulkEntries {H : Type} : List (Lit × DataW H) → Nat
  | [] => 0
  | x :: r => uptoBulkEntry x + uptoBulkEntries r
def uptoBulkEntry {H : Type} : Lit × DataW H → Nat
  | (.string bytes, d) => bytes.length + uptoBulk d + 1
  | (_, d) => uptoBulk d + 1
 end
def uptoSmall : (H : Type) → List (DataW H) → Bool := fun _ ds => decide (uptoBulkAll ds ≤ 1048576)
def OpenSpec.upto (s : _root_.Go.ChangeSpec) : _root_.Go.OpenSpec := { _root_.Go.OpenSpec.ofChange s with cond := some uptoSmall }

/-- 'laws.FnHighwayRefused', WHERE WHAT IT READS IS OF BULK AT MOST 1048576: true; the input reads as it did. -/
def fnHighwayRefusedUptoRow : OpenClaim := { program := "ytnehminojlocoaadoor", sum := "40f29aede176136a5d030a202f585966b1d7ff2e5f21d952abb49b58a0db98bb", func := "pub-hashloom/laws.FnHighwayRefused", spec := "fnHighwayRefused", unfollowed := true, recurses := true, named := ["pub-hashloom/pub/highwayhash.errKeySize", "encoding/binary.LittleEndian"], apart := false, laid := [("pub-hashloom/pub/highwayhash.errKeySize", laid_pub_hashloom_pub_highwayhash_errKeySize)], narrowed := true }
def FnHighwayRefusedUptoSaid : Prop := fnHighwayRefusedUptoRow.holds Tryd.pinned (OpenSpec.upto fnHighwayRefusedSpec)

/-- 'laws.FnHighwayRun', WHERE WHAT IT READS IS OF BULK AT MOST 1048576: true; the input reads as it did. -/
def fnHighwayRunUptoRow : OpenClaim := { program := "ytnehminojlocoaadoor", sum := "40f29aede176136a5d030a202f585966b1d7ff2e5f21d952abb49b58a0db98bb", func := "pub-hashloom/laws.FnHighwayRun", spec := "fnHighwayRun", unfollowed := true, recurses := true, named := ["pub-hashloom/pub/highwayhash.errKeySize", "encoding/binary.LittleEndian"], apart := false, laid := [("pub-hashloom/pub/highwayhash.errKeySize", laid_pub_hashloom_pub_highwayhash_errKeySize)], narrowed := true }
def FnHighwayRunUptoSaid : Prop := fnHighwayRunUptoRow.holds Tryd.pinned (OpenSpec.upto fnHighwayRunSpec)

/-- 'laws.FnHighwayRoads', WHERE WHAT IT READS IS OF BULK AT MOST 1048576: true; the input reads as it did. -/
def fnHighwayRoadsUptoRow : OpenClaim := { program := "ytnehminojlocoaadoor", sum := "40f29aede176136a5d030a202f585966b1d7ff2e5f21d952abb49b58a0db98bb", func := "pub-hashloom/laws.FnHighwayRoads", spec := "fnHighwayRoads", unfollowed := true, recurses := true, named := ["pub-hashloom/pub/highwayhash.errKeySize", "encoding/binary.LittleEndian"], apart := false, laid := [("pub-hashloom/pub/highwayhash.errKeySize", laid_pub_hashloom_pub_highwayhash_errKeySize)], narrowed := true }
def FnHighwayRoadsUptoSaid : Prop := fnHighwayRoadsUptoRow.holds Tryd.pinned (OpenSpec.upto fnHighwayRoadsSpec)

/-- 'laws.FnHighwaySum', WHERE WHAT IT READS IS OF BULK AT MOST 1048576: true; the input reads as it did. -/
def fnHighwaySumUptoRow : OpenClaim := { program := "ytnehminojlocoaadoor", sum := "40f29aede176136a5d030a202f585966b1d7ff2e5f21d952abb49b58a0db98bb", func := "pub-hashloom/laws.FnHighwaySum", spec := "fnHighwaySum", unfollowed := true, recurses := true, named := ["pub-hashloom/pub/highwayhash.errKeySize", "encoding/binary.LittleEndian"], apart := false, laid := [("pub-hashloom/pub/highwayhash.errKeySize", laid_pub_hashloom_pub_highwayhash_errKeySize)], narrowed := true }
def FnHighwaySumUptoSaid : Prop := fnHighwaySumUptoRow.holds Tryd.pinned (OpenSpec.upto fnHighwaySumSpec)

end Rows
end Go.Proofs.YtnehminojlocoaaDoor
