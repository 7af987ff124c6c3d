/-
  No cell of these rows narrows 'for every input' (looked for: loops, veiled, ifaces, maps, wideKeys, modest, calm, conditions, laid).
  DERIVED. THE GIVEN ROWS OF THIS SEAT. 11 by the template 'for every input the law returns true; each argument reads behind the call as it read before'; 0 by the template 'total and deterministic' (their statements: YtdepcnaiobfpkaaTotals.lean).
  GIVEN WITH THE SEED: the statements are not yours to turn. If you find one false, say at which input.
  Laid BY PROGRAM, IN A SANDBOX (cutbox-rows.mjs): the forced cells as the released guide's own fill.sh prints them over the translation 5a978c94c88309f2… (all of the seat's roots in one cut). By AI agents, Wed Nov 11 2026. No macro, syntax, notation, axiom, sorry.
-/
import Derived.Test.YtdepcnaiobfpkaaChecked
import GoSem.Claim
import GoSem.ClaimJoined
import GoSem.ClaimMapViews
import Derived.JoinedTies
import Derived.KernelRfl
namespace Go.Proofs.Ytdepcnaiobfpkaa
/- THE CELL 'sum', in the pinned program and in every row, IS THE sha256 OF THE DUMP (.gsa) THAT YtdepcnaiobfpkaaProg.lean LOADS. Nothing in Lean hashes anything: it is a label: what it is worth is what the hold of that sum in a sandbox is worth. -/
noncomputable def Try.pinned : Pinned := { name := "ytdepcnaiobfpkaa", sum := "5a978c94c88309f2bc61e54fadc209dfe4f32d62e521f4b74d59767fea27c89b", checked := Try.checked }
namespace Rows
def none {H : Type} : Left H := { results := [], args := [] }

/-- 'laws.FnHalfMade': WHATEVER THE INPUT: true; the input reads as it did. -/
def fnHalfMadeSpec : ChangeSpec := { name := "fnHalfMade", fn := fun _ => fun
  | [d] => { results := [.lit (.bool true)], args := [d] }
  | _ => none }
def fnHalfMadeRow : OpenClaim := { program := "ytdepcnaiobfpkaa", sum := "5a978c94c88309f2bc61e54fadc209dfe4f32d62e521f4b74d59767fea27c89b", func := "pub-hashloom/laws.FnHalfMade", spec := "fnHalfMade", apart := false }
def FnHalfMadeSaid : Prop := fnHalfMadeRow.holds Try.pinned (OpenSpec.ofChange fnHalfMadeSpec)

/-- ITS FALSE NEIGHBOUR: 'it returns false'. Refute it at one input. -/
def fnHalfMadeWrong : ChangeSpec := { name := "fnHalfMade", fn := fun _ => fun
  | [d] => { results := [.lit (.bool false)], args := [d] }
  | _ => none }
def FnHalfMadeWrongFalsely : Prop := fnHalfMadeRow.holds Try.pinned (OpenSpec.ofChange fnHalfMadeWrong)

/-- 'laws.FnHalfFacts': WHATEVER THE INPUT: true; the input reads as it did. -/
def fnHalfFactsSpec : ChangeSpec := { name := "fnHalfFacts", fn := fun _ => fun
  | [d1, d2] => { results := [.lit (.bool true)], args := [d1, d2] }
  | _ => none }
def fnHalfFactsRow : OpenClaim := { program := "ytdepcnaiobfpkaa", sum := "5a978c94c88309f2bc61e54fadc209dfe4f32d62e521f4b74d59767fea27c89b", func := "pub-hashloom/laws.FnHalfFacts", spec := "fnHalfFacts", apart := false }
def FnHalfFactsSaid : Prop := fnHalfFactsRow.holds Try.pinned (OpenSpec.ofChange fnHalfFactsSpec)

/-- ITS FALSE NEIGHBOUR: 'it returns false'. Refute it at one input. -/
def fnHalfFactsWrong : ChangeSpec := { name := "fnHalfFacts", fn := fun _ => fun
  | [d1, d2] => { results := [.lit (.bool false)], args := [d1, d2] }
  | _ => none }
def FnHalfFactsWrongFalsely : Prop := fnHalfFactsRow.holds Try.pinned (OpenSpec.ofChange fnHalfFactsWrong)

/-- 'laws.FnHalfToSingle': WHATEVER THE INPUT: true; the input reads as it did. -/
def fnHalfToSingleSpec : ChangeSpec := { name := "fnHalfToSingle", fn := fun _ => fun
  | [d] => { results := [.lit (.bool true)], args := [d] }
  | _ => none }
def fnHalfToSingleRow : OpenClaim := { program := "ytdepcnaiobfpkaa", sum := "5a978c94c88309f2bc61e54fadc209dfe4f32d62e521f4b74d59767fea27c89b", func := "pub-hashloom/laws.FnHalfToSingle", spec := "fnHalfToSingle", inPlace := ["math.Float32frombits", "math.Float32bits"], apart := false }
def FnHalfToSingleSaid : Prop := fnHalfToSingleRow.holds Try.pinned (OpenSpec.ofChange fnHalfToSingleSpec)

/-- ITS FALSE NEIGHBOUR: 'it returns false'. Refute it at one input. -/
def fnHalfToSingleWrong : ChangeSpec := { name := "fnHalfToSingle", fn := fun _ => fun
  | [d] => { results := [.lit (.bool false)], args := [d] }
  | _ => none }
def FnHalfToSingleWrongFalsely : Prop := fnHalfToSingleRow.holds Try.pinned (OpenSpec.ofChange fnHalfToSingleWrong)

/-- 'laws.FnHalfFrom': WHATEVER THE INPUT: true; the input reads as it did. -/
def fnHalfFromSpec : ChangeSpec := { name := "fnHalfFrom", fn := fun _ => fun
  | [d] => { results := [.lit (.bool true)], args := [d] }
  | _ => none }
def fnHalfFromRow : OpenClaim := { program := "ytdepcnaiobfpkaa", sum := "5a978c94c88309f2bc61e54fadc209dfe4f32d62e521f4b74d59767fea27c89b", func := "pub-hashloom/laws.FnHalfFrom", spec := "fnHalfFrom", inPlace := ["math.Float32frombits", "math.Float32bits"], apart := false }
def FnHalfFromSaid : Prop := fnHalfFromRow.holds Try.pinned (OpenSpec.ofChange fnHalfFromSpec)

/-- ITS FALSE NEIGHBOUR: 'it returns false'. Refute it at one input. -/
def fnHalfFromWrong : ChangeSpec := { name := "fnHalfFrom", fn := fun _ => fun
  | [d] => { results := [.lit (.bool false)], args := [d] }
  | _ => none }
def FnHalfFromWrongFalsely : Prop := fnHalfFromRow.holds Try.pinned (OpenSpec.ofChange fnHalfFromWrong)

/-- 'laws.FnHalfNearest': WHATEVER THE INPUT: true; the input reads as it did. -/
def fnHalfNearestSpec : ChangeSpec := { name := "fnHalfNearest", fn := fun _ => fun
  | [d] => { results := [.lit (.bool true)], args := [d] }
  | _ => none }
def fnHalfNearestRow : OpenClaim := { program := "ytdepcnaiobfpkaa", sum := "5a978c94c88309f2bc61e54fadc209dfe4f32d62e521f4b74d59767fea27c89b", func := "pub-hashloom/laws.FnHalfNearest", spec := "fnHalfNearest", inPlace := ["math.Float32frombits", "math.Float32bits"], apart := false }
def FnHalfNearestSaid : Prop := fnHalfNearestRow.holds Try.pinned (OpenSpec.ofChange fnHalfNearestSpec)

/-- ITS FALSE NEIGHBOUR: 'it returns false'. Refute it at one input. -/
def fnHalfNearestWrong : ChangeSpec := { name := "fnHalfNearest", fn := fun _ => fun
  | [d] => { results := [.lit (.bool false)], args := [d] }
  | _ => none }
def FnHalfNearestWrongFalsely : Prop := fnHalfNearestRow.holds Try.pinned (OpenSpec.ofChange fnHalfNearestWrong)

/-- 'laws.FnHalfOrder': WHATEVER THE INPUT: true; the input reads as it did. -/
def fnHalfOrderSpec : ChangeSpec := { name := "fnHalfOrder", fn := fun _ => fun
  | [d1, d2] => { results := [.lit (.bool true)], args := [d1, d2] }
  | _ => none }
def fnHalfOrderRow : OpenClaim := { program := "ytdepcnaiobfpkaa", sum := "5a978c94c88309f2bc61e54fadc209dfe4f32d62e521f4b74d59767fea27c89b", func := "pub-hashloom/laws.FnHalfOrder", spec := "fnHalfOrder", inPlace := ["math.Float32frombits", "math.Float32bits"], apart := false }
def FnHalfOrderSaid : Prop := fnHalfOrderRow.holds Try.pinned (OpenSpec.ofChange fnHalfOrderSpec)

/-- ITS FALSE NEIGHBOUR: 'it returns false'. Refute it at one input. -/
def fnHalfOrderWrong : ChangeSpec := { name := "fnHalfOrder", fn := fun _ => fun
  | [d1, d2] => { results := [.lit (.bool false)], args := [d1, d2] }
  | _ => none }
def FnHalfOrderWrongFalsely : Prop := fnHalfOrderRow.holds Try.pinned (OpenSpec.ofChange fnHalfOrderWrong)

/-- 'laws.FnHalfPrecision': WHATEVER THE INPUT: true; the input reads as it did. -/
def fnHalfPrecisionSpec : ChangeSpec := { name := "fnHalfPrecision", fn := fun _ => fun
  | [d] => { results := [.lit (.bool true)], args := [d] }
  | _ => none }
def fnHalfPrecisionRow : OpenClaim := { program := "ytdepcnaiobfpkaa", sum := "5a978c94c88309f2bc61e54fadc209dfe4f32d62e521f4b74d59767fea27c89b", func := "pub-hashloom/laws.FnHalfPrecision", spec := "fnHalfPrecision", inPlace := ["math.Float32frombits", "math.Float32bits"], apart := false }
def FnHalfPrecisionSaid : Prop := fnHalfPrecisionRow.holds Try.pinned (OpenSpec.ofChange fnHalfPrecisionSpec)

/-- ITS FALSE NEIGHBOUR: 'it returns false'. Refute it at one input. -/
def fnHalfPrecisionWrong : ChangeSpec := { name := "fnHalfPrecision", fn := fun _ => fun
  | [d] => { results := [.lit (.bool false)], args := [d] }
  | _ => none }
def FnHalfPrecisionWrongFalsely : Prop := fnHalfPrecisionRow.holds Try.pinned (OpenSpec.ofChange fnHalfPrecisionWrong)

/-- 'laws.FnHalfNaN': WHATEVER THE INPUT: true; the input reads as it did. -/
def fnHalfNaNSpec : ChangeSpec := { name := "fnHalfNaN", fn := fun _ => fun
  | [d] => { results := [.lit (.bool true)], args := [d] }
  | _ => none }
def fnHalfNaNRow : OpenClaim := { program := "ytdepcnaiobfpkaa", sum := "5a978c94c88309f2bc61e54fadc209dfe4f32d62e521f4b74d59767fea27c89b", func := "pub-hashloom/laws.FnHalfNaN", spec := "fnHalfNaN", inPlace := ["math.Float32frombits", "math.Float32bits"], apart := false }
def FnHalfNaNSaid : Prop := fnHalfNaNRow.holds Try.pinned (OpenSpec.ofChange fnHalfNaNSpec)

/-- ITS FALSE NEIGHBOUR: 'it returns false'. Refute it at one input. -/
def fnHalfNaNWrong : ChangeSpec := { name := "fnHalfNaN", fn := fun _ => fun
  | [d] => { results := [.lit (.bool false)], args := [d] }
  | _ => none }
def FnHalfNaNWrongFalsely : Prop := fnHalfNaNRow.holds Try.pinned (OpenSpec.ofChange fnHalfNaNWrong)

/-- 'laws.FnHalfBack': WHATEVER THE INPUT: true; the input reads as it did. -/
def fnHalfBackSpec : ChangeSpec := { name := "fnHalfBack", fn := fun _ => fun
  | [d] => { results := [.lit (.bool true)], args := [d] }
  | _ => none }
def fnHalfBackRow : OpenClaim := { program := "ytdepcnaiobfpkaa", sum := "5a978c94c88309f2bc61e54fadc209dfe4f32d62e521f4b74d59767fea27c89b", func := "pub-hashloom/laws.FnHalfBack", spec := "fnHalfBack", inPlace := ["math.Float32frombits", "math.Float32bits"], apart := false }
def FnHalfBackSaid : Prop := fnHalfBackRow.holds Try.pinned (OpenSpec.ofChange fnHalfBackSpec)

/-- ITS FALSE NEIGHBOUR: 'it returns false'. Refute it at one input. -/
def fnHalfBackWrong : ChangeSpec := { name := "fnHalfBack", fn := fun _ => fun
  | [d] => { results := [.lit (.bool false)], args := [d] }
  | _ => none }
def FnHalfBackWrongFalsely : Prop := fnHalfBackRow.holds Try.pinned (OpenSpec.ofChange fnHalfBackWrong)

/-- 'laws.FnHalfKnown': WHATEVER THE INPUT: true; the input reads as it did. -/
def fnHalfKnownSpec : ChangeSpec := { name := "fnHalfKnown", fn := fun _ => fun
  | [d] => { results := [.lit (.bool true)], args := [d] }
  | _ => none }
def fnHalfKnownRow : OpenClaim := { program := "ytdepcnaiobfpkaa", sum := "5a978c94c88309f2bc61e54fadc209dfe4f32d62e521f4b74d59767fea27c89b", func := "pub-hashloom/laws.FnHalfKnown", spec := "fnHalfKnown", inPlace := ["math.Float32frombits", "math.Float32bits"], apart := false }
def FnHalfKnownSaid : Prop := fnHalfKnownRow.holds Try.pinned (OpenSpec.ofChange fnHalfKnownSpec)

/-- ITS FALSE NEIGHBOUR: 'it returns false'. Refute it at one input. -/
def fnHalfKnownWrong : ChangeSpec := { name := "fnHalfKnown", fn := fun _ => fun
  | [d] => { results := [.lit (.bool false)], args := [d] }
  | _ => none }
def FnHalfKnownWrongFalsely : Prop := fnHalfKnownRow.holds Try.pinned (OpenSpec.ofChange fnHalfKnownWrong)

/-- 'laws.FnHalfTrust': WHATEVER THE INPUT: true; the input reads as it did. -/
def fnHalfTrustSpec : ChangeSpec := { name := "fnHalfTrust", fn := fun _ => fun
  | [d] => { results := [.lit (.bool true)], args := [d] }
  | _ => none }
def fnHalfTrustRow : OpenClaim := { program := "ytdepcnaiobfpkaa", sum := "5a978c94c88309f2bc61e54fadc209dfe4f32d62e521f4b74d59767fea27c89b", func := "pub-hashloom/laws.FnHalfTrust", spec := "fnHalfTrust", inPlace := ["math.Float32frombits", "math.Float32bits"], apart := false }
def FnHalfTrustSaid : Prop := fnHalfTrustRow.holds Try.pinned (OpenSpec.ofChange fnHalfTrustSpec)

/-- ITS FALSE NEIGHBOUR: 'it returns false'. Refute it at one input. -/
def fnHalfTrustWrong : ChangeSpec := { name := "fnHalfTrust", fn := fun _ => fun
  | [d] => { results := [.lit (.bool false)], args := [d] }
  | _ => none }
def FnHalfTrustWrongFalsely : Prop := fnHalfTrustRow.holds Try.pinned (OpenSpec.ofChange fnHalfTrustWrong)

/- THE SECOND FORM. 'bulk': how many values and letters a reading holds, each counted each time it is reached (what is shared counts as often as it is met; a slice's spare places count too). A statement '..UptoSaid' is the law's where the arguments, and the package variables that the reading takes, are together of bulk at most 1048576: NARROWER than '..Said'. Prove '..Said' where nothing that the law and all that it calls make is longer than what came in: it says more and counts as full. Else prove '..UptoSaid'. A law counts once. -/
mutual
def uptoBulk {H : Type} : DataW H → Nat
  | .lit (.string bytes) => bytes.length + 1
  | .lit _ => 1
  | .nil => 1
  | .ptr d => uptoBulk d + 1
  | .slice elems spare => uptoBulkAll elems + uptoBulkAll spare + 1
  | .agg parts => uptoBulkAll parts + 1
  | .iface _ d => uptoBulk d + 1
  | .map entries => uptoBulkEntries entries + 1
  | .held _ => 1
def uptoBulkAll {H : Type} : List (DataW H) → Nat
  | [] => 0
  | d :: r => uptoBulk d + uptoBulkAll r
def uptoBulkEntries {H : Type} : List (Lit × DataW H) → Nat
  | [] => 0
  | x :: r => uptoBulkEntry x + uptoBulkEntries r
def uptoBulkEntry {H : Type} : Lit × DataW H → Nat
  | (.string bytes, d) => bytes.length + uptoBulk d + 1
  | (_, d) => uptoBulk d + 1
 end
def uptoSmall : (H : Type) → List (DataW H) → Bool := fun _ ds => decide (uptoBulkAll ds ≤ 1048576)
def OpenSpec.upto (s : _root_.Go.ChangeSpec) : _root_.Go.OpenSpec := { _root_.Go.OpenSpec.ofChange s with cond := some uptoSmall }

/-- 'laws.FnHalfMade', WHERE WHAT IT READS IS OF BULK AT MOST 1048576: true; the input reads as it did. -/
def fnHalfMadeUptoRow : OpenClaim := { program := "ytdepcnaiobfpkaa", sum := "5a978c94c88309f2bc61e54fadc209dfe4f32d62e521f4b74d59767fea27c89b", func := "pub-hashloom/laws.FnHalfMade", spec := "fnHalfMade", apart := false, narrowed := true }
def FnHalfMadeUptoSaid : Prop := fnHalfMadeUptoRow.holds Try.pinned (OpenSpec.upto fnHalfMadeSpec)

/-- 'laws.FnHalfFacts', WHERE WHAT IT READS IS OF BULK AT MOST 1048576: true; the input reads as it did. -/
def fnHalfFactsUptoRow : OpenClaim := { program := "ytdepcnaiobfpkaa", sum := "5a978c94c88309f2bc61e54fadc209dfe4f32d62e521f4b74d59767fea27c89b", func := "pub-hashloom/laws.FnHalfFacts", spec := "fnHalfFacts", apart := false, narrowed := true }
def FnHalfFactsUptoSaid : Prop := fnHalfFactsUptoRow.holds Try.pinned (OpenSpec.upto fnHalfFactsSpec)

/-- 'laws.FnHalfToSingle', WHERE WHAT IT READS IS OF BULK AT MOST 1048576: true; the input reads as it did. -/
def fnHalfToSingleUptoRow : OpenClaim := { program := "ytdepcnaiobfpkaa", sum := "5a978c94c88309f2bc61e54fadc209dfe4f32d62e521f4b74d59767fea27c89b", func := "pub-hashloom/laws.FnHalfToSingle", spec := "fnHalfToSingle", inPlace := ["math.Float32frombits", "math.Float32bits"], apart := false, narrowed := true }
def FnHalfToSingleUptoSaid : Prop := fnHalfToSingleUptoRow.holds Try.pinned (OpenSpec.upto fnHalfToSingleSpec)

/-- 'laws.FnHalfFrom', WHERE WHAT IT READS IS OF BULK AT MOST 1048576: true; the input reads as it did. -/
def fnHalfFromUptoRow : OpenClaim := { program := "ytdepcnaiobfpkaa", sum := "5a978c94c88309f2bc61e54fadc209dfe4f32d62e521f4b74d59767fea27c89b", func := "pub-hashloom/laws.FnHalfFrom", spec := "fnHalfFrom", inPlace := ["math.Float32frombits", "math.Float32bits"], apart := false, narrowed := true }
def FnHalfFromUptoSaid : Prop := fnHalfFromUptoRow.holds Try.pinned (OpenSpec.upto fnHalfFromSpec)

/-- 'laws.FnHalfNearest', WHERE WHAT IT READS IS OF BULK AT MOST 1048576: true; the input reads as it did. -/
def fnHalfNearestUptoRow : OpenClaim := { program := "ytdepcnaiobfpkaa", sum := "5a978c94c88309f2bc61e54fadc209dfe4f32d62e521f4b74d59767fea27c89b", func := "pub-hashloom/laws.FnHalfNearest", spec := "fnHalfNearest", inPlace := ["math.Float32frombits", "math.Float32bits"], apart := false, narrowed := true }
def FnHalfNearestUptoSaid : Prop := fnHalfNearestUptoRow.holds Try.pinned (OpenSpec.upto fnHalfNearestSpec)

/-- 'laws.FnHalfOrder', WHERE WHAT IT READS IS OF BULK AT MOST 1048576: true; the input reads as it did. -/
def fnHalfOrderUptoRow : OpenClaim := { program := "ytdepcnaiobfpkaa", sum := "5a978c94c88309f2bc61e54fadc209dfe4f32d62e521f4b74d59767fea27c89b", func := "pub-hashloom/laws.FnHalfOrder", spec := "fnHalfOrder", inPlace := ["math.Float32frombits", "math.Float32bits"], apart := false, narrowed := true }
def FnHalfOrderUptoSaid : Prop := fnHalfOrderUptoRow.holds Try.pinned (OpenSpec.upto fnHalfOrderSpec)

/-- 'laws.FnHalfPrecision', WHERE WHAT IT READS IS OF BULK AT MOST 1048576: true; the input reads as it did. -/
def fnHalfPrecisionUptoRow : OpenClaim := { program := "ytdepcnaiobfpkaa", sum := "5a978c94c88309f2bc61e54fadc209dfe4f32d62e521f4b74d59767fea27c89b", func := "pub-hashloom/laws.FnHalfPrecision", spec := "fnHalfPrecision", inPlace := ["math.Float32frombits", "math.Float32bits"], apart := false, narrowed := true }
def FnHalfPrecisionUptoSaid : Prop := fnHalfPrecisionUptoRow.holds Try.pinned (OpenSpec.upto fnHalfPrecisionSpec)

/-- 'laws.FnHalfNaN', WHERE WHAT IT READS IS OF BULK AT MOST 1048576: true; the input reads as it did. -/
def fnHalfNaNUptoRow : OpenClaim := { program := "ytdepcnaiobfpkaa", sum := "5a978c94c88309f2bc61e54fadc209dfe4f32d62e521f4b74d59767fea27c89b", func := "pub-hashloom/laws.FnHalfNaN", spec := "fnHalfNaN", inPlace := ["math.Float32frombits", "math.Float32bits"], apart := false, narrowed := true }
def FnHalfNaNUptoSaid : Prop := fnHalfNaNUptoRow.holds Try.pinned (OpenSpec.upto fnHalfNaNSpec)

/-- 'laws.FnHalfBack', WHERE WHAT IT READS IS OF BULK AT MOST 1048576: true; the input reads as it did. -/
def fnHalfBackUptoRow : OpenClaim := { program := "ytdepcnaiobfpkaa", sum := "5a978c94c88309f2bc61e54fadc209dfe4f32d62e521f4b74d59767fea27c89b", func := "pub-hashloom/laws.FnHalfBack", spec := "fnHalfBack", inPlace := ["math.Float32frombits", "math.Float32bits"], apart := false, narrowed := true }
def FnHalfBackUptoSaid : Prop := fnHalfBackUptoRow.holds Try.pinned (OpenSpec.upto fnHalfBackSpec)

/-- 'laws.FnHalfKnown', WHERE WHAT IT READS IS OF BULK AT MOST 1048576: true; the input reads as it did. -/
def fnHalfKnownUptoRow : OpenClaim := { program := "ytdepcnaiobfpkaa", sum := "5a978c94c88309f2bc61e54fadc209dfe4f32d62e521f4b74d59767fea27c89b", func := "pub-hashloom/laws.FnHalfKnown", spec := "fnHalfKnown", inPlace := ["math.Float32frombits", "math.Float32bits"], apart := false, narrowed := true }
def FnHalfKnownUptoSaid : Prop := fnHalfKnownUptoRow.holds Try.pinned (OpenSpec.upto fnHalfKnownSpec)

/-- 'laws.FnHalfTrust', WHERE WHAT IT READS IS OF BULK AT MOST 1048576: true; the input reads as it did. -/
def fnHalfTrustUptoRow : OpenClaim := { program := "ytdepcnaiobfpkaa", sum := "5a978c94c88309f2bc61e54fadc209dfe4f32d62e521f4b74d59767fea27c89b", func := "pub-hashloom/laws.FnHalfTrust", spec := "fnHalfTrust", inPlace := ["math.Float32frombits", "math.Float32bits"], apart := false, narrowed := true }
def FnHalfTrustUptoSaid : Prop := fnHalfTrustUptoRow.holds Try.pinned (OpenSpec.upto fnHalfTrustSpec)

end Rows
end Go.Proofs.Ytdepcnaiobfpkaa
