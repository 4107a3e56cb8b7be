/-
  No cell of these rows narrows 'for every input' (looked for: loops, veiled, ifaces, maps, wideKeys, modest, calm, conditions, laid).
  DERIVED. THE GIVEN ROWS OF THIS SEAT. 11 by the template 'for every input the law returns true; each argument reads behind the call as it read before'; 0 by the template 'total and deterministic' (their statements: YtnhfgcoeibjagaaTotals.lean).
  GIVEN WITH THE SEED: the statements are not yours to turn. If you find one false, say at which input.
  Laid BY PROGRAM, IN A SANDBOX (cutbox-rows.mjs): the forced cells as the released guide's own fill.sh prints them over the translation 003cbe38caa3ac93… (all of the seat's roots in one cut). By AI agents, Wed Nov 11 2026. No macro, syntax, notation, axiom, sorry.
-/
import Derived.Test.YtnhfgcoeibjagaaChecked
import GoSem.Claim
import GoSem.ClaimJoined
import GoSem.ClaimMapViews
import Derived.JoinedTies
import Derived.KernelRfl
namespace Go.Proofs.Ytnhfgcoeibjagaa
/- THE CELL 'sum', in the pinned program and in every row, IS THE sha256 OF THE DUMP (.gsa) THAT YtnhfgcoeibjagaaProg.lean LOADS. Nothing in Lean hashes anything: it is a label: what it is worth is what the hold of that sum in a sandbox is worth. -/
noncomputable def Try.pinned : Pinned := { name := "ytnhfgcoeibjagaa", sum := "003cbe38caa3ac9390594e00e115a920532341e5ba7f812f96947019931ce900", checked := Try.checked }
namespace Rows
def none {H : Type} : Left H := { results := [], args := [] }

/-- 'laws.FnE2Conjugate': WHATEVER THE INPUT: true; the input reads as it did. -/
def fnE2ConjugateSpec : ChangeSpec := { name := "fnE2Conjugate", fn := fun _ => fun
  | [d] => { results := [.lit (.bool true)], args := [d] }
  | _ => none }
def fnE2ConjugateRow : OpenClaim := { program := "ytnhfgcoeibjagaa", sum := "003cbe38caa3ac9390594e00e115a920532341e5ba7f812f96947019931ce900", func := "loop.example/pub-g03343/laws.FnE2Conjugate", spec := "fnE2Conjugate", inPlace := ["math/bits.Sub64"], apart := false }
def FnE2ConjugateSaid : Prop := fnE2ConjugateRow.holds Try.pinned (OpenSpec.ofChange fnE2ConjugateSpec)

/-- ITS FALSE NEIGHBOUR: 'it returns false'. Refute it at one input. -/
def fnE2ConjugateWrong : ChangeSpec := { name := "fnE2Conjugate", fn := fun _ => fun
  | [d] => { results := [.lit (.bool false)], args := [d] }
  | _ => none }
def FnE2ConjugateWrongFalsely : Prop := fnE2ConjugateRow.holds Try.pinned (OpenSpec.ofChange fnE2ConjugateWrong)

/-- 'laws.FnE2Neg': WHATEVER THE INPUT: true; the input reads as it did. -/
def fnE2NegSpec : ChangeSpec := { name := "fnE2Neg", fn := fun _ => fun
  | [d] => { results := [.lit (.bool true)], args := [d] }
  | _ => none }
def fnE2NegRow : OpenClaim := { program := "ytnhfgcoeibjagaa", sum := "003cbe38caa3ac9390594e00e115a920532341e5ba7f812f96947019931ce900", func := "loop.example/pub-g03343/laws.FnE2Neg", spec := "fnE2Neg", inPlace := ["math/bits.Sub64"], apart := false }
def FnE2NegSaid : Prop := fnE2NegRow.holds Try.pinned (OpenSpec.ofChange fnE2NegSpec)

/-- ITS FALSE NEIGHBOUR: 'it returns false'. Refute it at one input. -/
def fnE2NegWrong : ChangeSpec := { name := "fnE2Neg", fn := fun _ => fun
  | [d] => { results := [.lit (.bool false)], args := [d] }
  | _ => none }
def FnE2NegWrongFalsely : Prop := fnE2NegRow.holds Try.pinned (OpenSpec.ofChange fnE2NegWrong)

/-- 'laws.FnE2Sub': WHATEVER THE INPUT: true; the input reads as it did. -/
def fnE2SubSpec : ChangeSpec := { name := "fnE2Sub", fn := fun _ => fun
  | [d1, d2] => { results := [.lit (.bool true)], args := [d1, d2] }
  | _ => none }
def fnE2SubRow : OpenClaim := { program := "ytnhfgcoeibjagaa", sum := "003cbe38caa3ac9390594e00e115a920532341e5ba7f812f96947019931ce900", func := "loop.example/pub-g03343/laws.FnE2Sub", spec := "fnE2Sub", inPlace := ["math/bits.Sub64", "math/bits.Add64"], apart := false }
def FnE2SubSaid : Prop := fnE2SubRow.holds Try.pinned (OpenSpec.ofChange fnE2SubSpec)

/-- ITS FALSE NEIGHBOUR: 'it returns false'. Refute it at one input. -/
def fnE2SubWrong : ChangeSpec := { name := "fnE2Sub", fn := fun _ => fun
  | [d1, d2] => { results := [.lit (.bool false)], args := [d1, d2] }
  | _ => none }
def FnE2SubWrongFalsely : Prop := fnE2SubRow.holds Try.pinned (OpenSpec.ofChange fnE2SubWrong)

/-- 'laws.FnE2Double': WHATEVER THE INPUT: true; the input reads as it did. -/
def fnE2DoubleSpec : ChangeSpec := { name := "fnE2Double", fn := fun _ => fun
  | [d] => { results := [.lit (.bool true)], args := [d] }
  | _ => none }
def fnE2DoubleRow : OpenClaim := { program := "ytnhfgcoeibjagaa", sum := "003cbe38caa3ac9390594e00e115a920532341e5ba7f812f96947019931ce900", func := "loop.example/pub-g03343/laws.FnE2Double", spec := "fnE2Double", inPlace := ["math/bits.Add64", "math/bits.Sub64"], apart := false }
def FnE2DoubleSaid : Prop := fnE2DoubleRow.holds Try.pinned (OpenSpec.ofChange fnE2DoubleSpec)

/-- ITS FALSE NEIGHBOUR: 'it returns false'. Refute it at one input. -/
def fnE2DoubleWrong : ChangeSpec := { name := "fnE2Double", fn := fun _ => fun
  | [d] => { results := [.lit (.bool false)], args := [d] }
  | _ => none }
def FnE2DoubleWrongFalsely : Prop := fnE2DoubleRow.holds Try.pinned (OpenSpec.ofChange fnE2DoubleWrong)

/-- 'laws.FnE6Sub': WHATEVER THE INPUT: true; the input reads as it did. -/
def fnE6SubSpec : ChangeSpec := { name := "fnE6Sub", fn := fun _ => fun
  | [d1, d2] => { results := [.lit (.bool true)], args := [d1, d2] }
  | _ => none }
def fnE6SubRow : OpenClaim := { program := "ytnhfgcoeibjagaa", sum := "003cbe38caa3ac9390594e00e115a920532341e5ba7f812f96947019931ce900", func := "loop.example/pub-g03343/laws.FnE6Sub", spec := "fnE6Sub", inPlace := ["math/bits.Sub64", "math/bits.Add64"], apart := false }
def FnE6SubSaid : Prop := fnE6SubRow.holds Try.pinned (OpenSpec.ofChange fnE6SubSpec)

/-- ITS FALSE NEIGHBOUR: 'it returns false'. Refute it at one input. -/
def fnE6SubWrong : ChangeSpec := { name := "fnE6Sub", fn := fun _ => fun
  | [d1, d2] => { results := [.lit (.bool false)], args := [d1, d2] }
  | _ => none }
def FnE6SubWrongFalsely : Prop := fnE6SubRow.holds Try.pinned (OpenSpec.ofChange fnE6SubWrong)

/-- 'laws.FnE6Add': WHATEVER THE INPUT: true; the input reads as it did. -/
def fnE6AddSpec : ChangeSpec := { name := "fnE6Add", fn := fun _ => fun
  | [d1, d2] => { results := [.lit (.bool true)], args := [d1, d2] }
  | _ => none }
def fnE6AddRow : OpenClaim := { program := "ytnhfgcoeibjagaa", sum := "003cbe38caa3ac9390594e00e115a920532341e5ba7f812f96947019931ce900", func := "loop.example/pub-g03343/laws.FnE6Add", spec := "fnE6Add", inPlace := ["math/bits.Add64", "math/bits.Sub64"], apart := false }
def FnE6AddSaid : Prop := fnE6AddRow.holds Try.pinned (OpenSpec.ofChange fnE6AddSpec)

/-- ITS FALSE NEIGHBOUR: 'it returns false'. Refute it at one input. -/
def fnE6AddWrong : ChangeSpec := { name := "fnE6Add", fn := fun _ => fun
  | [d1, d2] => { results := [.lit (.bool false)], args := [d1, d2] }
  | _ => none }
def FnE6AddWrongFalsely : Prop := fnE6AddRow.holds Try.pinned (OpenSpec.ofChange fnE6AddWrong)

/-- 'laws.FnE12Conjugate': WHATEVER THE INPUT: true; the input reads as it did. -/
def fnE12ConjugateSpec : ChangeSpec := { name := "fnE12Conjugate", fn := fun _ => fun
  | [d] => { results := [.lit (.bool true)], args := [d] }
  | _ => none }
def fnE12ConjugateRow : OpenClaim := { program := "ytnhfgcoeibjagaa", sum := "003cbe38caa3ac9390594e00e115a920532341e5ba7f812f96947019931ce900", func := "loop.example/pub-g03343/laws.FnE12Conjugate", spec := "fnE12Conjugate", inPlace := ["math/bits.Sub64"], apart := false }
def FnE12ConjugateSaid : Prop := fnE12ConjugateRow.holds Try.pinned (OpenSpec.ofChange fnE12ConjugateSpec)

/-- ITS FALSE NEIGHBOUR: 'it returns false'. Refute it at one input. -/
def fnE12ConjugateWrong : ChangeSpec := { name := "fnE12Conjugate", fn := fun _ => fun
  | [d] => { results := [.lit (.bool false)], args := [d] }
  | _ => none }
def FnE12ConjugateWrongFalsely : Prop := fnE12ConjugateRow.holds Try.pinned (OpenSpec.ofChange fnE12ConjugateWrong)

/-- 'laws.FnE12Double': WHATEVER THE INPUT: true; the input reads as it did. -/
def fnE12DoubleSpec : ChangeSpec := { name := "fnE12Double", fn := fun _ => fun
  | [d] => { results := [.lit (.bool true)], args := [d] }
  | _ => none }
def fnE12DoubleRow : OpenClaim := { program := "ytnhfgcoeibjagaa", sum := "003cbe38caa3ac9390594e00e115a920532341e5ba7f812f96947019931ce900", func := "loop.example/pub-g03343/laws.FnE12Double", spec := "fnE12Double", inPlace := ["math/bits.Add64", "math/bits.Sub64"], apart := false }
def FnE12DoubleSaid : Prop := fnE12DoubleRow.holds Try.pinned (OpenSpec.ofChange fnE12DoubleSpec)

/-- ITS FALSE NEIGHBOUR: 'it returns false'. Refute it at one input. -/
def fnE12DoubleWrong : ChangeSpec := { name := "fnE12Double", fn := fun _ => fun
  | [d] => { results := [.lit (.bool false)], args := [d] }
  | _ => none }
def FnE12DoubleWrongFalsely : Prop := fnE12DoubleRow.holds Try.pinned (OpenSpec.ofChange fnE12DoubleWrong)

/-- 'laws.FnE2NonResidue': WHATEVER THE INPUT: true; the input reads as it did. -/
def fnE2NonResidueSpec : ChangeSpec := { name := "fnE2NonResidue", fn := fun _ => fun
  | [d] => { results := [.lit (.bool true)], args := [d] }
  | _ => none }
def fnE2NonResidueRow : OpenClaim := { program := "ytnhfgcoeibjagaa", sum := "003cbe38caa3ac9390594e00e115a920532341e5ba7f812f96947019931ce900", func := "loop.example/pub-g03343/laws.FnE2NonResidue", spec := "fnE2NonResidue", inPlace := ["math/bits.Add64", "math/bits.Sub64"], unfollowed := true, recurses := true, apart := false }
def FnE2NonResidueSaid : Prop := fnE2NonResidueRow.holds Try.pinned (OpenSpec.ofChange fnE2NonResidueSpec)

/-- ITS FALSE NEIGHBOUR: 'it returns false'. Refute it at one input. -/
def fnE2NonResidueWrong : ChangeSpec := { name := "fnE2NonResidue", fn := fun _ => fun
  | [d] => { results := [.lit (.bool false)], args := [d] }
  | _ => none }
def FnE2NonResidueWrongFalsely : Prop := fnE2NonResidueRow.holds Try.pinned (OpenSpec.ofChange fnE2NonResidueWrong)

/-- 'laws.FnE6NonResidue': WHATEVER THE INPUT: true; the input reads as it did. -/
def fnE6NonResidueSpec : ChangeSpec := { name := "fnE6NonResidue", fn := fun _ => fun
  | [d] => { results := [.lit (.bool true)], args := [d] }
  | _ => none }
def fnE6NonResidueRow : OpenClaim := { program := "ytnhfgcoeibjagaa", sum := "003cbe38caa3ac9390594e00e115a920532341e5ba7f812f96947019931ce900", func := "loop.example/pub-g03343/laws.FnE6NonResidue", spec := "fnE6NonResidue", inPlace := ["math/bits.Add64", "math/bits.Sub64"], unfollowed := true, recurses := true, apart := false }
def FnE6NonResidueSaid : Prop := fnE6NonResidueRow.holds Try.pinned (OpenSpec.ofChange fnE6NonResidueSpec)

/-- ITS FALSE NEIGHBOUR: 'it returns false'. Refute it at one input. -/
def fnE6NonResidueWrong : ChangeSpec := { name := "fnE6NonResidue", fn := fun _ => fun
  | [d] => { results := [.lit (.bool false)], args := [d] }
  | _ => none }
def FnE6NonResidueWrongFalsely : Prop := fnE6NonResidueRow.holds Try.pinned (OpenSpec.ofChange fnE6NonResidueWrong)

/-- 'laws.FnE12Add': WHATEVER THE INPUT: true; the input reads as it did. -/
def fnE12AddSpec : ChangeSpec := { name := "fnE12Add", fn := fun _ => fun
  | [d1, d2] => { results := [.lit (.bool true)], args := [d1, d2] }
  | _ => none }
def fnE12AddRow : OpenClaim := { program := "ytnhfgcoeibjagaa", sum := "003cbe38caa3ac9390594e00e115a920532341e5ba7f812f96947019931ce900", func := "loop.example/pub-g03343/laws.FnE12Add", spec := "fnE12Add", inPlace := ["math/bits.Add64", "math/bits.Sub64"], apart := false }
def FnE12AddSaid : Prop := fnE12AddRow.holds Try.pinned (OpenSpec.ofChange fnE12AddSpec)

/-- ITS FALSE NEIGHBOUR: 'it returns false'. Refute it at one input. -/
def fnE12AddWrong : ChangeSpec := { name := "fnE12Add", fn := fun _ => fun
  | [d1, d2] => { results := [.lit (.bool false)], args := [d1, d2] }
  | _ => none }
def FnE12AddWrongFalsely : Prop := fnE12AddRow.holds Try.pinned (OpenSpec.ofChange fnE12AddWrong)

/- THE SECOND FORM. 'bulk': how many values and letters a reading holds, each counted each time it is reached (what is shared counts as often as it is met; a slice's spare places count too). A statement '..UptoSaid' is the law's where the arguments, and the package variables that the reading takes, are together of bulk at most 1048576: NARROWER than '..Said'. Prove '..Said' where nothing that the law and all that it calls make is longer than what came in: it says more and counts as full. Else prove '..UptoSaid'. A law counts once. -/
mutual
def uptoBulk {H : Type} : DataW H → Nat
  | .lit (.string bytes) => bytes.length + 1
  | .lit _ => 1
  | .nil => 1
  | .ptr d => uptoBulk d + 1
  | .slice elems spare => uptoBulkAll elems + uptoBulkAll spare + 1
  | .agg parts => uptoBulkAll parts + 1
  | .iface _ d => uptoBulk d + 1
  | .map entries => uptoBulkEntries entries + 1
  | .held _ => 1
def uptoBulkAll {H : Type} : List (DataW H) → Nat
  | [] => 0
  | d :: r => uptoBulk d + uptoBulkAll r
def uptoBulkEntries {H : Type} : List (Lit × DataW H) → Nat
  | [] => 0
  | x :: r => uptoBulkEntry x + uptoBulkEntries r
def uptoBulkEntry {H : Type} : Lit × DataW H → Nat
  | (.string bytes, d) => bytes.length + uptoBulk d + 1
  | (_, d) => uptoBulk d + 1
 end
def uptoSmall : (H : Type) → List (DataW H) → Bool := fun _ ds => decide (uptoBulkAll ds ≤ 1048576)
def OpenSpec.upto (s : _root_.Go.ChangeSpec) : _root_.Go.OpenSpec := { _root_.Go.OpenSpec.ofChange s with cond := some uptoSmall }

/-- 'laws.FnE2Conjugate', WHERE WHAT IT READS IS OF BULK AT MOST 1048576: true; the input reads as it did. -/
def fnE2ConjugateUptoRow : OpenClaim := { program := "ytnhfgcoeibjagaa", sum := "003cbe38caa3ac9390594e00e115a920532341e5ba7f812f96947019931ce900", func := "loop.example/pub-g03343/laws.FnE2Conjugate", spec := "fnE2Conjugate", inPlace := ["math/bits.Sub64"], apart := false, narrowed := true }
def FnE2ConjugateUptoSaid : Prop := fnE2ConjugateUptoRow.holds Try.pinned (OpenSpec.upto fnE2ConjugateSpec)

/-- 'laws.FnE2Neg', WHERE WHAT IT READS IS OF BULK AT MOST 1048576: true; the input reads as it did. -/
def fnE2NegUptoRow : OpenClaim := { program := "ytnhfgcoeibjagaa", sum := "003cbe38caa3ac9390594e00e115a920532341e5ba7f812f96947019931ce900", func := "loop.example/pub-g03343/laws.FnE2Neg", spec := "fnE2Neg", inPlace := ["math/bits.Sub64"], apart := false, narrowed := true }
def FnE2NegUptoSaid : Prop := fnE2NegUptoRow.holds Try.pinned (OpenSpec.upto fnE2NegSpec)

/-- 'laws.FnE2Sub', WHERE WHAT IT READS IS OF BULK AT MOST 1048576: true; the input reads as it did. -/
def fnE2SubUptoRow : OpenClaim := { program := "ytnhfgcoeibjagaa", sum := "003cbe38caa3ac9390594e00e115a920532341e5ba7f812f96947019931ce900", func := "loop.example/pub-g03343/laws.FnE2Sub", spec := "fnE2Sub", inPlace := ["math/bits.Sub64", "math/bits.Add64"], apart := false, narrowed := true }
def FnE2SubUptoSaid : Prop := fnE2SubUptoRow.holds Try.pinned (OpenSpec.upto fnE2SubSpec)

/-- 'laws.FnE2Double', WHERE WHAT IT READS IS OF BULK AT MOST 1048576: true; the input reads as it did. -/
def fnE2DoubleUptoRow : OpenClaim := { program := "ytnhfgcoeibjagaa", sum := "003cbe38caa3ac9390594e00e115a920532341e5ba7f812f96947019931ce900", func := "loop.example/pub-g03343/laws.FnE2Double", spec := "fnE2Double", inPlace := ["math/bits.Add64", "math/bits.Sub64"], apart := false, narrowed := true }
def FnE2DoubleUptoSaid : Prop := fnE2DoubleUptoRow.holds Try.pinned (OpenSpec.upto fnE2DoubleSpec)

/-- 'laws.FnE6Sub', WHERE WHAT IT READS IS OF BULK AT MOST 1048576: true; the input reads as it did. -/
def fnE6SubUptoRow : OpenClaim := { program := "ytnhfgcoeibjagaa", sum := "003cbe38caa3ac9390594e00e115a920532341e5ba7f812f96947019931ce900", func := "loop.example/pub-g03343/laws.FnE6Sub", spec := "fnE6Sub", inPlace := ["math/bits.Sub64", "math/bits.Add64"], apart := false, narrowed := true }
def FnE6SubUptoSaid : Prop := fnE6SubUptoRow.holds Try.pinned (OpenSpec.upto fnE6SubSpec)

/-- 'laws.FnE6Add', WHERE WHAT IT READS IS OF BULK AT MOST 1048576: true; the input reads as it did. -/
def fnE6AddUptoRow : OpenClaim := { program := "ytnhfgcoeibjagaa", sum := "003cbe38caa3ac9390594e00e115a920532341e5ba7f812f96947019931ce900", func := "loop.example/pub-g03343/laws.FnE6Add", spec := "fnE6Add", inPlace := ["math/bits.Add64", "math/bits.Sub64"], apart := false, narrowed := true }
def FnE6AddUptoSaid : Prop := fnE6AddUptoRow.holds Try.pinned (OpenSpec.upto fnE6AddSpec)

/-- 'laws.FnE12Conjugate', WHERE WHAT IT READS IS OF BULK AT MOST 1048576: true; the input reads as it did. -/
def fnE12ConjugateUptoRow : OpenClaim := { program := "ytnhfgcoeibjagaa", sum := "003cbe38caa3ac9390594e00e115a920532341e5ba7f812f96947019931ce900", func := "loop.example/pub-g03343/laws.FnE12Conjugate", spec := "fnE12Conjugate", inPlace := ["math/bits.Sub64"], apart := false, narrowed := true }
def FnE12ConjugateUptoSaid : Prop := fnE12ConjugateUptoRow.holds Try.pinned (OpenSpec.upto fnE12ConjugateSpec)

/-- 'laws.FnE12Double', WHERE WHAT IT READS IS OF BULK AT MOST 1048576: true; the input reads as it did. -/
def fnE12DoubleUptoRow : OpenClaim := { program := "ytnhfgcoeibjagaa", sum := "003cbe38caa3ac9390594e00e115a920532341e5ba7f812f96947019931ce900", func := "loop.example/pub-g03343/laws.FnE12Double", spec := "fnE12Double", inPlace := ["math/bits.Add64", "math/bits.Sub64"], apart := false, narrowed := true }
def FnE12DoubleUptoSaid : Prop := fnE12DoubleUptoRow.holds Try.pinned (OpenSpec.upto fnE12DoubleSpec)

/-- 'laws.FnE2NonResidue', WHERE WHAT IT READS IS OF BULK AT MOST 1048576: true; the input reads as it did. -/
def fnE2NonResidueUptoRow : OpenClaim := { program := "ytnhfgcoeibjagaa", sum := "003cbe38caa3ac9390594e00e115a920532341e5ba7f812f96947019931ce900", func := "loop.example/pub-g03343/laws.FnE2NonResidue", spec := "fnE2NonResidue", inPlace := ["math/bits.Add64", "math/bits.Sub64"], unfollowed := true, recurses := true, apart := false, narrowed := true }
def FnE2NonResidueUptoSaid : Prop := fnE2NonResidueUptoRow.holds Try.pinned (OpenSpec.upto fnE2NonResidueSpec)

/-- 'laws.FnE6NonResidue', WHERE WHAT IT READS IS OF BULK AT MOST 1048576: true; the input reads as it did. -/
def fnE6NonResidueUptoRow : OpenClaim := { program := "ytnhfgcoeibjagaa", sum := "003cbe38caa3ac9390594e00e115a920532341e5ba7f812f96947019931ce900", func := "loop.example/pub-g03343/laws.FnE6NonResidue", spec := "fnE6NonResidue", inPlace := ["math/bits.Add64", "math/bits.Sub64"], unfollowed := true, recurses := true, apart := false, narrowed := true }
def FnE6NonResidueUptoSaid : Prop := fnE6NonResidueUptoRow.holds Try.pinned (OpenSpec.upto fnE6NonResidueSpec)

/-- 'laws.FnE12Add', WHERE WHAT IT READS IS OF BULK AT MOST 1048576: true; the input reads as it did. -/
def fnE12AddUptoRow : OpenClaim := { program := "ytnhfgcoeibjagaa", sum := "003cbe38caa3ac9390594e00e115a920532341e5ba7f812f96947019931ce900", func := "loop.example/pub-g03343/laws.FnE12Add", spec := "fnE12Add", inPlace := ["math/bits.Add64", "math/bits.Sub64"], apart := false, narrowed := true }
def FnE12AddUptoSaid : Prop := fnE12AddUptoRow.holds Try.pinned (OpenSpec.upto fnE12AddSpec)

end Rows
end Go.Proofs.Ytnhfgcoeibjagaa
