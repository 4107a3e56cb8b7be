/-
  No cell of these rows narrows 'for every input' (looked for: loops, veiled, ifaces, maps, wideKeys, modest, calm, conditions, laid).
  DERIVED. THE GIVEN ROWS OF THIS SEAT. 6 by the template 'for every input the law returns true; each argument reads behind the call as it read before'; 0 by the template 'total and deterministic' (their statements: YtbbifiogcpcpfaaTotals.lean).
  GIVEN WITH THE SEED: the statements are not yours to turn. If you find one false, say at which input.
  Laid BY PROGRAM, IN A SANDBOX (cutbox-rows.mjs): the forced cells as the released guide's own fill.sh prints them over the translation 01f925f0dae1ea49… (all of the seat's roots in one cut). By AI agents, Wed Nov 11 2026. No macro, syntax, notation, axiom, sorry.
-/
import Derived.Test.YtbbifiogcpcpfaaChecked
import GoSem.Claim
import GoSem.ClaimJoined
import GoSem.ClaimMapViews
import Derived.JoinedTies
import Derived.KernelRfl
namespace Go.Proofs.Ytbbifiogcpcpfaa
/- THE CELL 'sum', in the pinned program and in every row, IS THE sha256 OF THE DUMP (.gsa) THAT YtbbifiogcpcpfaaProg.lean LOADS. Nothing in Lean hashes anything: it is a label: what it is worth is what the hold of that sum in a sandbox is worth. -/
noncomputable def Try.pinned : Pinned := { name := "ytbbifiogcpcpfaa", sum := "01f925f0dae1ea4967088a64b9cd1cd10953ab371644703c1c5dff0eabd22cf9", checked := Try.checked }
namespace Rows
def none {H : Type} : Left H := { results := [], args := [] }

/-- 'laws.FnE2Equal': WHATEVER THE INPUT: true; the input reads as it did. -/
def fnE2EqualSpec : ChangeSpec := { name := "fnE2Equal", fn := fun _ => fun
  | [d1, d2] => { results := [.lit (.bool true)], args := [d1, d2] }
  | _ => none }
def fnE2EqualRow : OpenClaim := { program := "ytbbifiogcpcpfaa", sum := "01f925f0dae1ea4967088a64b9cd1cd10953ab371644703c1c5dff0eabd22cf9", func := "loop.example/pub-g03343/laws.FnE2Equal", spec := "fnE2Equal", apart := false }
def FnE2EqualSaid : Prop := fnE2EqualRow.holds Try.pinned (OpenSpec.ofChange fnE2EqualSpec)

/-- ITS FALSE NEIGHBOUR: 'it returns false'. Refute it at one input. -/
def fnE2EqualWrong : ChangeSpec := { name := "fnE2Equal", fn := fun _ => fun
  | [d1, d2] => { results := [.lit (.bool false)], args := [d1, d2] }
  | _ => none }
def FnE2EqualWrongFalsely : Prop := fnE2EqualRow.holds Try.pinned (OpenSpec.ofChange fnE2EqualWrong)

/-- 'laws.FnE2NonResidue': WHATEVER THE INPUT: true; the input reads as it did. -/
def fnE2NonResidueSpec : ChangeSpec := { name := "fnE2NonResidue", fn := fun _ => fun
  | [d] => { results := [.lit (.bool true)], args := [d] }
  | _ => none }
def fnE2NonResidueRow : OpenClaim := { program := "ytbbifiogcpcpfaa", sum := "01f925f0dae1ea4967088a64b9cd1cd10953ab371644703c1c5dff0eabd22cf9", func := "loop.example/pub-g03343/laws.FnE2NonResidue", spec := "fnE2NonResidue", inPlace := ["math/bits.Add64", "math/bits.Sub64"], unfollowed := true, recurses := true, apart := false }
def FnE2NonResidueSaid : Prop := fnE2NonResidueRow.holds Try.pinned (OpenSpec.ofChange fnE2NonResidueSpec)

/-- ITS FALSE NEIGHBOUR: 'it returns false'. Refute it at one input. -/
def fnE2NonResidueWrong : ChangeSpec := { name := "fnE2NonResidue", fn := fun _ => fun
  | [d] => { results := [.lit (.bool false)], args := [d] }
  | _ => none }
def FnE2NonResidueWrongFalsely : Prop := fnE2NonResidueRow.holds Try.pinned (OpenSpec.ofChange fnE2NonResidueWrong)

/-- 'laws.FnE6NonResidue': WHATEVER THE INPUT: true; the input reads as it did. -/
def fnE6NonResidueSpec : ChangeSpec := { name := "fnE6NonResidue", fn := fun _ => fun
  | [d] => { results := [.lit (.bool true)], args := [d] }
  | _ => none }
def fnE6NonResidueRow : OpenClaim := { program := "ytbbifiogcpcpfaa", sum := "01f925f0dae1ea4967088a64b9cd1cd10953ab371644703c1c5dff0eabd22cf9", func := "loop.example/pub-g03343/laws.FnE6NonResidue", spec := "fnE6NonResidue", inPlace := ["math/bits.Add64", "math/bits.Sub64"], unfollowed := true, recurses := true, apart := false }
def FnE6NonResidueSaid : Prop := fnE6NonResidueRow.holds Try.pinned (OpenSpec.ofChange fnE6NonResidueSpec)

/-- ITS FALSE NEIGHBOUR: 'it returns false'. Refute it at one input. -/
def fnE6NonResidueWrong : ChangeSpec := { name := "fnE6NonResidue", fn := fun _ => fun
  | [d] => { results := [.lit (.bool false)], args := [d] }
  | _ => none }
def FnE6NonResidueWrongFalsely : Prop := fnE6NonResidueRow.holds Try.pinned (OpenSpec.ofChange fnE6NonResidueWrong)

/-- 'laws.FnPolyDegree': WHATEVER THE INPUT: true; the input reads as it did. -/
def fnPolyDegreeSpec : ChangeSpec := { name := "fnPolyDegree", fn := fun _ => fun
  | [d1, d2] => { results := [.lit (.bool true)], args := [d1, d2] }
  | _ => none }
def fnPolyDegreeRow : OpenClaim := { program := "ytbbifiogcpcpfaa", sum := "01f925f0dae1ea4967088a64b9cd1cd10953ab371644703c1c5dff0eabd22cf9", func := "loop.example/pub-g03343/laws.FnPolyDegree", spec := "fnPolyDegree", apart := false }
def FnPolyDegreeSaid : Prop := fnPolyDegreeRow.holds Try.pinned (OpenSpec.ofChange fnPolyDegreeSpec)

/-- ITS FALSE NEIGHBOUR: 'it returns false'. Refute it at one input. -/
def fnPolyDegreeWrong : ChangeSpec := { name := "fnPolyDegree", fn := fun _ => fun
  | [d1, d2] => { results := [.lit (.bool false)], args := [d1, d2] }
  | _ => none }
def FnPolyDegreeWrongFalsely : Prop := fnPolyDegreeRow.holds Try.pinned (OpenSpec.ofChange fnPolyDegreeWrong)

/-- 'laws.FnPolySub': WHATEVER THE INPUT: true; the input reads as it did. -/
def fnPolySubSpec : ChangeSpec := { name := "fnPolySub", fn := fun _ => fun
  | [d1, d2] => { results := [.lit (.bool true)], args := [d1, d2] }
  | _ => none }
def fnPolySubRow : OpenClaim := { program := "ytbbifiogcpcpfaa", sum := "01f925f0dae1ea4967088a64b9cd1cd10953ab371644703c1c5dff0eabd22cf9", func := "loop.example/pub-g03343/laws.FnPolySub", spec := "fnPolySub", inPlace := ["math/bits.Sub64", "math/bits.Add64"], apart := false }
def FnPolySubSaid : Prop := fnPolySubRow.holds Try.pinned (OpenSpec.ofChange fnPolySubSpec)

/-- ITS FALSE NEIGHBOUR: 'it returns false'. Refute it at one input. -/
def fnPolySubWrong : ChangeSpec := { name := "fnPolySub", fn := fun _ => fun
  | [d1, d2] => { results := [.lit (.bool false)], args := [d1, d2] }
  | _ => none }
def FnPolySubWrongFalsely : Prop := fnPolySubRow.holds Try.pinned (OpenSpec.ofChange fnPolySubWrong)

/-- 'laws.FnPolyAdd': WHATEVER THE INPUT: true; the input reads as it did. -/
def fnPolyAddSpec : ChangeSpec := { name := "fnPolyAdd", fn := fun _ => fun
  | [d1, d2] => { results := [.lit (.bool true)], args := [d1, d2] }
  | _ => none }
def fnPolyAddRow : OpenClaim := { program := "ytbbifiogcpcpfaa", sum := "01f925f0dae1ea4967088a64b9cd1cd10953ab371644703c1c5dff0eabd22cf9", func := "loop.example/pub-g03343/laws.FnPolyAdd", spec := "fnPolyAdd", inPlace := ["math/bits.Add64", "math/bits.Sub64"], apart := false }
def FnPolyAddSaid : Prop := fnPolyAddRow.holds Try.pinned (OpenSpec.ofChange fnPolyAddSpec)

/-- ITS FALSE NEIGHBOUR: 'it returns false'. Refute it at one input. -/
def fnPolyAddWrong : ChangeSpec := { name := "fnPolyAdd", fn := fun _ => fun
  | [d1, d2] => { results := [.lit (.bool false)], args := [d1, d2] }
  | _ => none }
def FnPolyAddWrongFalsely : Prop := fnPolyAddRow.holds Try.pinned (OpenSpec.ofChange fnPolyAddWrong)

/- THE SECOND FORM. 'bulk': how many values and letters a reading holds, each counted each time it is reached (what is shared counts as often as it is met; a slice's spare places count too). A statement '..UptoSaid' is the law's where the arguments, and the package variables that the reading takes, are together of bulk at most 1048576: NARROWER than '..Said'. Prove '..Said' where nothing that the law and all that it calls make is longer than what came in: it says more and counts as full. Else prove '..UptoSaid'. A law counts once. -/
mutual
def uptoBulk {H : Type} : DataW H → Nat
  | .lit (.string bytes) => bytes.length + 1
  | .lit _ => 1
  | .nil => 1
  | .ptr d => uptoBulk d + 1
  | .slice elems spare => uptoBulkAll elems + uptoBulkAll spare + 1
  | .agg parts => uptoBulkAll parts + 1
  | .iface _ d => uptoBulk d + 1
  | .map entries => uptoBulkEntries entries + 1
  | .held _ => 1
def uptoBulkAll {H : Type} : List (DataW H) → Nat
  | [] => 0
  | d :: r => uptoBulk d + uptoBulkAll r
def uptoBulkEntries {H : Type} : List (Lit × DataW H) → Nat
  | [] => 0
  | x :: r => uptoBulkEntry x + uptoBulkEntries r
def uptoBulkEntry {H : Type} : Lit × DataW H → Nat
  | (.string bytes, d) => bytes.length + uptoBulk d + 1
  | (_, d) => uptoBulk d + 1
 end
def uptoSmall : (H : Type) → List (DataW H) → Bool := fun _ ds => decide (uptoBulkAll ds ≤ 1048576)
def OpenSpec.upto (s : _root_.Go.ChangeSpec) : _root_.Go.OpenSpec := { _root_.Go.OpenSpec.ofChange s with cond := some uptoSmall }

/-- 'laws.FnE2Equal', WHERE WHAT IT READS IS OF BULK AT MOST 1048576: true; the input reads as it did. -/
def fnE2EqualUptoRow : OpenClaim := { program := "ytbbifiogcpcpfaa", sum := "01f925f0dae1ea4967088a64b9cd1cd10953ab371644703c1c5dff0eabd22cf9", func := "loop.example/pub-g03343/laws.FnE2Equal", spec := "fnE2Equal", apart := false, narrowed := true }
def FnE2EqualUptoSaid : Prop := fnE2EqualUptoRow.holds Try.pinned (OpenSpec.upto fnE2EqualSpec)

/-- 'laws.FnE2NonResidue', WHERE WHAT IT READS IS OF BULK AT MOST 1048576: true; the input reads as it did. -/
def fnE2NonResidueUptoRow : OpenClaim := { program := "ytbbifiogcpcpfaa", sum := "01f925f0dae1ea4967088a64b9cd1cd10953ab371644703c1c5dff0eabd22cf9", func := "loop.example/pub-g03343/laws.FnE2NonResidue", spec := "fnE2NonResidue", inPlace := ["math/bits.Add64", "math/bits.Sub64"], unfollowed := true, recurses := true, apart := false, narrowed := true }
def FnE2NonResidueUptoSaid : Prop := fnE2NonResidueUptoRow.holds Try.pinned (OpenSpec.upto fnE2NonResidueSpec)

/-- 'laws.FnE6NonResidue', WHERE WHAT IT READS IS OF BULK AT MOST 1048576: true; the input reads as it did. -/
def fnE6NonResidueUptoRow : OpenClaim := { program := "ytbbifiogcpcpfaa", sum := "01f925f0dae1ea4967088a64b9cd1cd10953ab371644703c1c5dff0eabd22cf9", func := "loop.example/pub-g03343/laws.FnE6NonResidue", spec := "fnE6NonResidue", inPlace := ["math/bits.Add64", "math/bits.Sub64"], unfollowed := true, recurses := true, apart := false, narrowed := true }
def FnE6NonResidueUptoSaid : Prop := fnE6NonResidueUptoRow.holds Try.pinned (OpenSpec.upto fnE6NonResidueSpec)

/-- 'laws.FnPolyDegree', WHERE WHAT IT READS IS OF BULK AT MOST 1048576: true; the input reads as it did. -/
def fnPolyDegreeUptoRow : OpenClaim := { program := "ytbbifiogcpcpfaa", sum := "01f925f0dae1ea4967088a64b9cd1cd10953ab371644703c1c5dff0eabd22cf9", func := "loop.example/pub-g03343/laws.FnPolyDegree", spec := "fnPolyDegree", apart := false, narrowed := true }
def FnPolyDegreeUptoSaid : Prop := fnPolyDegreeUptoRow.holds Try.pinned (OpenSpec.upto fnPolyDegreeSpec)

/-- 'laws.FnPolySub', WHERE WHAT IT READS IS OF BULK AT MOST 1048576: true; the input reads as it did. -/
def fnPolySubUptoRow : OpenClaim := { program := "ytbbifiogcpcpfaa", sum := "01f925f0dae1ea4967088a64b9cd1cd10953ab371644703c1c5dff0eabd22cf9", func := "loop.example/pub-g03343/laws.FnPolySub", spec := "fnPolySub", inPlace := ["math/bits.Sub64", "math/bits.Add64"], apart := false, narrowed := true }
def FnPolySubUptoSaid : Prop := fnPolySubUptoRow.holds Try.pinned (OpenSpec.upto fnPolySubSpec)

/-- 'laws.FnPolyAdd', WHERE WHAT IT READS IS OF BULK AT MOST 1048576: true; the input reads as it did. -/
def fnPolyAddUptoRow : OpenClaim := { program := "ytbbifiogcpcpfaa", sum := "01f925f0dae1ea4967088a64b9cd1cd10953ab371644703c1c5dff0eabd22cf9", func := "loop.example/pub-g03343/laws.FnPolyAdd", spec := "fnPolyAdd", inPlace := ["math/bits.Add64", "math/bits.Sub64"], apart := false, narrowed := true }
def FnPolyAddUptoSaid : Prop := fnPolyAddUptoRow.holds Try.pinned (OpenSpec.upto fnPolyAddSpec)

end Rows
end Go.Proofs.Ytbbifiogcpcpfaa
