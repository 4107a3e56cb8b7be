/-
  No cell of these rows narrows 'for every input' (looked for: loops, veiled, ifaces, maps, wideKeys, modest, calm, conditions, laid).
  DERIVED. THE GIVEN ROWS OF THIS SEAT. 5 by the template 'for every input the law returns true; each argument reads behind the call as it read before'; 0 by the template 'total and deterministic' (their statements: YtglnmklofoobkaaTotals.lean).
  GIVEN WITH THE SEED: the statements are not yours to turn. If you find one false, say at which input.
  Laid BY PROGRAM, IN A SANDBOX (cutbox-rows.mjs): the forced cells as the released guide's own fill.sh prints them over the translation 8e55b9bc8b47549e… (all of the seat's roots in one cut). By AI agents, Wed Nov 11 2026. No macro, syntax, notation, axiom, sorry.
-/
import Derived.Test.YtglnmklofoobkaaChecked
import GoSem.Claim
import GoSem.ClaimJoined
import GoSem.ClaimMapViews
import Derived.JoinedTies
import Derived.KernelRfl
namespace Go.Proofs.Ytglnmklofoobkaa
/- THE CELL 'sum', in the pinned program and in every row, IS THE sha256 OF THE DUMP (.gsa) THAT YtglnmklofoobkaaProg.lean LOADS. Nothing in Lean hashes anything: it is a label: what it is worth is what the hold of that sum in a sandbox is worth. -/
noncomputable def Try.pinned : Pinned := { name := "ytglnmklofoobkaa", sum := "8e55b9bc8b47549ee2de3bdde0138707c66b6d493e6bf1b32f7310ae7e072217", checked := Try.checked }
namespace Rows
def none {H : Type} : Left H := { results := [], args := [] }

/-- 'laws.FnE2Select': WHATEVER THE INPUT: true; the input reads as it did. -/
def fnE2SelectSpec : ChangeSpec := { name := "fnE2Select", fn := fun _ => fun
  | [d1, d2, d3] => { results := [.lit (.bool true)], args := [d1, d2, d3] }
  | _ => none }
def fnE2SelectRow : OpenClaim := { program := "ytglnmklofoobkaa", sum := "8e55b9bc8b47549ee2de3bdde0138707c66b6d493e6bf1b32f7310ae7e072217", func := "loop.example/pub-g03343/laws.FnE2Select", spec := "fnE2Select", apart := false }
def FnE2SelectSaid : Prop := fnE2SelectRow.holds Try.pinned (OpenSpec.ofChange fnE2SelectSpec)

/-- ITS FALSE NEIGHBOUR: 'it returns false'. Refute it at one input. -/
def fnE2SelectWrong : ChangeSpec := { name := "fnE2Select", fn := fun _ => fun
  | [d1, d2, d3] => { results := [.lit (.bool false)], args := [d1, d2, d3] }
  | _ => none }
def FnE2SelectWrongFalsely : Prop := fnE2SelectRow.holds Try.pinned (OpenSpec.ofChange fnE2SelectWrong)

/-- 'laws.FnE2Equal': WHATEVER THE INPUT: true; the input reads as it did. -/
def fnE2EqualSpec : ChangeSpec := { name := "fnE2Equal", fn := fun _ => fun
  | [d1, d2] => { results := [.lit (.bool true)], args := [d1, d2] }
  | _ => none }
def fnE2EqualRow : OpenClaim := { program := "ytglnmklofoobkaa", sum := "8e55b9bc8b47549ee2de3bdde0138707c66b6d493e6bf1b32f7310ae7e072217", func := "loop.example/pub-g03343/laws.FnE2Equal", spec := "fnE2Equal", apart := false }
def FnE2EqualSaid : Prop := fnE2EqualRow.holds Try.pinned (OpenSpec.ofChange fnE2EqualSpec)

/-- ITS FALSE NEIGHBOUR: 'it returns false'. Refute it at one input. -/
def fnE2EqualWrong : ChangeSpec := { name := "fnE2Equal", fn := fun _ => fun
  | [d1, d2] => { results := [.lit (.bool false)], args := [d1, d2] }
  | _ => none }
def FnE2EqualWrongFalsely : Prop := fnE2EqualRow.holds Try.pinned (OpenSpec.ofChange fnE2EqualWrong)

/-- 'laws.FnE2Halve': WHATEVER THE INPUT: true; the input reads as it did. -/
def fnE2HalveSpec : ChangeSpec := { name := "fnE2Halve", fn := fun _ => fun
  | [d] => { results := [.lit (.bool true)], args := [d] }
  | _ => none }
def fnE2HalveRow : OpenClaim := { program := "ytglnmklofoobkaa", sum := "8e55b9bc8b47549ee2de3bdde0138707c66b6d493e6bf1b32f7310ae7e072217", func := "loop.example/pub-g03343/laws.FnE2Halve", spec := "fnE2Halve", inPlace := ["math/bits.Add64"], apart := false }
def FnE2HalveSaid : Prop := fnE2HalveRow.holds Try.pinned (OpenSpec.ofChange fnE2HalveSpec)

/-- ITS FALSE NEIGHBOUR: 'it returns false'. Refute it at one input. -/
def fnE2HalveWrong : ChangeSpec := { name := "fnE2Halve", fn := fun _ => fun
  | [d] => { results := [.lit (.bool false)], args := [d] }
  | _ => none }
def FnE2HalveWrongFalsely : Prop := fnE2HalveRow.holds Try.pinned (OpenSpec.ofChange fnE2HalveWrong)

/-- 'laws.FnPolyDegree': WHATEVER THE INPUT: true; the input reads as it did. -/
def fnPolyDegreeSpec : ChangeSpec := { name := "fnPolyDegree", fn := fun _ => fun
  | [d1, d2] => { results := [.lit (.bool true)], args := [d1, d2] }
  | _ => none }
def fnPolyDegreeRow : OpenClaim := { program := "ytglnmklofoobkaa", sum := "8e55b9bc8b47549ee2de3bdde0138707c66b6d493e6bf1b32f7310ae7e072217", func := "loop.example/pub-g03343/laws.FnPolyDegree", spec := "fnPolyDegree", apart := false }
def FnPolyDegreeSaid : Prop := fnPolyDegreeRow.holds Try.pinned (OpenSpec.ofChange fnPolyDegreeSpec)

/-- ITS FALSE NEIGHBOUR: 'it returns false'. Refute it at one input. -/
def fnPolyDegreeWrong : ChangeSpec := { name := "fnPolyDegree", fn := fun _ => fun
  | [d1, d2] => { results := [.lit (.bool false)], args := [d1, d2] }
  | _ => none }
def FnPolyDegreeWrongFalsely : Prop := fnPolyDegreeRow.holds Try.pinned (OpenSpec.ofChange fnPolyDegreeWrong)

/-- 'laws.FnE2Add': WHATEVER THE INPUT: true; the input reads as it did. -/
def fnE2AddSpec : ChangeSpec := { name := "fnE2Add", fn := fun _ => fun
  | [d1, d2] => { results := [.lit (.bool true)], args := [d1, d2] }
  | _ => none }
def fnE2AddRow : OpenClaim := { program := "ytglnmklofoobkaa", sum := "8e55b9bc8b47549ee2de3bdde0138707c66b6d493e6bf1b32f7310ae7e072217", func := "loop.example/pub-g03343/laws.FnE2Add", spec := "fnE2Add", inPlace := ["math/bits.Add64", "math/bits.Sub64"], apart := false }
def FnE2AddSaid : Prop := fnE2AddRow.holds Try.pinned (OpenSpec.ofChange fnE2AddSpec)

/-- ITS FALSE NEIGHBOUR: 'it returns false'. Refute it at one input. -/
def fnE2AddWrong : ChangeSpec := { name := "fnE2Add", fn := fun _ => fun
  | [d1, d2] => { results := [.lit (.bool false)], args := [d1, d2] }
  | _ => none }
def FnE2AddWrongFalsely : Prop := fnE2AddRow.holds Try.pinned (OpenSpec.ofChange fnE2AddWrong)

/- THE SECOND FORM. 'bulk': how many values and letters a reading holds, each counted each time it is reached (what is shared counts as often as it is met; a slice's spare places count too). A statement '..UptoSaid' is the law's where the arguments, and the package variables that the reading takes, are together of bulk at most 1048576: NARROWER than '..Said'. Prove '..Said' where nothing that the law and all that it calls make is longer than what came in: it says more and counts as full. Else prove '..UptoSaid'. A law counts once. -/
mutual
def uptoBulk {H : Type} : DataW H → Nat
  | .lit (.string bytes) => bytes.length + 1
  | .lit _ => 1
  | .nil => 1
  | .ptr d => uptoBulk d + 1
  | .slice elems spare => uptoBulkAll elems + uptoBulkAll spare + 1
  | .agg parts => uptoBulkAll parts + 1
  | .iface _ d => uptoBulk d + 1
  | .map entries => uptoBulkEntries entries + 1
  | .held _ => 1
def uptoBulkAll {H : Type} : List (DataW H) → Nat
  | [] => 0
  | d :: r => uptoBulk d + uptoBulkAll r
def uptoBulkEntries {H : Type} : List (Lit × DataW H) → Nat
  | [] => 0
  | x :: r => uptoBulkEntry x + uptoBulkEntries r
def uptoBulkEntry {H : Type} : Lit × DataW H → Nat
  | (.string bytes, d) => bytes.length + uptoBulk d + 1
  | (_, d) => uptoBulk d + 1
 end
def uptoSmall : (H : Type) → List (DataW H) → Bool := fun _ ds => decide (uptoBulkAll ds ≤ 1048576)
def OpenSpec.upto (s : _root_.Go.ChangeSpec) : _root_.Go.OpenSpec := { _root_.Go.OpenSpec.ofChange s with cond := some uptoSmall }

/-- 'laws.FnE2Select', WHERE WHAT IT READS IS OF BULK AT MOST 1048576: true; the input reads as it did. -/
def fnE2SelectUptoRow : OpenClaim := { program := "ytglnmklofoobkaa", sum := "8e55b9bc8b47549ee2de3bdde0138707c66b6d493e6bf1b32f7310ae7e072217", func := "loop.example/pub-g03343/laws.FnE2Select", spec := "fnE2Select", apart := false, narrowed := true }
def FnE2SelectUptoSaid : Prop := fnE2SelectUptoRow.holds Try.pinned (OpenSpec.upto fnE2SelectSpec)

/-- 'laws.FnE2Equal', WHERE WHAT IT READS IS OF BULK AT MOST 1048576: true; the input reads as it did. -/
def fnE2EqualUptoRow : OpenClaim := { program := "ytglnmklofoobkaa", sum := "8e55b9bc8b47549ee2de3bdde0138707c66b6d493e6bf1b32f7310ae7e072217", func := "loop.example/pub-g03343/laws.FnE2Equal", spec := "fnE2Equal", apart := false, narrowed := true }
def FnE2EqualUptoSaid : Prop := fnE2EqualUptoRow.holds Try.pinned (OpenSpec.upto fnE2EqualSpec)

/-- 'laws.FnE2Halve', WHERE WHAT IT READS IS OF BULK AT MOST 1048576: true; the input reads as it did. -/
def fnE2HalveUptoRow : OpenClaim := { program := "ytglnmklofoobkaa", sum := "8e55b9bc8b47549ee2de3bdde0138707c66b6d493e6bf1b32f7310ae7e072217", func := "loop.example/pub-g03343/laws.FnE2Halve", spec := "fnE2Halve", inPlace := ["math/bits.Add64"], apart := false, narrowed := true }
def FnE2HalveUptoSaid : Prop := fnE2HalveUptoRow.holds Try.pinned (OpenSpec.upto fnE2HalveSpec)

/-- 'laws.FnPolyDegree', WHERE WHAT IT READS IS OF BULK AT MOST 1048576: true; the input reads as it did. -/
def fnPolyDegreeUptoRow : OpenClaim := { program := "ytglnmklofoobkaa", sum := "8e55b9bc8b47549ee2de3bdde0138707c66b6d493e6bf1b32f7310ae7e072217", func := "loop.example/pub-g03343/laws.FnPolyDegree", spec := "fnPolyDegree", apart := false, narrowed := true }
def FnPolyDegreeUptoSaid : Prop := fnPolyDegreeUptoRow.holds Try.pinned (OpenSpec.upto fnPolyDegreeSpec)

/-- 'laws.FnE2Add', WHERE WHAT IT READS IS OF BULK AT MOST 1048576: true; the input reads as it did. -/
def fnE2AddUptoRow : OpenClaim := { program := "ytglnmklofoobkaa", sum := "8e55b9bc8b47549ee2de3bdde0138707c66b6d493e6bf1b32f7310ae7e072217", func := "loop.example/pub-g03343/laws.FnE2Add", spec := "fnE2Add", inPlace := ["math/bits.Add64", "math/bits.Sub64"], apart := false, narrowed := true }
def FnE2AddUptoSaid : Prop := fnE2AddUptoRow.holds Try.pinned (OpenSpec.upto fnE2AddSpec)

end Rows
end Go.Proofs.Ytglnmklofoobkaa
