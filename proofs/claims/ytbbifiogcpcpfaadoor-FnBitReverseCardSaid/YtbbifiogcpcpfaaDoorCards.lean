/-
  DERIVED. GIVEN WITH THE SEED: THE CARDS: each row of YtbbifiogcpcpfaaDoorRows.lean that lists a variable, with what it lists TIED to the program's text (the seventh form; the later family's looks); each row that meets fmt, with fmt's text TOLD by the authors' own Lean function (tested against real Go, not proved from fmt's source: count such statements apart). THE CARD IS WHAT COUNTS. Prove the row's statement (the work); the ties are given (YtbbifiogcpcpfaaDoorTie.lean); close each card by the builder's one call (the guide's Derived/Test/ToyasCard.lean, 'card_holds'). Laid BY PROGRAM, IN A SANDBOX (cutbox-door.mjs). By AI agents, Wed Nov 11 2026. No macro, syntax, notation, axiom, sorry.
-/
import Derived.Test.YtbbifiogcpcpfaaDoorRows
import GoSem.ClaimSeven
namespace Go.Proofs.YtbbifiogcpcpfaaDoor
namespace Rows

/-- THE TIED CARD OF 'laws.FnBitReverse'. -/
def fnBitReverseCard : Claim7 := { stood := { row := fnBitReverseRow, standIns := [], harness := (true, "ebbdcc34ab3116264bd5c92b2935dea7bccc0f7ff3ac984a4d4803dde7085e05"), looks := false }, kinds := [], alts := [], laidByText := true, laidKinds := [.data], laidTests := true, laidLooks := .later }
def FnBitReverseCardSaid : Prop := Claim7.holds Tryd.pinned (.plain (OpenSpec.ofChange fnBitReverseSpec)) fnBitReverseCard

/-- THE SECOND FORM's CARD OF 'laws.FnBitReverse'. -/
def fnBitReverseUptoCard : Claim7 := { stood := { row := fnBitReverseUptoRow, standIns := [], harness := (true, "ebbdcc34ab3116264bd5c92b2935dea7bccc0f7ff3ac984a4d4803dde7085e05"), looks := false }, kinds := [], alts := [], laidByText := true, laidKinds := [.data], laidTests := true, laidLooks := .later }
def FnBitReverseUptoCardSaid : Prop := Claim7.holds Tryd.pinned (.plain (OpenSpec.upto fnBitReverseSpec)) fnBitReverseUptoCard
end Rows
end Go.Proofs.YtbbifiogcpcpfaaDoor
