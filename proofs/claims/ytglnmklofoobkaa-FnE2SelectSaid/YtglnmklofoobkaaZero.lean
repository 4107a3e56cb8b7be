/-
  Words below the prime, of the parts; zeros; an argument of E2.
-/
import Derived.Test.YtglnmklofoobkaaGen
import Derived.Test.YtglnmklofoobkaaE2Bin
import Derived.Test.YtglnmklofoobkaaEq
namespace Go.Proofs.Ytglnmklofoobkaa
open Vm

def z4 : L4 := ⟨0, 0, 0, 0⟩
theorem z4_ok : z4.ok := ⟨⟨by decide, by decide⟩, ⟨by decide, by decide⟩, ⟨by decide, by decide⟩, ⟨by decide, by decide⟩⟩
theorem z4_v : z4.v = 0 := by decide
def z8 : L8 := ⟨z4, z4⟩
/-- Words below the prime. -/
def lt4 (x : L4) : Prop := x.v < qL.v
structure lt8 (x : L8) : Prop where
  p : lt4 x.p
  q : lt4 x.q
theorem lt8_of {x : L8} (h : low2 x = true) : lt8 x := by
  obtain ⟨h1, h2⟩ := (low2_iff x).1 h
  exact ⟨show x.p.v < qL.v from of_decide_eq_true h1, show x.q.v < qL.v from of_decide_eq_true h2⟩
theorem low2_of {x : L8} (h : lt8 x) : low2 x = true :=
  (low2_iff x).2 ⟨decide_eq_true (show x.p.v < qL.v from h.p), decide_eq_true (show x.q.v < qL.v from h.q)⟩
end Go.Proofs.Ytglnmklofoobkaa
