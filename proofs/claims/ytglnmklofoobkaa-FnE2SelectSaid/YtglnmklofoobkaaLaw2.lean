/-
  An argument of E2.
-/
import Derived.Test.YtglnmklofoobkaaZero
import Derived.Test.YtglnmklofoobkaaLaw
namespace Go.Proofs.Ytglnmklofoobkaa
open Vm
theorem open8 {w : World} {r : Reach} {base : Nat} {v : Value} (hv : Value.okWide Try.prog w r base 25 v) : ∃ x : L8, v = avC c8 x ∧ x.ok := by
  obtain ⟨cs, rfl, hl, hw⟩ := open_words (n := 8) (u := 22) (by kernel_rfl) (by kernel_rfl) (by kernel_rfl) (by kernel_rfl) hv
  obtain ⟨x, hx, hok⟩ := of8 hl hw
  exact ⟨x, by rw [hx]; rfl, hok⟩
end Go.Proofs.Ytglnmklofoobkaa
