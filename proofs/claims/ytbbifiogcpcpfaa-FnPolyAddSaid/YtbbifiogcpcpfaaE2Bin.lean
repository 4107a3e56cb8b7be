/-
  Operations of E2 by parts: the two parts each by an operation of two numbers.
-/
import Derived.Test.YtbbifiogcpcpfaaFpAdd
namespace Go.Proofs.Ytbbifiogcpcpfaa
open Vm

/-- By parts. -/
def two (op : L4 → L4 → L4) (x y : L8) : L8 := ⟨op x.p y.p, op x.q y.q⟩
def both (φ : L4 → L4 → Prop) (x y : L8) : Prop := φ x.p y.p ∧ φ x.q y.q
theorem two_ok {op : L4 → L4 → L4} (h : ∀ x y, (op x y).ok) (x y : L8) : (two op x y).ok := ⟨h _ _, h _ _⟩
theorem av8_ok {x : L8} (h : x.ok) : ok2 [] (av8 x) := ok2_agg (ok8.2 h)
def rOp8u (op : L8 → L8 → L8) (φ : L8 → L8 → Prop) : Gf := g3 c8 c8 c8 fun _ x y => ([(op x y).cells], .val (.tuple #[]), some (φ x y))
def rOp8 (op : L8 → L8 → L8) (φ : L8 → L8 → Prop) : Gf := g3 c8 c8 c8 fun _ x y => ([(op x y).cells], .same 0, some (φ x y))
def rVV4 (op : L4 → L4 → L4) (φ : L4 → L4 → Prop) : Gf := g2 c4.agg c4.agg fun x y => ([], .val (av4 (op x y)), some (φ x y))
def rVV8 (op : L8 → L8 → L8) (φ : L8 → L8 → Prop) : Gf := g2 c8.agg c8.agg fun x y => ([], .val (av8 (op x y)), some (φ x y))
def rSame8 : Gf := g1 c8.agg fun x => ([], .val (av8 x), none)
/-- Both parts, in place; nothing is handed back. -/
def twoT (op : L4 → L4 → L4) (φ : L4 → L4 → Prop) (x y : L8) : Option Seen := some ⟨[(two op x y).cells], .val (.tuple #[]), (True ∧ φ x.p y.p) ∧ φ x.q y.q⟩
def zT (op : L8 → L8 → L8) (φ : L8 → L8 → Prop) (x y : L8) : Option Seen := some ⟨[(op x y).cells], .same 0, True ∧ φ x y⟩

theorem made2_run : Run1 Try.prog (look []) 1 Try.f29 .V c8.agg fun x => some ⟨[], .val (av8 x), True⟩ := fun _ _ => by kernel_rfl
theorem ac_made2 : AC Try.prog 29 [.V] rSame8 :=
  ac_of_run (fn := Try.f29) (look_ok [] env_nil) follows (by kernel_rfl) rfl (run1 c8a rfl made2_run fun x hx => ⟨res_val (av8_ok (agg8 hx)), fun _ => .mk' trivial rfl rfl⟩)
theorem told2_run : Run1 Try.prog (look []) 1 Try.f34 .V c8.agg fun x => some ⟨[], .val (av8 x), True⟩ := fun _ _ => by kernel_rfl
theorem ac_told2 : AC Try.prog 34 [.V] rSame8 :=
  ac_of_run (fn := Try.f34) (look_ok [] env_nil) follows (by kernel_rfl) rfl (run1 c8a rfl told2_run fun x hx => ⟨res_val (av8_ok (agg8 hx)), fun _ => .mk' trivial rfl rfl⟩)

theorem low2_iff (x : L8) : low2 x = true ↔ low x.p = true ∧ low x.q = true := by unfold low2; rw [Bool.and_eq_true]
end Go.Proofs.Ytbbifiogcpcpfaa
