/-
  E6 in both forms.
-/
import Derived.Test.YtbbifiogcpcpfaaE2Bin
import Derived.Test.YtbbifiogcpcpfaaGen
namespace Go.Proofs.Ytbbifiogcpcpfaa
open Vm

def s_made6 : L24 → L24 := fun x => x
def q_made6 : L24 → Prop := fun _ => True
abbrev o_made6 : L24 → L24 := s_made6
abbrev p_made6 : L24 → Prop := q_made6
abbrev e_made6 : List (Nat × Sm) :=
  [eV 29 [.V] rSame8]
theorem run_made6 : Run1 Try.prog (look (e_made6)) 1 Try.f42 .V c24.agg (fun x => sVal c24 (s_made6 x) (q_made6 x)) := fun _ _ => by kernel_rfl
theorem k_made6 : ∀ x, x.ok → (o_made6 x).ok := by
  intro x hx
  exact hx
theorem ac_made6 : AC Try.prog 42 [.V] (rV c24 c24 o_made6 p_made6) :=
  mkV (fn := Try.f42) (look_ok (e_made6) (env_V ac_made2 env_nil)) follows (by kernel_rfl) rfl G24 G24 k_made6 (run_made6)

def s_told6 : L24 → L24 := fun x => x
def q_told6 : L24 → Prop := fun _ => True
abbrev o_told6 : L24 → L24 := s_told6
abbrev p_told6 : L24 → Prop := q_told6
abbrev e_told6 : List (Nat × Sm) :=
  [eV 34 [.V] rSame8]
theorem run_told6 : Run1 Try.prog (look (e_told6)) 1 Try.f43 .V c24.agg (fun x => sVal c24 (s_told6 x) (q_told6 x)) := fun _ _ => by kernel_rfl
theorem k_told6 : ∀ x, x.ok → (o_told6 x).ok := by
  intro x hx
  exact hx
theorem ac_told6 : AC Try.prog 43 [.V] (rV c24 c24 o_told6 p_told6) :=
  mkV (fn := Try.f43) (look_ok (e_told6) (env_V ac_told2 env_nil)) follows (by kernel_rfl) rfl G24 G24 k_told6 (run_told6)

end Go.Proofs.Ytbbifiogcpcpfaa
