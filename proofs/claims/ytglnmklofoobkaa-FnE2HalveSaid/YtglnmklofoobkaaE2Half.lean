/-
  E2.Halve, by parts.
-/
import Derived.Test.YtglnmklofoobkaaFpHalve
import Derived.Test.YtglnmklofoobkaaE2Add
import Derived.Test.YtglnmklofoobkaaZero
namespace Go.Proofs.Ytglnmklofoobkaa
open Vm

def s_e2Halve (o_fpHalve : L4 → L4) : L8 → L8 := fun x => ⟨o_fpHalve x.p, o_fpHalve x.q⟩
def q_e2Halve (p_fpHalve : L4 → Prop) : L8 → Prop := fun x => ((True ∧ p_fpHalve x.p) ∧ p_fpHalve x.q)
abbrev o_e2Halve : L8 → L8 := s_e2Halve halfm
abbrev p_e2Halve : L8 → Prop := q_e2Halve lowh
abbrev e_e2Halve (o_fpHalve : L4 → L4) (p_fpHalve : L4 → Prop) : List (Nat × Sm) :=
  [eM 45 [.W 4] (rWu c4 o_fpHalve p_fpHalve)]
theorem run_e2Halve (o_fpHalve : L4 → L4) (p_fpHalve : L4 → Prop) : RunW Try.prog (look (e_e2Halve o_fpHalve p_fpHalve)) 1 Try.f30 8 c8 (fun x => sUnit c8 (s_e2Halve o_fpHalve x) (q_e2Halve p_fpHalve x)) := fun _ _ => by kernel_rfl
theorem k_e2Halve : ∀ x, x.ok → (o_e2Halve x).ok := by
  intro x hx
  exact ⟨lim_ok _, lim_ok _⟩
theorem ac_e2Halve : AC Try.prog 30 [.W 8] (rWu c8 o_e2Halve p_e2Halve) :=
  mkWu (fn := Try.f30) (look_ok (e_e2Halve halfm lowh) (env_M ac_fpHalve env_nil)) follows (by kernel_rfl) rfl G8 k_e2Halve (run_e2Halve _ _)

def s_impl2Halve (o_e2Halve : L8 → L8) : L8 → L8 := fun x => o_e2Halve x
def q_impl2Halve (p_e2Halve : L8 → Prop) : L8 → Prop := fun x => (True ∧ p_e2Halve x)
abbrev o_impl2Halve : L8 → L8 := s_impl2Halve o_e2Halve
abbrev p_impl2Halve : L8 → Prop := q_impl2Halve p_e2Halve
abbrev e_impl2Halve (o_e2Halve : L8 → L8) (p_e2Halve : L8 → Prop) : List (Nat × Sm) :=
  [eM 30 [.W 8] (rWu c8 o_e2Halve p_e2Halve), eV 23 [.V] rSame8, eV 24 [.V] rSame8]
theorem run_impl2Halve (o_e2Halve : L8 → L8) (p_e2Halve : L8 → Prop) : Run1 Try.prog (look (e_impl2Halve o_e2Halve p_e2Halve)) 1 Try.f15 .V c8.agg (fun x => sVal c8 (s_impl2Halve o_e2Halve x) (q_impl2Halve p_e2Halve x)) := fun _ _ => by kernel_rfl
theorem k_impl2Halve : ∀ x, x.ok → (o_impl2Halve x).ok := by
  intro x hx
  exact k_e2Halve x hx
theorem ac_impl2Halve : AC Try.prog 15 [.V] (rV c8 c8 o_impl2Halve p_impl2Halve) :=
  mkV (fn := Try.f15) (look_ok (e_impl2Halve o_e2Halve p_e2Halve) (env_M ac_e2Halve (env_V ac_made2 (env_V ac_told2 env_nil)))) follows (by kernel_rfl) rfl G8 G8 k_impl2Halve (run_impl2Halve _ _)

end Go.Proofs.Ytglnmklofoobkaa
