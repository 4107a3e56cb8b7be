/-
  The product of a number of E6 with v: as in the package, and as in the specification.
-/
import Derived.Test.YtbbifiogcpcpfaaRes2
import Derived.Test.YtbbifiogcpcpfaaE6Made
namespace Go.Proofs.Ytbbifiogcpcpfaa
open Vm

def s_e6Res (o_e2Res : L8 → L8) : L24 → L24 := fun x => ⟨o_e2Res x.r, x.p, x.q⟩
def q_e6Res (p_e2Res : L8 → Prop) : L24 → Prop := fun x => (True ∧ p_e2Res x.r)
abbrev o_e6Res : L24 → L24 := s_e6Res o_e2Res
abbrev p_e6Res : L24 → Prop := q_e6Res p_e2Res
abbrev e_e6Res (o_e2Res : L8 → L8) (p_e2Res : L8 → Prop) : List (Nat × Sm) :=
  [eM 35 [.W 8, .R 8] (rWR c8 o_e2Res p_e2Res)]
theorem run_e6Res (o_e2Res : L8 → L8) (p_e2Res : L8 → Prop) : RunWR Try.prog (look (e_e6Res o_e2Res p_e2Res)) 1 Try.f44 24 c24 (fun x => sSame c24 (s_e6Res o_e2Res x) (q_e6Res p_e2Res x)) := ⟨fun _ _ _ _ => by kernel_rfl, fun _ _ _ => by kernel_rfl⟩
theorem k_e6Res : ∀ x, x.ok → (o_e6Res x).ok := by
  intro x hx
  exact ⟨k_e2Res x.r hx.r, hx.p, hx.q⟩
theorem ac_e6Res : AC Try.prog 44 [.W 24, .R 24] (rWR c24 o_e6Res p_e6Res) :=
  mkWR (fn := Try.f44) (look_ok (e_e6Res o_e2Res p_e2Res) (env_M ac_e2Res env_nil)) follows (by kernel_rfl) rfl G24 k_e6Res (run_e6Res _ _)

def s_impl6Res (o_e6Res : L24 → L24) : L24 → L24 := fun x => o_e6Res x
def q_impl6Res (o_e6Res : L24 → L24) (p_e6Res : L24 → Prop) (p_made6 : L24 → Prop) (p_told6 : L24 → Prop) : L24 → Prop := fun x => (((True ∧ p_made6 x) ∧ p_e6Res x) ∧ p_told6 (o_e6Res x))
abbrev o_impl6Res : L24 → L24 := s_impl6Res o_e6Res
abbrev p_impl6Res : L24 → Prop := q_impl6Res o_e6Res p_e6Res p_made6 p_told6
abbrev e_impl6Res (o_e6Res : L24 → L24) (p_e6Res : L24 → Prop) (p_made6 : L24 → Prop) (p_told6 : L24 → Prop) : List (Nat × Sm) :=
  [eM 44 [.W 24, .R 24] (rWR c24 o_e6Res p_e6Res), eV 42 [.V] (rV c24 c24 o_made6 p_made6), eV 43 [.V] (rV c24 c24 o_told6 p_told6)]
theorem run_impl6Res (o_e6Res : L24 → L24) (p_e6Res : L24 → Prop) (p_made6 : L24 → Prop) (p_told6 : L24 → Prop) : Run1 Try.prog (look (e_impl6Res o_e6Res p_e6Res p_made6 p_told6)) 1 Try.f18 .V c24.agg (fun x => sVal c24 (s_impl6Res o_e6Res x) (q_impl6Res o_e6Res p_e6Res p_made6 p_told6 x)) := fun _ _ => by kernel_rfl
theorem k_impl6Res : ∀ x, x.ok → (o_impl6Res x).ok := by
  intro x hx
  exact k_e6Res x hx
theorem ac_impl6Res : AC Try.prog 18 [.V] (rV c24 c24 o_impl6Res p_impl6Res) :=
  mkV (fn := Try.f18) (look_ok (e_impl6Res o_e6Res p_e6Res p_made6 p_told6) (env_M ac_e6Res (env_V ac_made6 (env_V ac_told6 env_nil)))) follows (by kernel_rfl) rfl G24 G24 k_impl6Res (run_impl6Res _ _ _ _)

def s_res6 (o_res2 : L8 → L8) : L24 → L24 := fun x => ⟨o_res2 x.r, x.p, x.q⟩
def q_res6 (p_res2 : L8 → Prop) : L24 → Prop := fun x => (True ∧ p_res2 x.r)
abbrev o_res6 : L24 → L24 := s_res6 o_res2
abbrev p_res6 : L24 → Prop := q_res6 p_res2
abbrev e_res6 (o_res2 : L8 → L8) (p_res2 : L8 → Prop) : List (Nat × Sm) :=
  [eV 16 [.V] (rV c8 c8 o_res2 p_res2)]
theorem run_res6 (o_res2 : L8 → L8) (p_res2 : L8 → Prop) : Run1 Try.prog (look (e_res6 o_res2 p_res2)) 1 Try.f19 .V c24.agg (fun x => sVal c24 (s_res6 o_res2 x) (q_res6 p_res2 x)) := fun _ _ => by kernel_rfl
theorem k_res6 : ∀ x, x.ok → (o_res6 x).ok := by
  intro x hx
  exact ⟨k_res2 x.r hx.r, hx.p, hx.q⟩
theorem ac_res6 : AC Try.prog 19 [.V] (rV c24 c24 o_res6 p_res6) :=
  mkV (fn := Try.f19) (look_ok (e_res6 o_res2 p_res2) (env_V ac_res2 env_nil)) follows (by kernel_rfl) rfl G24 G24 k_res6 (run_res6 _ _)

end Go.Proofs.Ytbbifiogcpcpfaa
