/-
  The product of a number of E2 with 9 + u: as in the package, and as in the specification.
-/
import Derived.Test.YtbbifiogcpcpfaaRes
namespace Go.Proofs.Ytbbifiogcpcpfaa
open Vm

def s_e2Res (o_fpDouble : L4 → L4) (o_fpAdd : L4 → L4 → L4) (o_fpSub : L4 → L4 → L4) : L8 → L8 := fun x => ⟨(o_fpSub (o_fpAdd (o_fpDouble (o_fpDouble (o_fpDouble x.p))) x.p) x.q), (o_fpAdd (o_fpAdd (o_fpDouble (o_fpDouble (o_fpDouble x.q))) x.q) x.p)⟩
def q_e2Res (o_fpDouble : L4 → L4) (p_fpDouble : L4 → Prop) (o_fpAdd : L4 → L4 → L4) (p_fpAdd : L4 → L4 → Prop) (o_fpSub : L4 → L4 → L4) (p_fpSub : L4 → L4 → Prop) (p_fpSet : L4 → Prop) : L8 → Prop := fun x => ((((((((((((True ∧ p_fpDouble x.p) ∧ p_fpDouble (o_fpDouble x.p)) ∧ p_fpDouble (o_fpDouble (o_fpDouble x.p))) ∧ p_fpAdd (o_fpDouble (o_fpDouble (o_fpDouble x.p))) x.p) ∧ p_fpSub (o_fpAdd (o_fpDouble (o_fpDouble (o_fpDouble x.p))) x.p) x.q) ∧ p_fpDouble x.q) ∧ p_fpDouble (o_fpDouble x.q)) ∧ p_fpDouble (o_fpDouble (o_fpDouble x.q))) ∧ p_fpAdd (o_fpDouble (o_fpDouble (o_fpDouble x.q))) x.q) ∧ p_fpAdd (o_fpAdd (o_fpDouble (o_fpDouble (o_fpDouble x.q))) x.q) x.p) ∧ p_fpSet (o_fpSub (o_fpAdd (o_fpDouble (o_fpDouble (o_fpDouble x.p))) x.p) x.q)) ∧ p_fpSet (o_fpAdd (o_fpAdd (o_fpDouble (o_fpDouble (o_fpDouble x.q))) x.q) x.p))
abbrev o_e2Res : L8 → L8 := s_e2Res dblm (addm qL) (subm qL)
abbrev p_e2Res : L8 → Prop := q_e2Res dblm lowd (addm qL) (lowm qL) (subm qL) (lowm qL) noVC
abbrev e_e2Res (o_fpDouble : L4 → L4) (p_fpDouble : L4 → Prop) (o_fpAdd : L4 → L4 → L4) (p_fpAdd : L4 → L4 → Prop) (o_fpSub : L4 → L4 → L4) (p_fpSub : L4 → L4 → Prop) (p_fpSet : L4 → Prop) : List (Nat × Sm) :=
  [eM 59 [.W 4, .R 4] (rWR c4 o_fpDouble p_fpDouble), eM 60 [.W 4, .R 4, .R 4] (rOp o_fpAdd p_fpAdd), eM 61 [.W 4, .R 4, .R 4] (rWRR c4 o_fpSub p_fpSub), eM 62 [.W 4, .R 4] (rWR c4 id p_fpSet)]
theorem run_e2Res (o_fpDouble : L4 → L4) (p_fpDouble : L4 → Prop) (o_fpAdd : L4 → L4 → L4) (p_fpAdd : L4 → L4 → Prop) (o_fpSub : L4 → L4 → L4) (p_fpSub : L4 → L4 → Prop) (p_fpSet : L4 → Prop) : RunWR Try.prog (look (e_e2Res o_fpDouble p_fpDouble o_fpAdd p_fpAdd o_fpSub p_fpSub p_fpSet)) 1 Try.f35 8 c8 (fun x => sSame c8 (s_e2Res o_fpDouble o_fpAdd o_fpSub x) (q_e2Res o_fpDouble p_fpDouble o_fpAdd p_fpAdd o_fpSub p_fpSub p_fpSet x)) := ⟨fun _ _ _ _ => by kernel_rfl, fun _ _ _ => by kernel_rfl⟩
theorem k_e2Res : ∀ x, x.ok → (o_e2Res x).ok := by
  intro x hx
  exact ⟨lim_ok _, lim_ok _⟩
theorem ac_e2Res : AC Try.prog 35 [.W 8, .R 8] (rWR c8 o_e2Res p_e2Res) :=
  mkWR (fn := Try.f35) (look_ok (e_e2Res dblm lowd (addm qL) (lowm qL) (subm qL) (lowm qL) noVC) (env_M ac_fpDouble (env_M ac_fpAdd (env_M ac_fpSub (env_M ac_fpSet env_nil))))) follows (by kernel_rfl) rfl G8 k_e2Res (run_e2Res _ _ _ _ _ _ _)

def s_impl2Res (o_e2Res : L8 → L8) : L8 → L8 := fun x => o_e2Res x
def q_impl2Res (p_e2Res : L8 → Prop) : L8 → Prop := fun x => (True ∧ p_e2Res x)
abbrev o_impl2Res : L8 → L8 := s_impl2Res o_e2Res
abbrev p_impl2Res : L8 → Prop := q_impl2Res p_e2Res
abbrev e_impl2Res (o_e2Res : L8 → L8) (p_e2Res : L8 → Prop) : List (Nat × Sm) :=
  [eM 35 [.W 8, .R 8] (rWR c8 o_e2Res p_e2Res), eV 29 [.V] rSame8, eV 34 [.V] rSame8]
theorem run_impl2Res (o_e2Res : L8 → L8) (p_e2Res : L8 → Prop) : Run1 Try.prog (look (e_impl2Res o_e2Res p_e2Res)) 1 Try.f15 .V c8.agg (fun x => sVal c8 (s_impl2Res o_e2Res x) (q_impl2Res p_e2Res x)) := fun _ _ => by kernel_rfl
theorem k_impl2Res : ∀ x, x.ok → (o_impl2Res x).ok := by
  intro x hx
  exact k_e2Res x hx
theorem ac_impl2Res : AC Try.prog 15 [.V] (rV c8 c8 o_impl2Res p_impl2Res) :=
  mkV (fn := Try.f15) (look_ok (e_impl2Res o_e2Res p_e2Res) (env_M ac_e2Res (env_V ac_made2 (env_V ac_told2 env_nil)))) follows (by kernel_rfl) rfl G8 G8 k_impl2Res (run_impl2Res _ _)

def s_res2 (o_nine : L4 → L4) (o_minusW : L4 → L4 → L4) (o_plusW : L4 → L4 → L4) : L8 → L8 := fun x => ⟨o_minusW (o_nine x.p) x.q, o_plusW (o_nine x.q) x.p⟩
def q_res2 (o_nine : L4 → L4) (p_nine : L4 → Prop) (p_minusW : L4 → L4 → Prop) (p_plusW : L4 → L4 → Prop) : L8 → Prop := fun x => ((((True ∧ p_nine x.p) ∧ p_minusW (o_nine x.p) x.q) ∧ p_nine x.q) ∧ p_plusW (o_nine x.q) x.p)
abbrev o_res2 : L8 → L8 := s_res2 o_nine (subm qL) (addm qL)
abbrev p_res2 : L8 → Prop := q_res2 o_nine p_nine (lowm qL) (lowm qL)
abbrev e_res2 (o_nine : L4 → L4) (p_nine : L4 → Prop) (o_minusW : L4 → L4 → L4) (p_minusW : L4 → L4 → Prop) (o_plusW : L4 → L4 → L4) (p_plusW : L4 → L4 → Prop) : List (Nat × Sm) :=
  [eV 36 [.V] (rV c4 c4 o_nine p_nine), eV 40 [.V, .V] (rVV o_minusW p_minusW), eV 41 [.V, .V] (rVV o_plusW p_plusW)]
theorem run_res2 (o_nine : L4 → L4) (p_nine : L4 → Prop) (o_minusW : L4 → L4 → L4) (p_minusW : L4 → L4 → Prop) (o_plusW : L4 → L4 → L4) (p_plusW : L4 → L4 → Prop) : Run1 Try.prog (look (e_res2 o_nine p_nine o_minusW p_minusW o_plusW p_plusW)) 1 Try.f16 .V c8.agg (fun x => sVal c8 (s_res2 o_nine o_minusW o_plusW x) (q_res2 o_nine p_nine p_minusW p_plusW x)) := fun _ _ => by kernel_rfl
theorem k_res2 : ∀ x, x.ok → (o_res2 x).ok := by
  intro x hx
  exact ⟨lim_ok _, lim_ok _⟩
theorem ac_res2 : AC Try.prog 16 [.V] (rV c8 c8 o_res2 p_res2) :=
  mkV (fn := Try.f16) (look_ok (e_res2 o_nine p_nine (subm qL) (lowm qL) (addm qL) (lowm qL)) (env_V ac_nine (env_V ac_minusW (env_V ac_plusW env_nil)))) follows (by kernel_rfl) rfl G8 G8 k_res2 (run_res2 _ _ _ _ _ _)

end Go.Proofs.Ytbbifiogcpcpfaa
