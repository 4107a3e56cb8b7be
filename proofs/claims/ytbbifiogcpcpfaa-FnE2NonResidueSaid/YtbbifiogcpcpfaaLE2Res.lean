/-
  The law FnE2NonResidue holds whatever the input: nine times a number by doubling and by adding are the same modulo the prime.
-/
import Derived.Test.YtbbifiogcpcpfaaRes2
namespace Go.Proofs.Ytbbifiogcpcpfaa
open Vm
open Go.ChangeShapes Go.WideShapes Go.ChangeAt Go.RowKit

def t_LE2Res (lw : L8 → Bool) (o_impl2Res : L8 → L8) (p_impl2Res : L8 → Prop) (o_res2 : L8 → L8) (p_res2 : L8 → Prop) (x : L8) : Option Seen :=
  (match !(lw x) with
  | true => sBool true True
  | false => sBool (eq8 (o_impl2Res x) (o_res2 x)) ((True ∧ p_impl2Res x) ∧ p_res2 x))

abbrev e_LE2Res (lw : L8 → Bool) (o_impl2Res : L8 → L8) (p_impl2Res : L8 → Prop) (o_res2 : L8 → L8) (p_res2 : L8 → Prop) : List (Nat × Sm) :=
  [eV 9 [.V] (rVB8 lw), eV 15 [.V] (rV c8 c8 o_impl2Res p_impl2Res), eV 16 [.V] (rV c8 c8 o_res2 p_res2)]

theorem run_LE2Res (lw : L8 → Bool) (o_impl2Res : L8 → L8) (p_impl2Res : L8 → Prop) (o_res2 : L8 → L8) (p_res2 : L8 → Prop) : Run1 Try.prog (look (e_LE2Res lw o_impl2Res p_impl2Res o_res2 p_res2)) 1 Try.f4 .V c8.agg (t_LE2Res lw o_impl2Res p_impl2Res o_res2 p_res2) := fun _ _ => by kernel_rfl

theorem ok_LE2Res : RunOK Try.prog (look (e_LE2Res low2 o_impl2Res p_impl2Res o_res2 p_res2)) Try.f4 [.V] (g1 c8.agg fun _ => resT) :=
  run1 c8a rfl (run_LE2Res low2 o_impl2Res p_impl2Res o_res2 p_res2) fun x ix => ⟨resT_ok, fun _ => by
    unfold t_LE2Res
    split
    · exact .mk' trivial rfl rfl
    rename_i hx
    have lx := lt8_of (show low2 x = true by simpa using hx)
    have kx := G8.agg ix
    rw [show eq8 (o_impl2Res x) (o_res2 x) = true from eq8_iff.2 (res_eq kx lx)]
    exact .mk' ⟨⟨trivial, res_vc1 lx⟩, res_vc2 kx lx⟩ rfl rfl⟩

theorem calls_LE2Res {x : L8} (hx : x.ok) (w : World) :
    Calls Try.prog 4 #[avC c8 x] w fun e w' => e = .returned (.bool true) ∧ Below w.heap.size w w' :=
  law_V (look_ok (e_LE2Res low2 o_impl2Res p_impl2Res o_res2 p_res2) (env_V ac_Low2 (env_V ac_impl2Res (env_V ac_res2 env_nil)))) follows (by kernel_rfl) ok_LE2Res
    [avC c8 x] rfl rfl (fun v hv => by
      simp only [List.mem_cons, List.not_mem_nil, or_false] at hv
      subst hv
      exact G8.val hx) w

set_option maxRecDepth 100000 in
theorem fnE2NonResidue_lifted (os : Os) (started : os.Started) (H : Type) (enc : TypeId × Value → H) :
    ReturnsInHanded {} Try.checked os 4 .any (Rows.fnE2NonResidueSpec.pre6 enc Try.prog Try.f4 Rows.fnE2NonResidueRow.domain false)
      (Rows.fnE2NonResidueSpec.post enc Try.prog Try.f4 false true false false) := by
  refine returnsInHanded_of_change (C := Try.checked) Try.own started (by kernel_rfl) Try.func4
    (ChangeSpec.witness6 (enc := enc) (C := Try.checked) false ⟨#[], #[avC c8 z8], []⟩ 8 (by kernel_rfl) (by kernel_rfl) (by kernel_rfl) (by kernel_rfl)) ?_
  intro W base args ds gs before hval0 hW hcnd _
  have hval : ∀ (j : Nat) t v, Try.f4.params[j]? = some t → args[j]? = some v → Value.okWide Try.prog W .any base t v := hval0
  have hW' := hW
  obtain ⟨p, q, hA0, hV, rfl, hfz, hnd⟩ := hW
  have hA : DataW.TrodAll enc Try.prog W 0 (fun _ => true) true Try.f4.params.toList args.toList ds p := hA0
  rw [Try.params4] at hA hval
  obtain ⟨v0, d0, rfl, rfl, h0⟩ := trodAll_one hA
  obtain ⟨rfl, rfl⟩ := trodVars_none hV
  have h0k := h0
  obtain ⟨x, rfl, wx⟩ := open8 (hval 0 25 v0 rfl rfl)
  clear hA0 hval0
  simp only [List.append_nil] at hW'
  have hlt : ∀ z ∈ p, z.block < W.heap.size := fun z hz => by simpa using hW'.lt z hz
  refine (calls_LE2Res wx W).mono fun e W' ⟨he, hb⟩ => ?_
  refine ⟨_, he, _, _, _, [], p, [], hW', shut_true (by kernel_rfl), ?_, rfl, hb.frame _, fun h => by cases h⟩
  exact trodAll_mk1 (Below.trod Try.laidOut (by kernel_rfl) (of_decide_eq_true (by kernel_rfl)) h0k hb hlt)

/-- **FnE2NonResidue holds whatever the input.** -/
theorem fnE2NonResidue_holds : Rows.FnE2NonResidueSaid :=
  OpenClaim.holds_of_wide 4 Try.f4 rfl rfl rfl rfl rfl rfl rfl ⟨rfl, rfl, rfl, rfl, rfl⟩ rfl rfl rfl rfl rfl (by kernel_rfl) Try.func4 (by kernel_rfl)
    (of_decide_eq_true (by kernel_rfl)) (by unfold Func.isWrapper; rw [if_neg (of_decide_eq_false (by kernel_rfl))]; exact ⟨rfl, rfl⟩)
    (fun os started H enc _ => fnE2NonResidue_lifted os started H enc)
#print axioms fnE2NonResidue_holds

end Go.Proofs.Ytbbifiogcpcpfaa
