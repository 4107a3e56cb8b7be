/-
  The law FnE6NonResidue holds whatever the input: the last part times 9 + u comes to be the first one, by doubling and by adding alike.
-/
import Derived.Test.YtbbifiogcpcpfaaE6Res
namespace Go.Proofs.Ytbbifiogcpcpfaa
open Vm
open Go.ChangeShapes Go.WideShapes Go.ChangeAt Go.RowKit

def t_LE6Res (lw : L24 → Bool) (o_impl6Res : L24 → L24) (p_impl6Res : L24 → Prop) (o_res6 : L24 → L24) (p_res6 : L24 → Prop) (x : L24) : Option Seen :=
  (match !(lw x) with
  | true => sBool true True
  | false => sBool (eq24 (o_impl6Res x) (o_res6 x)) ((True ∧ p_impl6Res x) ∧ p_res6 x))

abbrev e_LE6Res (lw : L24 → Bool) (o_impl6Res : L24 → L24) (p_impl6Res : L24 → Prop) (o_res6 : L24 → L24) (p_res6 : L24 → Prop) : List (Nat × Sm) :=
  [eV 17 [.V] (rVB24 lw), eV 18 [.V] (rV c24 c24 o_impl6Res p_impl6Res), eV 19 [.V] (rV c24 c24 o_res6 p_res6)]

theorem run_LE6Res (lw : L24 → Bool) (o_impl6Res : L24 → L24) (p_impl6Res : L24 → Prop) (o_res6 : L24 → L24) (p_res6 : L24 → Prop) : Run1 Try.prog (look (e_LE6Res lw o_impl6Res p_impl6Res o_res6 p_res6)) 1 Try.f5 .V c24.agg (t_LE6Res lw o_impl6Res p_impl6Res o_res6 p_res6) := fun _ _ => by kernel_rfl

theorem ok_LE6Res : RunOK Try.prog (look (e_LE6Res low6 o_impl6Res p_impl6Res o_res6 p_res6)) Try.f5 [.V] (g1 c24.agg fun _ => resT) :=
  run1 c24a rfl (run_LE6Res low6 o_impl6Res p_impl6Res o_res6 p_res6) fun x ix => ⟨resT_ok, fun _ => by
    unfold t_LE6Res
    split
    · exact .mk' trivial rfl rfl
    rename_i hx
    have lx := lt24_of (show low6 x = true by simpa using hx)
    have kx := G24.agg ix
    have er : o_e2Res x.r = o_res2 x.r := res_eq kx.r lx.r
    rw [show eq24 (o_impl6Res x) (o_res6 x) = true from eq24_iff.2 (by
      show (⟨o_e2Res x.r, x.p, x.q⟩ : L24) = ⟨o_res2 x.r, x.p, x.q⟩
      rw [er])]
    exact .mk' ⟨⟨trivial, ⟨⟨⟨trivial, trivial⟩, ⟨trivial, (res_vc1 lx.r).2⟩⟩, trivial⟩⟩, ⟨trivial, res_vc2 kx.r lx.r⟩⟩ rfl rfl⟩

theorem calls_LE6Res {x : L24} (hx : x.ok) (w : World) :
    Calls Try.prog 5 #[avC c24 x] w fun e w' => e = .returned (.bool true) ∧ Below w.heap.size w w' :=
  law_V (look_ok (e_LE6Res low6 o_impl6Res p_impl6Res o_res6 p_res6) (env_V ac_Low6 (env_V ac_impl6Res (env_V ac_res6 env_nil)))) follows (by kernel_rfl) ok_LE6Res
    [avC c24 x] rfl rfl (fun v hv => by
      simp only [List.mem_cons, List.not_mem_nil, or_false] at hv
      subst hv
      exact G24.val hx) w

set_option maxRecDepth 100000 in
theorem fnE6NonResidue_lifted (os : Os) (started : os.Started) (H : Type) (enc : TypeId × Value → H) :
    ReturnsInHanded {} Try.checked os 5 .any (Rows.fnE6NonResidueSpec.pre6 enc Try.prog Try.f5 Rows.fnE6NonResidueRow.domain false)
      (Rows.fnE6NonResidueSpec.post enc Try.prog Try.f5 false true false false) := by
  refine returnsInHanded_of_change (C := Try.checked) Try.own started (by kernel_rfl) Try.func5
    (ChangeSpec.witness6 (enc := enc) (C := Try.checked) false ⟨#[], #[avC c24 z24], []⟩ 8 (by kernel_rfl) (by kernel_rfl) (by kernel_rfl) (by kernel_rfl)) ?_
  intro W base args ds gs before hval0 hW hcnd _
  have hval : ∀ (j : Nat) t v, Try.f5.params[j]? = some t → args[j]? = some v → Value.okWide Try.prog W .any base t v := hval0
  have hW' := hW
  obtain ⟨p, q, hA0, hV, rfl, hfz, hnd⟩ := hW
  have hA : DataW.TrodAll enc Try.prog W 0 (fun _ => true) true Try.f5.params.toList args.toList ds p := hA0
  rw [Try.params5] at hA hval
  obtain ⟨v0, d0, rfl, rfl, h0⟩ := trodAll_one hA
  obtain ⟨rfl, rfl⟩ := trodVars_none hV
  have h0k := h0
  obtain ⟨x, rfl, wx⟩ := open24 (hval 0 31 v0 rfl rfl)
  clear hA0 hval0
  simp only [List.append_nil] at hW'
  have hlt : ∀ z ∈ p, z.block < W.heap.size := fun z hz => by simpa using hW'.lt z hz
  refine (calls_LE6Res wx W).mono fun e W' ⟨he, hb⟩ => ?_
  refine ⟨_, he, _, _, _, [], p, [], hW', shut_true (by kernel_rfl), ?_, rfl, hb.frame _, fun h => by cases h⟩
  exact trodAll_mk1 (Below.trod Try.laidOut (by kernel_rfl) (of_decide_eq_true (by kernel_rfl)) h0k hb hlt)

/-- **FnE6NonResidue holds whatever the input.** -/
theorem fnE6NonResidue_holds : Rows.FnE6NonResidueSaid :=
  OpenClaim.holds_of_wide 5 Try.f5 rfl rfl rfl rfl rfl rfl rfl ⟨rfl, rfl, rfl, rfl, rfl⟩ rfl rfl rfl rfl rfl (by kernel_rfl) Try.func5 (by kernel_rfl)
    (of_decide_eq_true (by kernel_rfl)) (by unfold Func.isWrapper; rw [if_neg (of_decide_eq_false (by kernel_rfl))]; exact ⟨rfl, rfl⟩)
    (fun os started H enc _ => fnE6NonResidue_lifted os started H enc)
#print axioms fnE6NonResidue_holds

end Go.Proofs.Ytbbifiogcpcpfaa
