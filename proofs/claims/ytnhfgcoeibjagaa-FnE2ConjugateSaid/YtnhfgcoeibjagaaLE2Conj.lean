/-
  The law FnE2Conjugate holds whatever the input: both sides are the same numbers modulo the prime, part by part.
-/
import Derived.Test.YtnhfgcoeibjagaaLow
namespace Go.Proofs.Ytnhfgcoeibjagaa
open Vm
open Go.ChangeShapes Go.WideShapes Go.ChangeAt Go.RowKit

def t_LE2Conj (lw : L8 → Bool) (o_impl2Conj : L8 → L8) (p_impl2Conj : L8 → Prop) (o_conj2 : L8 → L8) (p_conj2 : L8 → Prop) (x : L8) : Option Seen :=
  (match !(lw x) with
  | true => sBool true True
  | false => sBool (eq8 (o_impl2Conj x) (o_conj2 x)) ((True ∧ p_impl2Conj x) ∧ p_conj2 x))

abbrev e_LE2Conj (lw : L8 → Bool) (o_impl2Conj : L8 → L8) (p_impl2Conj : L8 → Prop) (o_conj2 : L8 → L8) (p_conj2 : L8 → Prop) : List (Nat × Sm) :=
  [eV 14 [.V] (rVB8 lw), eV 15 [.V] (rV c8 c8 o_impl2Conj p_impl2Conj), eV 16 [.V] (rV c8 c8 o_conj2 p_conj2)]

theorem run_LE2Conj (lw : L8 → Bool) (o_impl2Conj : L8 → L8) (p_impl2Conj : L8 → Prop) (o_conj2 : L8 → L8) (p_conj2 : L8 → Prop) : Run1 Try.prog (look (e_LE2Conj lw o_impl2Conj p_impl2Conj o_conj2 p_conj2)) 1 Try.f3 .V c8.agg (t_LE2Conj lw o_impl2Conj p_impl2Conj o_conj2 p_conj2) := fun _ _ => by kernel_rfl

theorem ok_LE2Conj : RunOK Try.prog (look (e_LE2Conj low2 o_impl2Conj p_impl2Conj o_conj2 p_conj2)) Try.f3 [.V] (g1 c8.agg fun _ => resT) :=
  run1 c8a rfl (run_LE2Conj low2 o_impl2Conj p_impl2Conj o_conj2 p_conj2) fun x _ => ⟨resT_ok, fun _ => by
    unfold t_LE2Conj
    split
    · exact .mk' trivial rfl rfl
    rename_i hx
    have lx := lt8_of (show low2 x = true by simpa using hx)
    rw [show eq8 (o_impl2Conj x) (o_conj2 x) = true from eq8_iff.2 (rfl)]
    exact .mk' ⟨⟨trivial, ⟨trivial, ⟨trivial, ⟨z4_lt, lx.q⟩⟩⟩⟩, ⟨trivial, ⟨z4_lt, lx.q⟩⟩⟩ rfl rfl⟩

theorem calls_LE2Conj {x : L8} (hx : x.ok) (w : World) :
    Calls Try.prog 3 #[avC c8 x] w fun e w' => e = .returned (.bool true) ∧ Below w.heap.size w w' :=
  law_V (look_ok (e_LE2Conj low2 o_impl2Conj p_impl2Conj o_conj2 p_conj2) (env_V ac_Low2 (env_V ac_impl2Conj (env_V ac_conj2 env_nil)))) follows (by kernel_rfl) ok_LE2Conj
    [avC c8 x] rfl rfl (fun v hv => by
      simp only [List.mem_cons, List.not_mem_nil, or_false] at hv
      subst hv
      exact G8.val hx) w

set_option maxRecDepth 100000 in
theorem fnE2Conjugate_lifted (os : Os) (started : os.Started) (H : Type) (enc : TypeId × Value → H) :
    ReturnsInHanded {} Try.checked os 3 .any (Rows.fnE2ConjugateSpec.pre6 enc Try.prog Try.f3 Rows.fnE2ConjugateRow.domain false)
      (Rows.fnE2ConjugateSpec.post enc Try.prog Try.f3 false true false false) := by
  refine returnsInHanded_of_change (C := Try.checked) Try.own started (by kernel_rfl) Try.func3
    (ChangeSpec.witness6 (enc := enc) (C := Try.checked) false ⟨#[], #[avC c8 z8], []⟩ 8 (by kernel_rfl) (by kernel_rfl) (by kernel_rfl) (by kernel_rfl)) ?_
  intro W base args ds gs before hval0 hW hcnd _
  have hval : ∀ (j : Nat) t v, Try.f3.params[j]? = some t → args[j]? = some v → Value.okWide Try.prog W .any base t v := hval0
  have hW' := hW
  obtain ⟨p, q, hA0, hV, rfl, hfz, hnd⟩ := hW
  have hA : DataW.TrodAll enc Try.prog W 0 (fun _ => true) true Try.f3.params.toList args.toList ds p := hA0
  rw [Try.params3] at hA hval
  obtain ⟨v0, d0, rfl, rfl, h0⟩ := trodAll_one hA
  obtain ⟨rfl, rfl⟩ := trodVars_none hV
  have h0k := h0
  obtain ⟨x, rfl, wx⟩ := open8 (hval 0 25 v0 rfl rfl)
  clear hA0 hval0
  simp only [List.append_nil] at hW'
  have hlt : ∀ z ∈ p, z.block < W.heap.size := fun z hz => by simpa using hW'.lt z hz
  refine (calls_LE2Conj wx W).mono fun e W' ⟨he, hb⟩ => ?_
  refine ⟨_, he, _, _, _, [], p, [], hW', shut_true (by kernel_rfl), ?_, rfl, hb.frame _, fun h => by cases h⟩
  exact trodAll_mk1 (Below.trod Try.laidOut (by kernel_rfl) (of_decide_eq_true (by kernel_rfl)) h0k hb hlt)

/-- **FnE2Conjugate holds whatever the input.** -/
theorem fnE2Conjugate_holds : Rows.FnE2ConjugateSaid :=
  OpenClaim.holds_of_wide 3 Try.f3 rfl rfl rfl rfl rfl rfl rfl ⟨rfl, rfl, rfl, rfl, rfl⟩ rfl rfl rfl rfl rfl (by kernel_rfl) Try.func3 (by kernel_rfl)
    (of_decide_eq_true (by kernel_rfl)) (by unfold Func.isWrapper; rw [if_neg (of_decide_eq_false (by kernel_rfl))]; exact ⟨rfl, rfl⟩)
    (fun os started H enc _ => fnE2Conjugate_lifted os started H enc)
#print axioms fnE2Conjugate_holds

end Go.Proofs.Ytnhfgcoeibjagaa
