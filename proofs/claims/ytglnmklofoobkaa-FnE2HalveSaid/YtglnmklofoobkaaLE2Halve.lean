/-
  The law FnE2Halve holds whatever the input: half of a number and half of it, modulo the prime, is it, part by part.
-/
import Derived.Test.YtglnmklofoobkaaE2Half
import Derived.Test.YtglnmklofoobkaaLaw2
namespace Go.Proofs.Ytglnmklofoobkaa
open Vm
open Go.ChangeShapes Go.WideShapes Go.ChangeAt Go.RowKit

def t_LE2Halve (lw : L8 → Bool) (o_impl2Halve : L8 → L8) (p_impl2Halve : L8 → Prop) (o_plus2h : L8 → L8 → L8) (p_plus2h : L8 → L8 → Prop) (x : L8) : Option Seen :=
  (match !(lw x) with
  | true => sBool true True
  | false => (match lw (o_impl2Halve x) with
  | true => sBool (eq8 (o_plus2h (o_impl2Halve x) (o_impl2Halve x)) x) ((True ∧ p_impl2Halve x) ∧ p_plus2h (o_impl2Halve x) (o_impl2Halve x))
  | false => sBool false (True ∧ p_impl2Halve x)))

abbrev e_LE2Halve (lw : L8 → Bool) (o_impl2Halve : L8 → L8) (p_impl2Halve : L8 → Prop) (o_plus2h : L8 → L8 → L8) (p_plus2h : L8 → L8 → Prop) : List (Nat × Sm) :=
  [eV 8 [.V] (rVB8 lw), eV 15 [.V] (rV c8 c8 o_impl2Halve p_impl2Halve), eV 16 [.V, .V] (rVV8 o_plus2h p_plus2h)]

theorem run_LE2Halve (lw : L8 → Bool) (o_impl2Halve : L8 → L8) (p_impl2Halve : L8 → Prop) (o_plus2h : L8 → L8 → L8) (p_plus2h : L8 → L8 → Prop) : Run1 Try.prog (look (e_LE2Halve lw o_impl2Halve p_impl2Halve o_plus2h p_plus2h)) 1 Try.f5 .V c8.agg (t_LE2Halve lw o_impl2Halve p_impl2Halve o_plus2h p_plus2h) := fun _ _ => by kernel_rfl

theorem ok_LE2Halve : RunOK Try.prog (look (e_LE2Halve low2 o_impl2Halve p_impl2Halve (two (addm qL)) (both (lowm qL)))) Try.f5 [.V] (g1 c8.agg fun _ => resT) :=
  run1 c8a rfl (run_LE2Halve low2 o_impl2Halve p_impl2Halve (two (addm qL)) (both (lowm qL))) fun x ix => ⟨resT_ok, fun _ => by
    unfold t_LE2Halve
    split
    · exact .mk' trivial rfl rfl
    rename_i hx
    have lx := lt8_of (show low2 x = true by simpa using hx)
    have kx := G8.agg ix
    obtain ⟨a1, a2⟩ := half_half kx.p lx.p
    obtain ⟨b1, b2⟩ := half_half kx.q lx.q
    rw [show low2 (o_impl2Halve x) = true from low2_of ⟨a1, b1⟩]
    rw [show eq8 (two (addm qL) (o_impl2Halve x) (o_impl2Halve x)) x = true from eq8_iff.2 (by
      show (⟨addm qL (halfm x.p) (halfm x.p), addm qL (halfm x.q) (halfm x.q)⟩ : L8) = x
      rw [a2, b2])]
    exact .mk' ⟨⟨trivial, ⟨trivial, ⟨⟨trivial, lx.p⟩, lx.q⟩⟩⟩, ⟨a1, a1⟩, ⟨b1, b1⟩⟩ rfl rfl⟩

theorem calls_LE2Halve {x : L8} (hx : x.ok) (w : World) :
    Calls Try.prog 5 #[avC c8 x] w fun e w' => e = .returned (.bool true) ∧ Below w.heap.size w w' :=
  law_V (look_ok (e_LE2Halve low2 o_impl2Halve p_impl2Halve (two (addm qL)) (both (lowm qL))) (env_V ac_Low2 (env_V ac_impl2Halve (env_V ac_Plus2 env_nil)))) follows (by kernel_rfl) ok_LE2Halve
    [avC c8 x] rfl rfl (fun v hv => by
      simp only [List.mem_cons, List.not_mem_nil, or_false] at hv
      subst hv
      exact G8.val hx) w

set_option maxRecDepth 100000 in
theorem fnE2Halve_lifted (os : Os) (started : os.Started) (H : Type) (enc : TypeId × Value → H) :
    ReturnsInHanded {} Try.checked os 5 .any (Rows.fnE2HalveSpec.pre6 enc Try.prog Try.f5 Rows.fnE2HalveRow.domain false)
      (Rows.fnE2HalveSpec.post enc Try.prog Try.f5 false true false false) := by
  refine returnsInHanded_of_change (C := Try.checked) Try.own started (by kernel_rfl) Try.func5
    (ChangeSpec.witness6 (enc := enc) (C := Try.checked) false ⟨#[], #[avC c8 z8], []⟩ 8 (by kernel_rfl) (by kernel_rfl) (by kernel_rfl) (by kernel_rfl)) ?_
  intro W base args ds gs before hval0 hW hcnd _
  have hval : ∀ (j : Nat) t v, Try.f5.params[j]? = some t → args[j]? = some v → Value.okWide Try.prog W .any base t v := hval0
  have hW' := hW
  obtain ⟨p, q, hA0, hV, rfl, hfz, hnd⟩ := hW
  have hA : DataW.TrodAll enc Try.prog W 0 (fun _ => true) true Try.f5.params.toList args.toList ds p := hA0
  rw [Try.params5] at hA hval
  obtain ⟨v0, d0, rfl, rfl, h0⟩ := trodAll_one hA
  obtain ⟨rfl, rfl⟩ := trodVars_none hV
  have h0k := h0
  obtain ⟨x, rfl, wx⟩ := open8 (hval 0 25 v0 rfl rfl)
  clear hA0 hval0
  simp only [List.append_nil] at hW'
  have hlt : ∀ z ∈ p, z.block < W.heap.size := fun z hz => by simpa using hW'.lt z hz
  refine (calls_LE2Halve wx W).mono fun e W' ⟨he, hb⟩ => ?_
  refine ⟨_, he, _, _, _, [], p, [], hW', shut_true (by kernel_rfl), ?_, rfl, hb.frame _, fun h => by cases h⟩
  exact trodAll_mk1 (Below.trod Try.laidOut (by kernel_rfl) (of_decide_eq_true (by kernel_rfl)) h0k hb hlt)

/-- **FnE2Halve holds whatever the input.** -/
theorem fnE2Halve_holds : Rows.FnE2HalveSaid :=
  OpenClaim.holds_of_wide 5 Try.f5 rfl rfl rfl rfl rfl rfl rfl ⟨rfl, rfl, rfl, rfl, rfl⟩ rfl rfl rfl rfl rfl (by kernel_rfl) Try.func5 (by kernel_rfl)
    (of_decide_eq_true (by kernel_rfl)) (by unfold Func.isWrapper; rw [if_neg (of_decide_eq_false (by kernel_rfl))]; exact ⟨rfl, rfl⟩)
    (fun os started H enc _ => fnE2Halve_lifted os started H enc)
#print axioms fnE2Halve_holds

end Go.Proofs.Ytglnmklofoobkaa
