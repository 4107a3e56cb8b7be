/-
  The law FnE2Sub holds whatever the input: both sides are the same numbers modulo the prime, part by part.
-/
import Derived.Test.YtnhfgcoeibjagaaLow
namespace Go.Proofs.Ytnhfgcoeibjagaa
open Vm
open Go.ChangeShapes Go.WideShapes Go.ChangeAt Go.RowKit

def t_LE2Sub (lw : L8 → Bool) (o_impl2Sub : L8 → L8 → L8) (p_impl2Sub : L8 → L8 → Prop) (o_minus2 : L8 → L8 → L8) (p_minus2 : L8 → L8 → Prop) (x y : L8) : Option Seen :=
  (match !(lw x) with
  | true => sBool true True
  | false => (match !(lw y) with
  | true => sBool true True
  | false => sBool (eq8 (o_impl2Sub x y) (o_minus2 x y)) ((True ∧ p_impl2Sub x y) ∧ p_minus2 x y)))

abbrev e_LE2Sub (lw : L8 → Bool) (o_impl2Sub : L8 → L8 → L8) (p_impl2Sub : L8 → L8 → Prop) (o_minus2 : L8 → L8 → L8) (p_minus2 : L8 → L8 → Prop) : List (Nat × Sm) :=
  [eV 14 [.V] (rVB8 lw), eV 19 [.V, .V] (rVV2 c8 c8 o_impl2Sub p_impl2Sub), eV 18 [.V, .V] (rVV2 c8 c8 o_minus2 p_minus2)]

theorem run_LE2Sub (lw : L8 → Bool) (o_impl2Sub : L8 → L8 → L8) (p_impl2Sub : L8 → L8 → Prop) (o_minus2 : L8 → L8 → L8) (p_minus2 : L8 → L8 → Prop) : Run2 Try.prog (look (e_LE2Sub lw o_impl2Sub p_impl2Sub o_minus2 p_minus2)) 1 Try.f5 .V .V c8.agg c8.agg (t_LE2Sub lw o_impl2Sub p_impl2Sub o_minus2 p_minus2) := fun _ _ _ _ => by kernel_rfl

theorem ok_LE2Sub : RunOK Try.prog (look (e_LE2Sub low2 o_impl2Sub p_impl2Sub o_minus2 p_minus2)) Try.f5 [.V, .V] (g2 c8.agg c8.agg fun _ _ => resT) :=
  run2 c8a c8a rfl (run_LE2Sub low2 o_impl2Sub p_impl2Sub o_minus2 p_minus2) fun x y _ _ => ⟨resT_ok, fun _ => by
    unfold t_LE2Sub
    split
    · exact .mk' trivial rfl rfl
    rename_i hx
    split
    · exact .mk' trivial rfl rfl
    rename_i hy
    have lx := lt8_of (show low2 x = true by simpa using hx)
    have ly := lt8_of (show low2 y = true by simpa using hy)
    rw [show eq8 (o_impl2Sub x y) (o_minus2 x y) = true from eq8_iff.2 (rfl)]
    exact .mk' ⟨⟨trivial, ⟨trivial, ⟨trivial, ⟨⟨trivial, ⟨lx.p, ly.p⟩⟩, ⟨lx.q, ly.q⟩⟩⟩⟩⟩, ⟨⟨trivial, ⟨lx.p, ly.p⟩⟩, ⟨lx.q, ly.q⟩⟩⟩ rfl rfl⟩

theorem calls_LE2Sub {x y : L8} (hx : x.ok) (hy : y.ok) (w : World) :
    Calls Try.prog 5 #[avC c8 x, avC c8 y] w fun e w' => e = .returned (.bool true) ∧ Below w.heap.size w w' :=
  law_V (look_ok (e_LE2Sub low2 o_impl2Sub p_impl2Sub o_minus2 p_minus2) (env_V ac_Low2 (env_V ac_impl2Sub (env_V ac_minus2 env_nil)))) follows (by kernel_rfl) ok_LE2Sub
    [avC c8 x, avC c8 y] rfl rfl (fun v hv => by
      simp only [List.mem_cons, List.not_mem_nil, or_false] at hv
      rcases hv with rfl | rfl
      · exact G8.val hx
      · exact G8.val hy) w

set_option maxRecDepth 100000 in
theorem fnE2Sub_lifted (os : Os) (started : os.Started) (H : Type) (enc : TypeId × Value → H) :
    ReturnsInHanded {} Try.checked os 5 .any (Rows.fnE2SubSpec.pre6 enc Try.prog Try.f5 Rows.fnE2SubRow.domain false)
      (Rows.fnE2SubSpec.post enc Try.prog Try.f5 false true false false) := by
  refine returnsInHanded_of_change (C := Try.checked) Try.own started (by kernel_rfl) Try.func5
    (ChangeSpec.witness6 (enc := enc) (C := Try.checked) false ⟨#[], #[avC c8 z8, avC c8 z8], []⟩ 8 (by kernel_rfl) (by kernel_rfl) (by kernel_rfl) (by kernel_rfl)) ?_
  intro W base args ds gs before hval0 hW hcnd _
  have hval : ∀ (j : Nat) t v, Try.f5.params[j]? = some t → args[j]? = some v → Value.okWide Try.prog W .any base t v := hval0
  have hW' := hW
  obtain ⟨p, q, hA0, hV, rfl, hfz, hnd⟩ := hW
  have hA : DataW.TrodAll enc Try.prog W 0 (fun _ => true) true Try.f5.params.toList args.toList ds p := hA0
  rw [Try.params5] at hA hval
  obtain ⟨v0, v1, d0, d1, p0, p1, rfl, rfl, rfl, h0, h1⟩ := trodAll_two hA
  obtain ⟨rfl, rfl⟩ := trodVars_none hV
  have h0k := h0
  have h1k := h1
  obtain ⟨x, rfl, wx⟩ := open8 (hval 0 25 v0 rfl rfl)
  obtain ⟨y, rfl, wy⟩ := open8 (hval 1 25 v1 rfl rfl)
  clear hA0 hval0
  simp only [List.append_nil] at hW'
  have hlt : ∀ z ∈ p0 ++ p1, z.block < W.heap.size := fun z hz => by simpa using hW'.lt z hz
  refine (calls_LE2Sub wx wy W).mono fun e W' ⟨he, hb⟩ => ?_
  refine ⟨_, he, _, _, _, [], p0 ++ p1, [], hW', shut_true (by kernel_rfl), ?_, rfl, hb.frame _, fun h => by cases h⟩
  exact trodAll_mk2 (Below.trod Try.laidOut (by kernel_rfl) (of_decide_eq_true (by kernel_rfl)) h0k hb fun z hz => hlt z (List.mem_append_left _ hz))
    (Below.trod Try.laidOut (by kernel_rfl) (of_decide_eq_true (by kernel_rfl)) h1k hb fun z hz => hlt z (List.mem_append_right _ hz))

/-- **FnE2Sub holds whatever the input.** -/
theorem fnE2Sub_holds : Rows.FnE2SubSaid :=
  OpenClaim.holds_of_wide 5 Try.f5 rfl rfl rfl rfl rfl rfl rfl ⟨rfl, rfl, rfl, rfl, rfl⟩ rfl rfl rfl rfl rfl (by kernel_rfl) Try.func5 (by kernel_rfl)
    (of_decide_eq_true (by kernel_rfl)) (by unfold Func.isWrapper; rw [if_neg (of_decide_eq_false (by kernel_rfl))]; exact ⟨rfl, rfl⟩)
    (fun os started H enc _ => fnE2Sub_lifted os started H enc)
#print axioms fnE2Sub_holds

end Go.Proofs.Ytnhfgcoeibjagaa
