/-
  The law FnE2Equal holds whatever the input: numbers of E2 are equal, zero or one just if their words are.
-/
import Derived.Test.YtbbifiogcpcpfaaE2Eq
namespace Go.Proofs.Ytbbifiogcpcpfaa
open Vm
open Go.ChangeShapes Go.WideShapes Go.ChangeAt Go.RowKit

def t_LE2Equal (lw : L8 → Bool) (o_i2Eq : L8 → L8 → Bool) (o_i2Z : L8 → Bool) (o_i2O : L8 → Bool) (o_up2 : L8 → L8) (p_up2 : L8 → Prop) (x y : L8) : Option Seen :=
  (match !(lw x) with
  | true => sBool true True
  | false => (match !(lw y) with
  | true => sBool true True
  | false => (match (o_i2Eq x y == eq8 x y) with
    | true => (match o_i2Eq x x with
      | true => (match (o_i2Z x == eq8 x z8) with
        | true => sBool (o_i2O x == eq8 x (o_up2 u8)) (True ∧ p_up2 u8)
        | false => sBool false True)
      | false => sBool false True)
    | false => sBool false True)))

abbrev e_LE2Equal (lw : L8 → Bool) (o_i2Eq : L8 → L8 → Bool) (o_i2Z : L8 → Bool) (o_i2O : L8 → Bool) (o_up2 : L8 → L8) (p_up2 : L8 → Prop) : List (Nat × Sm) :=
  [eV 9 [.V] (rVB8 lw), eV 10 [.V, .V] (rEq c8.agg o_i2Eq), eV 11 [.V] (rVB8 o_i2Z), eV 12 [.V] (rVB8 o_i2O), eV 13 [.V] (rV c8 c8 o_up2 p_up2), eV 14 [] rU8]

theorem run_LE2Equal (lw : L8 → Bool) (o_i2Eq : L8 → L8 → Bool) (o_i2Z : L8 → Bool) (o_i2O : L8 → Bool) (o_up2 : L8 → L8) (p_up2 : L8 → Prop) : Run2 Try.prog (look (e_LE2Equal lw o_i2Eq o_i2Z o_i2O o_up2 p_up2)) 1 Try.f3 .V .V c8.agg c8.agg (t_LE2Equal lw o_i2Eq o_i2Z o_i2O o_up2 p_up2) := fun _ _ _ _ => by kernel_rfl

theorem ok_LE2Equal : RunOK Try.prog (look (e_LE2Equal low2 isE8 isZ8 isO8 o_up2 p_up2)) Try.f3 [.V, .V] (g2 c8.agg c8.agg fun _ _ => resT) :=
  run2 c8a c8a rfl (run_LE2Equal low2 isE8 isZ8 isO8 o_up2 p_up2) fun x y ix iy => ⟨resT_ok, fun _ => by
    unfold t_LE2Equal
    split
    · exact .mk' trivial rfl rfl
    rename_i hx
    split
    · exact .mk' trivial rfl rfl
    rename_i hy
    have lx := lt8_of (show low2 x = true by simpa using hx)
    have ly := lt8_of (show low2 y = true by simpa using hy)
    have kx := G8.agg ix
    have ky := G8.agg iy
    rw [isE8_eq kx ky, isE8_eq kx kx, isZ8_eq kx, isO8_eq kx, eq8_iff.2 (rfl : x = x)]
    simp only [beq_self_eq_true]
    exact .mk' ⟨trivial, up2_vc⟩ rfl rfl⟩

theorem calls_LE2Equal {x y : L8} (hx : x.ok) (hy : y.ok) (w : World) :
    Calls Try.prog 3 #[avC c8 x, avC c8 y] w fun e w' => e = .returned (.bool true) ∧ Below w.heap.size w w' :=
  law_V (look_ok (e_LE2Equal low2 isE8 isZ8 isO8 o_up2 p_up2) (env_V ac_Low2 (env_V ac_i2Eq (env_V ac_i2Z (env_V ac_i2O (env_V ac_up2 (env_V ac_one2 env_nil))))))) follows (by kernel_rfl) ok_LE2Equal
    [avC c8 x, avC c8 y] rfl rfl (fun v hv => by
      simp only [List.mem_cons, List.not_mem_nil, or_false] at hv
      rcases hv with rfl | rfl
      · exact G8.val hx
      · exact G8.val hy) w

set_option maxRecDepth 100000 in
theorem fnE2Equal_lifted (os : Os) (started : os.Started) (H : Type) (enc : TypeId × Value → H) :
    ReturnsInHanded {} Try.checked os 3 .any (Rows.fnE2EqualSpec.pre6 enc Try.prog Try.f3 Rows.fnE2EqualRow.domain false)
      (Rows.fnE2EqualSpec.post enc Try.prog Try.f3 false true false false) := by
  refine returnsInHanded_of_change (C := Try.checked) Try.own started (by kernel_rfl) Try.func3
    (ChangeSpec.witness6 (enc := enc) (C := Try.checked) false ⟨#[], #[avC c8 z8, avC c8 z8], []⟩ 8 (by kernel_rfl) (by kernel_rfl) (by kernel_rfl) (by kernel_rfl)) ?_
  intro W base args ds gs before hval0 hW hcnd _
  have hval : ∀ (j : Nat) t v, Try.f3.params[j]? = some t → args[j]? = some v → Value.okWide Try.prog W .any base t v := hval0
  have hW' := hW
  obtain ⟨p, q, hA0, hV, rfl, hfz, hnd⟩ := hW
  have hA : DataW.TrodAll enc Try.prog W 0 (fun _ => true) true Try.f3.params.toList args.toList ds p := hA0
  rw [Try.params3] at hA hval
  obtain ⟨v0, v1, d0, d1, p0, p1, rfl, rfl, rfl, h0, h1⟩ := trodAll_two hA
  obtain ⟨rfl, rfl⟩ := trodVars_none hV
  have h0k := h0
  have h1k := h1
  obtain ⟨x, rfl, wx⟩ := open8 (hval 0 25 v0 rfl rfl)
  obtain ⟨y, rfl, wy⟩ := open8 (hval 1 25 v1 rfl rfl)
  clear hA0 hval0
  simp only [List.append_nil] at hW'
  have hlt : ∀ z ∈ p0 ++ p1, z.block < W.heap.size := fun z hz => by simpa using hW'.lt z hz
  refine (calls_LE2Equal wx wy W).mono fun e W' ⟨he, hb⟩ => ?_
  refine ⟨_, he, _, _, _, [], p0 ++ p1, [], hW', shut_true (by kernel_rfl), ?_, rfl, hb.frame _, fun h => by cases h⟩
  exact trodAll_mk2 (Below.trod Try.laidOut (by kernel_rfl) (of_decide_eq_true (by kernel_rfl)) h0k hb fun z hz => hlt z (List.mem_append_left _ hz))
    (Below.trod Try.laidOut (by kernel_rfl) (of_decide_eq_true (by kernel_rfl)) h1k hb fun z hz => hlt z (List.mem_append_right _ hz))

/-- **FnE2Equal holds whatever the input.** -/
theorem fnE2Equal_holds : Rows.FnE2EqualSaid :=
  OpenClaim.holds_of_wide 3 Try.f3 rfl rfl rfl rfl rfl rfl rfl ⟨rfl, rfl, rfl, rfl, rfl⟩ rfl rfl rfl rfl rfl (by kernel_rfl) Try.func3 (by kernel_rfl)
    (of_decide_eq_true (by kernel_rfl)) (by unfold Func.isWrapper; rw [if_neg (of_decide_eq_false (by kernel_rfl))]; exact ⟨rfl, rfl⟩)
    (fun os started H enc _ => fnE2Equal_lifted os started H enc)
#print axioms fnE2Equal_holds

end Go.Proofs.Ytbbifiogcpcpfaa
