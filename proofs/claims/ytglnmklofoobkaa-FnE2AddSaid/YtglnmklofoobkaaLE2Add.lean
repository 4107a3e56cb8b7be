/-
  The law FnE2Add holds whatever the input: impl.E2Add and spec.Plus2 both yield the parts' sums modulo the prime.
-/
import Derived.Test.YtglnmklofoobkaaE2Add
import Derived.Test.YtglnmklofoobkaaEq
namespace Go.Proofs.Ytglnmklofoobkaa
open Vm
open Go.ChangeShapes Go.WideShapes Go.ChangeAt Go.RowKit

def lawAddT (lw : L8 → Bool) (op op' : L8 → L8 → L8) (φ ψ : L8 → L8 → Prop) (x y : L8) : Option Seen :=
  match !(lw x) with
  | true => boolT true True
  | false => match !(lw y) with
    | true => boolT true True
    | false => boolT (eq8 (op x y) (op' x y)) ((True ∧ φ x y) ∧ ψ x y)
abbrev eLawAdd (lw : L8 → Bool) (op op' : L8 → L8 → L8) (φ ψ : L8 → L8 → Prop) : List (Nat × Sm) :=
  [eV 8 [.V] (rVB8 lw), eV 21 [.V, .V] (rVV8 op φ), eV 16 [.V, .V] (rVV8 op' ψ)]
theorem lawAdd_run (lw : L8 → Bool) (op op' : L8 → L8 → L8) (φ ψ : L8 → L8 → Prop) :
    Run2 Try.prog (look (eLawAdd lw op op' φ ψ)) 1 Try.f7 .V .V c8.agg c8.agg (lawAddT lw op op' φ ψ) := fun _ _ _ _ => by kernel_rfl
theorem low2_both {x y : L8} (hx : low2 x = true) (hy : low2 y = true) : both (lowm qL) x y := by
  obtain ⟨h1, h2⟩ := (low2_iff x).1 hx
  obtain ⟨h3, h4⟩ := (low2_iff y).1 hy
  exact ⟨⟨of_decide_eq_true h1, of_decide_eq_true h3⟩, ⟨of_decide_eq_true h2, of_decide_eq_true h4⟩⟩
theorem lawAdd_ok : RunOK Try.prog (look (eLawAdd low2 (two (addm qL)) (two (addm qL)) (both (lowm qL)) (both (lowm qL)))) Try.f7 [.V, .V] (g2 c8.agg c8.agg fun _ _ => resT) :=
  run2 c8a c8a rfl (lawAdd_run _ _ _ _ _) fun x y _ _ => ⟨resT_ok, fun _ => by
    unfold lawAddT
    split
    · exact .mk' trivial rfl rfl
    rename_i h1
    split
    · exact .mk' trivial rfl rfl
    rename_i h2
    have hb := low2_both (by simpa using h1) (by simpa using h2)
    rw [eq8_refl]
    exact .mk' ⟨⟨trivial, hb⟩, hb⟩ rfl rfl⟩
theorem lawAdd_calls {x y : L8} (hx : x.ok) (hy : y.ok) (w : World) :
    Calls Try.prog 7 #[av8 x, av8 y] w fun e w' => e = .returned (.bool true) ∧ Below w.heap.size w w' :=
  law_V (look_ok (eLawAdd low2 (two (addm qL)) (two (addm qL)) (both (lowm qL)) (both (lowm qL))) (env_V ac_Low2 (env_V ac_implAdd (env_V ac_Plus2 env_nil)))) follows (by kernel_rfl) lawAdd_ok
    [av8 x, av8 y] rfl rfl (fun v hv => by
      simp only [List.mem_cons, List.not_mem_nil, or_false] at hv
      rcases hv with rfl | rfl
      · exact av8_ok hx
      · exact av8_ok hy) w

theorem open8 {w : World} {r : Reach} {base : Nat} {v : Value} (hv : Value.okWide Try.prog w r base 25 v) : ∃ x : L8, v = av8 x ∧ x.ok := by
  obtain ⟨cs, rfl, hl, hw⟩ := open_words (n := 8) (u := 22) (by kernel_rfl) (by kernel_rfl) (by kernel_rfl) (by kernel_rfl) hv
  obtain ⟨x, hx, hok⟩ := of8 hl hw
  exact ⟨x, by rw [hx]; rfl, hok⟩

set_option maxRecDepth 100000 in
theorem lawAdd_lifted (os : Os) (started : os.Started) (H : Type) (enc : TypeId × Value → H) :
    ReturnsInHanded {} Try.checked os 7 .any (Rows.fnE2AddSpec.pre6 enc Try.prog Try.f7 Rows.fnE2AddRow.domain false)
      (Rows.fnE2AddSpec.post enc Try.prog Try.f7 false true false false) := by
  refine returnsInHanded_of_change (C := Try.checked) Try.own started (by kernel_rfl) Try.func7
    (ChangeSpec.witness6 (enc := enc) (C := Try.checked) false ⟨#[], #[av8 ⟨⟨0, 0, 0, 0⟩, ⟨0, 0, 0, 0⟩⟩, av8 ⟨⟨0, 0, 0, 0⟩, ⟨0, 0, 0, 0⟩⟩], []⟩ 8 (by kernel_rfl) (by kernel_rfl) (by kernel_rfl) (by kernel_rfl)) ?_
  intro W base args ds gs before hval0 hW hcnd _
  have hval : ∀ (j : Nat) t v, Try.f7.params[j]? = some t → args[j]? = some v → Value.okWide Try.prog W .any base t v := hval0
  have hW' := hW
  obtain ⟨p, q, hA0, hV, rfl, hfz, hnd⟩ := hW
  have hA : DataW.TrodAll enc Try.prog W 0 (fun _ => true) true Try.f7.params.toList args.toList ds p := hA0
  rw [Try.params7] at hA hval
  obtain ⟨v0, v1, d0, d1, p0, p1, rfl, rfl, rfl, h0, h1⟩ := trodAll_two hA
  obtain ⟨rfl, rfl⟩ := trodVars_none hV
  have h0k := h0
  have h1k := h1
  obtain ⟨x, rfl, wx⟩ := open8 (hval 0 25 v0 rfl rfl)
  obtain ⟨y, rfl, wy⟩ := open8 (hval 1 25 v1 rfl rfl)
  clear hA0 hval0
  simp only [List.append_nil] at hW'
  have hlt : ∀ z ∈ p0 ++ p1, z.block < W.heap.size := fun z hz => by simpa using hW'.lt z hz
  refine (lawAdd_calls wx wy W).mono fun e W' ⟨he, hb⟩ => ?_
  refine ⟨_, he, _, _, _, [], p0 ++ p1, [], hW', shut_true (by kernel_rfl), ?_, rfl, hb.frame _, fun h => by cases h⟩
  exact trodAll_mk2 (Below.trod Try.laidOut (by kernel_rfl) (of_decide_eq_true (by kernel_rfl)) h0k hb fun z hz => hlt z (List.mem_append_left _ hz))
    (Below.trod Try.laidOut (by kernel_rfl) (of_decide_eq_true (by kernel_rfl)) h1k hb fun z hz => hlt z (List.mem_append_right _ hz))

theorem fnE2Add_holds : Rows.FnE2AddSaid :=
  OpenClaim.holds_of_wide 7 Try.f7 rfl rfl rfl rfl rfl rfl rfl ⟨rfl, rfl, rfl, rfl, rfl⟩ rfl rfl rfl rfl rfl (by kernel_rfl) Try.func7 (by kernel_rfl)
    (of_decide_eq_true (by kernel_rfl)) (by unfold Func.isWrapper; rw [if_neg (of_decide_eq_false (by kernel_rfl))]; exact ⟨rfl, rfl⟩)
    (fun os started H enc _ => lawAdd_lifted os started H enc)
#print axioms fnE2Add_holds
end Go.Proofs.Ytglnmklofoobkaa
