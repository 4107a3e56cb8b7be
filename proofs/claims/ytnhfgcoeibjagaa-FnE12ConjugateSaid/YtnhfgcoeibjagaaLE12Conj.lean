/-
  The law FnE12Conjugate holds whatever the input: both sides are the same numbers modulo the prime, part by part.
-/
import Derived.Test.YtnhfgcoeibjagaaLow
namespace Go.Proofs.Ytnhfgcoeibjagaa
open Vm
open Go.ChangeShapes Go.WideShapes Go.ChangeAt Go.RowKit

def t_LE12Conj (lw : L48 → Bool) (o_impl12Conj : L48 → L48) (p_impl12Conj : L48 → Prop) (o_minus6 : L24 → L24 → L24) (p_minus6 : L24 → L24 → Prop) (x : L48) : Option Seen :=
  (match !(lw x) with
  | true => sBool true True
  | false => sBool (eq48 (o_impl12Conj x) (⟨x.p, o_minus6 z24 x.q⟩)) ((True ∧ p_impl12Conj x) ∧ p_minus6 z24 x.q))

abbrev e_LE12Conj (lw : L48 → Bool) (o_impl12Conj : L48 → L48) (p_impl12Conj : L48 → Prop) (o_minus6 : L24 → L24 → L24) (p_minus6 : L24 → L24 → Prop) : List (Nat × Sm) :=
  [eV 27 [.V] (rVB48 lw), eV 28 [.V] (rV c48 c48 o_impl12Conj p_impl12Conj), eV 24 [.V, .V] (rVV2 c24 c24 o_minus6 p_minus6)]

theorem run_LE12Conj (lw : L48 → Bool) (o_impl12Conj : L48 → L48) (p_impl12Conj : L48 → Prop) (o_minus6 : L24 → L24 → L24) (p_minus6 : L24 → L24 → Prop) : Run1 Try.prog (look (e_LE12Conj lw o_impl12Conj p_impl12Conj o_minus6 p_minus6)) 1 Try.f9 .V c48.agg (t_LE12Conj lw o_impl12Conj p_impl12Conj o_minus6 p_minus6) := fun _ _ => by kernel_rfl

theorem ok_LE12Conj : RunOK Try.prog (look (e_LE12Conj low12 o_impl12Conj p_impl12Conj o_minus6 p_minus6)) Try.f9 [.V] (g1 c48.agg fun _ => resT) :=
  run1 c48a rfl (run_LE12Conj low12 o_impl12Conj p_impl12Conj o_minus6 p_minus6) fun x _ => ⟨resT_ok, fun _ => by
    unfold t_LE12Conj
    split
    · exact .mk' trivial rfl rfl
    rename_i hx
    have lx := lt48_of (show low12 x = true by simpa using hx)
    rw [show eq48 (o_impl12Conj x) (⟨x.p, o_minus6 z24 x.q⟩) = true from eq48_iff.2 (rfl)]
    exact .mk' ⟨⟨trivial, ⟨⟨⟨trivial, ⟨⟨trivial, trivial⟩, trivial⟩⟩, ⟨trivial, ⟨⟨⟨trivial, ⟨trivial, ⟨⟨trivial, ⟨z4_lt, lx.q.p.p⟩⟩, ⟨z4_lt, lx.q.p.q⟩⟩⟩⟩, ⟨trivial, ⟨⟨trivial, ⟨z4_lt, lx.q.q.p⟩⟩, ⟨z4_lt, lx.q.q.q⟩⟩⟩⟩, ⟨trivial, ⟨⟨trivial, ⟨z4_lt, lx.q.r.p⟩⟩, ⟨z4_lt, lx.q.r.q⟩⟩⟩⟩⟩⟩, ⟨⟨trivial, trivial⟩, trivial⟩⟩⟩, ⟨⟨⟨trivial, ⟨⟨trivial, ⟨z4_lt, lx.q.p.p⟩⟩, ⟨z4_lt, lx.q.p.q⟩⟩⟩, ⟨⟨trivial, ⟨z4_lt, lx.q.q.p⟩⟩, ⟨z4_lt, lx.q.q.q⟩⟩⟩, ⟨⟨trivial, ⟨z4_lt, lx.q.r.p⟩⟩, ⟨z4_lt, lx.q.r.q⟩⟩⟩⟩ rfl rfl⟩

theorem calls_LE12Conj {x : L48} (hx : x.ok) (w : World) :
    Calls Try.prog 9 #[avC c48 x] w fun e w' => e = .returned (.bool true) ∧ Below w.heap.size w w' :=
  law_V (look_ok (e_LE12Conj low12 o_impl12Conj p_impl12Conj o_minus6 p_minus6) (env_V ac_Low12 (env_V ac_impl12Conj (env_V ac_minus6 env_nil)))) follows (by kernel_rfl) ok_LE12Conj
    [avC c48 x] rfl rfl (fun v hv => by
      simp only [List.mem_cons, List.not_mem_nil, or_false] at hv
      subst hv
      exact G48.val hx) w

set_option maxRecDepth 100000 in
theorem fnE12Conjugate_lifted (os : Os) (started : os.Started) (H : Type) (enc : TypeId × Value → H) :
    ReturnsInHanded {} Try.checked os 9 .any (Rows.fnE12ConjugateSpec.pre6 enc Try.prog Try.f9 Rows.fnE12ConjugateRow.domain false)
      (Rows.fnE12ConjugateSpec.post enc Try.prog Try.f9 false true false false) := by
  refine returnsInHanded_of_change (C := Try.checked) Try.own started (by kernel_rfl) Try.func9
    (ChangeSpec.witness6 (enc := enc) (C := Try.checked) false ⟨#[], #[avC c48 z48], []⟩ 8 (by kernel_rfl) (by kernel_rfl) (by kernel_rfl) (by kernel_rfl)) ?_
  intro W base args ds gs before hval0 hW hcnd _
  have hval : ∀ (j : Nat) t v, Try.f9.params[j]? = some t → args[j]? = some v → Value.okWide Try.prog W .any base t v := hval0
  have hW' := hW
  obtain ⟨p, q, hA0, hV, rfl, hfz, hnd⟩ := hW
  have hA : DataW.TrodAll enc Try.prog W 0 (fun _ => true) true Try.f9.params.toList args.toList ds p := hA0
  rw [Try.params9] at hA hval
  obtain ⟨v0, d0, rfl, rfl, h0⟩ := trodAll_one hA
  obtain ⟨rfl, rfl⟩ := trodVars_none hV
  have h0k := h0
  obtain ⟨x, rfl, wx⟩ := open48 (hval 0 36 v0 rfl rfl)
  clear hA0 hval0
  simp only [List.append_nil] at hW'
  have hlt : ∀ z ∈ p, z.block < W.heap.size := fun z hz => by simpa using hW'.lt z hz
  refine (calls_LE12Conj wx W).mono fun e W' ⟨he, hb⟩ => ?_
  refine ⟨_, he, _, _, _, [], p, [], hW', shut_true (by kernel_rfl), ?_, rfl, hb.frame _, fun h => by cases h⟩
  exact trodAll_mk1 (Below.trod Try.laidOut (by kernel_rfl) (of_decide_eq_true (by kernel_rfl)) h0k hb hlt)

/-- **FnE12Conjugate holds whatever the input.** -/
theorem fnE12Conjugate_holds : Rows.FnE12ConjugateSaid :=
  OpenClaim.holds_of_wide 9 Try.f9 rfl rfl rfl rfl rfl rfl rfl ⟨rfl, rfl, rfl, rfl, rfl⟩ rfl rfl rfl rfl rfl (by kernel_rfl) Try.func9 (by kernel_rfl)
    (of_decide_eq_true (by kernel_rfl)) (by unfold Func.isWrapper; rw [if_neg (of_decide_eq_false (by kernel_rfl))]; exact ⟨rfl, rfl⟩)
    (fun os started H enc _ => fnE12Conjugate_lifted os started H enc)
#print axioms fnE12Conjugate_holds

end Go.Proofs.Ytnhfgcoeibjagaa
