/-
  The law FnE6Add holds whatever the input: both sides are the same numbers modulo the prime, part by part.
-/
import Derived.Test.YtnhfgcoeibjagaaLow
namespace Go.Proofs.Ytnhfgcoeibjagaa
open Vm
open Go.ChangeShapes Go.WideShapes Go.ChangeAt Go.RowKit

def t_LE6Add (lw : L24 → Bool) (o_impl6Add : L24 → L24 → L24) (p_impl6Add : L24 → L24 → Prop) (o_plus6 : L24 → L24 → L24) (p_plus6 : L24 → L24 → Prop) (x y : L24) : Option Seen :=
  (match !(lw x) with
  | true => sBool true True
  | false => (match !(lw y) with
  | true => sBool true True
  | false => sBool (eq24 (o_impl6Add x y) (o_plus6 x y)) ((True ∧ p_impl6Add x y) ∧ p_plus6 x y)))

abbrev e_LE6Add (lw : L24 → Bool) (o_impl6Add : L24 → L24 → L24) (p_impl6Add : L24 → L24 → Prop) (o_plus6 : L24 → L24 → L24) (p_plus6 : L24 → L24 → Prop) : List (Nat × Sm) :=
  [eV 22 [.V] (rVB24 lw), eV 25 [.V, .V] (rVV2 c24 c24 o_impl6Add p_impl6Add), eV 26 [.V, .V] (rVV2 c24 c24 o_plus6 p_plus6)]

theorem run_LE6Add (lw : L24 → Bool) (o_impl6Add : L24 → L24 → L24) (p_impl6Add : L24 → L24 → Prop) (o_plus6 : L24 → L24 → L24) (p_plus6 : L24 → L24 → Prop) : Run2 Try.prog (look (e_LE6Add lw o_impl6Add p_impl6Add o_plus6 p_plus6)) 1 Try.f8 .V .V c24.agg c24.agg (t_LE6Add lw o_impl6Add p_impl6Add o_plus6 p_plus6) := fun _ _ _ _ => by kernel_rfl

theorem ok_LE6Add : RunOK Try.prog (look (e_LE6Add low6 o_impl6Add p_impl6Add o_plus6 p_plus6)) Try.f8 [.V, .V] (g2 c24.agg c24.agg fun _ _ => resT) :=
  run2 c24a c24a rfl (run_LE6Add low6 o_impl6Add p_impl6Add o_plus6 p_plus6) fun x y _ _ => ⟨resT_ok, fun _ => by
    unfold t_LE6Add
    split
    · exact .mk' trivial rfl rfl
    rename_i hx
    split
    · exact .mk' trivial rfl rfl
    rename_i hy
    have lx := lt24_of (show low6 x = true by simpa using hx)
    have ly := lt24_of (show low6 y = true by simpa using hy)
    rw [show eq24 (o_impl6Add x y) (o_plus6 x y) = true from eq24_iff.2 (rfl)]
    exact .mk' ⟨⟨trivial, ⟨⟨⟨⟨trivial, trivial⟩, trivial⟩, ⟨⟨⟨trivial, ⟨trivial, ⟨⟨trivial, ⟨lx.p.p, ly.p.p⟩⟩, ⟨lx.p.q, ly.p.q⟩⟩⟩⟩, ⟨trivial, ⟨⟨trivial, ⟨lx.q.p, ly.q.p⟩⟩, ⟨lx.q.q, ly.q.q⟩⟩⟩⟩, ⟨trivial, ⟨⟨trivial, ⟨lx.r.p, ly.r.p⟩⟩, ⟨lx.r.q, ly.r.q⟩⟩⟩⟩⟩, trivial⟩⟩, ⟨⟨⟨trivial, ⟨⟨trivial, ⟨lx.p.p, ly.p.p⟩⟩, ⟨lx.p.q, ly.p.q⟩⟩⟩, ⟨⟨trivial, ⟨lx.q.p, ly.q.p⟩⟩, ⟨lx.q.q, ly.q.q⟩⟩⟩, ⟨⟨trivial, ⟨lx.r.p, ly.r.p⟩⟩, ⟨lx.r.q, ly.r.q⟩⟩⟩⟩ rfl rfl⟩

theorem calls_LE6Add {x y : L24} (hx : x.ok) (hy : y.ok) (w : World) :
    Calls Try.prog 8 #[avC c24 x, avC c24 y] w fun e w' => e = .returned (.bool true) ∧ Below w.heap.size w w' :=
  law_V (look_ok (e_LE6Add low6 o_impl6Add p_impl6Add o_plus6 p_plus6) (env_V ac_Low6 (env_V ac_impl6Add (env_V ac_plus6 env_nil)))) follows (by kernel_rfl) ok_LE6Add
    [avC c24 x, avC c24 y] rfl rfl (fun v hv => by
      simp only [List.mem_cons, List.not_mem_nil, or_false] at hv
      rcases hv with rfl | rfl
      · exact G24.val hx
      · exact G24.val hy) w

set_option maxRecDepth 100000 in
theorem fnE6Add_lifted (os : Os) (started : os.Started) (H : Type) (enc : TypeId × Value → H) :
    ReturnsInHanded {} Try.checked os 8 .any (Rows.fnE6AddSpec.pre6 enc Try.prog Try.f8 Rows.fnE6AddRow.domain false)
      (Rows.fnE6AddSpec.post enc Try.prog Try.f8 false true false false) := by
  refine returnsInHanded_of_change (C := Try.checked) Try.own started (by kernel_rfl) Try.func8
    (ChangeSpec.witness6 (enc := enc) (C := Try.checked) false ⟨#[], #[avC c24 z24, avC c24 z24], []⟩ 8 (by kernel_rfl) (by kernel_rfl) (by kernel_rfl) (by kernel_rfl)) ?_
  intro W base args ds gs before hval0 hW hcnd _
  have hval : ∀ (j : Nat) t v, Try.f8.params[j]? = some t → args[j]? = some v → Value.okWide Try.prog W .any base t v := hval0
  have hW' := hW
  obtain ⟨p, q, hA0, hV, rfl, hfz, hnd⟩ := hW
  have hA : DataW.TrodAll enc Try.prog W 0 (fun _ => true) true Try.f8.params.toList args.toList ds p := hA0
  rw [Try.params8] at hA hval
  obtain ⟨v0, v1, d0, d1, p0, p1, rfl, rfl, rfl, h0, h1⟩ := trodAll_two hA
  obtain ⟨rfl, rfl⟩ := trodVars_none hV
  have h0k := h0
  have h1k := h1
  obtain ⟨x, rfl, wx⟩ := open24 (hval 0 31 v0 rfl rfl)
  obtain ⟨y, rfl, wy⟩ := open24 (hval 1 31 v1 rfl rfl)
  clear hA0 hval0
  simp only [List.append_nil] at hW'
  have hlt : ∀ z ∈ p0 ++ p1, z.block < W.heap.size := fun z hz => by simpa using hW'.lt z hz
  refine (calls_LE6Add wx wy W).mono fun e W' ⟨he, hb⟩ => ?_
  refine ⟨_, he, _, _, _, [], p0 ++ p1, [], hW', shut_true (by kernel_rfl), ?_, rfl, hb.frame _, fun h => by cases h⟩
  exact trodAll_mk2 (Below.trod Try.laidOut (by kernel_rfl) (of_decide_eq_true (by kernel_rfl)) h0k hb fun z hz => hlt z (List.mem_append_left _ hz))
    (Below.trod Try.laidOut (by kernel_rfl) (of_decide_eq_true (by kernel_rfl)) h1k hb fun z hz => hlt z (List.mem_append_right _ hz))

/-- **FnE6Add holds whatever the input.** -/
theorem fnE6Add_holds : Rows.FnE6AddSaid :=
  OpenClaim.holds_of_wide 8 Try.f8 rfl rfl rfl rfl rfl rfl rfl ⟨rfl, rfl, rfl, rfl, rfl⟩ rfl rfl rfl rfl rfl (by kernel_rfl) Try.func8 (by kernel_rfl)
    (of_decide_eq_true (by kernel_rfl)) (by unfold Func.isWrapper; rw [if_neg (of_decide_eq_false (by kernel_rfl))]; exact ⟨rfl, rfl⟩)
    (fun os started H enc _ => fnE6Add_lifted os started H enc)
#print axioms fnE6Add_holds

end Go.Proofs.Ytnhfgcoeibjagaa
