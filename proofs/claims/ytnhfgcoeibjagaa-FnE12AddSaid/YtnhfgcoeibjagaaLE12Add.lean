/-
  The law FnE12Add holds whatever the input: both sums and both differences are the same numbers modulo the prime, part by part; one is told to be one.
-/
import Derived.Test.YtnhfgcoeibjagaaOne
namespace Go.Proofs.Ytnhfgcoeibjagaa
open Vm
open Go.ChangeShapes Go.WideShapes Go.ChangeAt Go.RowKit

def t_LE12Add (lw : L48 → Bool) (o_impl12Add : L48 → L48 → L48) (p_impl12Add : L48 → L48 → Prop) (o_plus12 : L48 → L48 → L48) (p_plus12 : L48 → L48 → Prop) (o_impl12Sub : L48 → L48 → L48) (p_impl12Sub : L48 → L48 → Prop) (o_minus12 : L48 → L48 → L48) (p_minus12 : L48 → L48 → Prop) (o_implIsOne : L48 → Bool) (p_implIsOne : L48 → Prop) (x y : L48) : Option Seen :=
  (match !(lw x) with
  | true => sBool true True
  | false => (match !(lw y) with
  | true => sBool true True
  | false => (match eq48 (o_impl12Add x y) (o_plus12 x y) with
  | true => (match eq48 (o_impl12Sub x y) (o_minus12 x y) with
    | true => sBool (o_implIsOne one48) (((((True ∧ p_impl12Add x y) ∧ p_plus12 x y) ∧ p_impl12Sub x y) ∧ p_minus12 x y) ∧ p_implIsOne one48)
    | false => sBool false ((((True ∧ p_impl12Add x y) ∧ p_plus12 x y) ∧ p_impl12Sub x y) ∧ p_minus12 x y))
  | false => sBool false ((True ∧ p_impl12Add x y) ∧ p_plus12 x y))))

abbrev e_LE12Add (lw : L48 → Bool) (o_impl12Add : L48 → L48 → L48) (p_impl12Add : L48 → L48 → Prop) (o_plus12 : L48 → L48 → L48) (p_plus12 : L48 → L48 → Prop) (o_impl12Sub : L48 → L48 → L48) (p_impl12Sub : L48 → L48 → Prop) (o_minus12 : L48 → L48 → L48) (p_minus12 : L48 → L48 → Prop) (o_implIsOne : L48 → Bool) (p_implIsOne : L48 → Prop) : List (Nat × Sm) :=
  [eV 27 [.V] (rVB48 lw), eV 35 [.V, .V] (rVV2 c48 c48 o_impl12Add p_impl12Add), eV 30 [.V, .V] (rVV2 c48 c48 o_plus12 p_plus12), eV 36 [.V, .V] (rVV2 c48 c48 o_impl12Sub p_impl12Sub), eV 37 [.V, .V] (rVV2 c48 c48 o_minus12 p_minus12), eV 39 [] rOne, eV 38 [.V] (rVb c48 o_implIsOne p_implIsOne)]

theorem run_LE12Add (lw : L48 → Bool) (o_impl12Add : L48 → L48 → L48) (p_impl12Add : L48 → L48 → Prop) (o_plus12 : L48 → L48 → L48) (p_plus12 : L48 → L48 → Prop) (o_impl12Sub : L48 → L48 → L48) (p_impl12Sub : L48 → L48 → Prop) (o_minus12 : L48 → L48 → L48) (p_minus12 : L48 → L48 → Prop) (o_implIsOne : L48 → Bool) (p_implIsOne : L48 → Prop) : Run2 Try.prog (look (e_LE12Add lw o_impl12Add p_impl12Add o_plus12 p_plus12 o_impl12Sub p_impl12Sub o_minus12 p_minus12 o_implIsOne p_implIsOne)) 1 Try.f13 .V .V c48.agg c48.agg (t_LE12Add lw o_impl12Add p_impl12Add o_plus12 p_plus12 o_impl12Sub p_impl12Sub o_minus12 p_minus12 o_implIsOne p_implIsOne) := fun _ _ _ _ => by kernel_rfl

theorem ok_LE12Add : RunOK Try.prog (look (e_LE12Add low12 o_impl12Add p_impl12Add o_plus12 p_plus12 o_impl12Sub p_impl12Sub o_minus12 p_minus12 isO48 p_io)) Try.f13 [.V, .V] (g2 c48.agg c48.agg fun _ _ => resT) :=
  run2 c48a c48a rfl (run_LE12Add low12 o_impl12Add p_impl12Add o_plus12 p_plus12 o_impl12Sub p_impl12Sub o_minus12 p_minus12 isO48 p_io) fun x y ix iy => ⟨resT_ok, fun _ => by
    unfold t_LE12Add
    split
    · exact .mk' trivial rfl rfl
    rename_i hx
    split
    · exact .mk' trivial rfl rfl
    rename_i hy
    have lx := lt48_of (show low12 x = true by simpa using hx)
    have ly := lt48_of (show low12 y = true by simpa using hy)
    have kx := G48.agg ix
    have ky := G48.agg iy
    rw [show eq48 (o_impl12Add x y) (o_plus12 x y) = true from eq48_iff.2 rfl]
    rw [show eq48 (o_impl12Sub x y) (o_minus12 x y) = true from eq48_iff.2 rfl]
    rw [one_isO]
    exact .mk' ⟨⟨⟨⟨⟨trivial, ⟨⟨⟨⟨trivial, ⟨⟨trivial, trivial⟩, trivial⟩⟩, ⟨⟨trivial, trivial⟩, trivial⟩⟩, ⟨⟨trivial, ⟨⟨⟨trivial, ⟨trivial, ⟨⟨trivial, ⟨lx.p.p.p, ly.p.p.p⟩⟩, ⟨lx.p.p.q, ly.p.p.q⟩⟩⟩⟩, ⟨trivial, ⟨⟨trivial, ⟨lx.p.q.p, ly.p.q.p⟩⟩, ⟨lx.p.q.q, ly.p.q.q⟩⟩⟩⟩, ⟨trivial, ⟨⟨trivial, ⟨lx.p.r.p, ly.p.r.p⟩⟩, ⟨lx.p.r.q, ly.p.r.q⟩⟩⟩⟩⟩, ⟨⟨⟨trivial, ⟨trivial, ⟨⟨trivial, ⟨lx.q.p.p, ly.q.p.p⟩⟩, ⟨lx.q.p.q, ly.q.p.q⟩⟩⟩⟩, ⟨trivial, ⟨⟨trivial, ⟨lx.q.q.p, ly.q.q.p⟩⟩, ⟨lx.q.q.q, ly.q.q.q⟩⟩⟩⟩, ⟨trivial, ⟨⟨trivial, ⟨lx.q.r.p, ly.q.r.p⟩⟩, ⟨lx.q.r.q, ly.q.r.q⟩⟩⟩⟩⟩⟩, ⟨⟨trivial, trivial⟩, trivial⟩⟩⟩, ⟨⟨trivial, ⟨⟨⟨trivial, ⟨⟨trivial, ⟨lx.p.p.p, ly.p.p.p⟩⟩, ⟨lx.p.p.q, ly.p.p.q⟩⟩⟩, ⟨⟨trivial, ⟨lx.p.q.p, ly.p.q.p⟩⟩, ⟨lx.p.q.q, ly.p.q.q⟩⟩⟩, ⟨⟨trivial, ⟨lx.p.r.p, ly.p.r.p⟩⟩, ⟨lx.p.r.q, ly.p.r.q⟩⟩⟩⟩, ⟨⟨⟨trivial, ⟨⟨trivial, ⟨lx.q.p.p, ly.q.p.p⟩⟩, ⟨lx.q.p.q, ly.q.p.q⟩⟩⟩, ⟨⟨trivial, ⟨lx.q.q.p, ly.q.q.p⟩⟩, ⟨lx.q.q.q, ly.q.q.q⟩⟩⟩, ⟨⟨trivial, ⟨lx.q.r.p, ly.q.r.p⟩⟩, ⟨lx.q.r.q, ly.q.r.q⟩⟩⟩⟩⟩, ⟨⟨⟨⟨trivial, ⟨⟨trivial, trivial⟩, trivial⟩⟩, ⟨⟨trivial, trivial⟩, trivial⟩⟩, ⟨⟨trivial, ⟨⟨⟨trivial, ⟨trivial, ⟨⟨trivial, ⟨lx.p.p.p, ly.p.p.p⟩⟩, ⟨lx.p.p.q, ly.p.p.q⟩⟩⟩⟩, ⟨trivial, ⟨⟨trivial, ⟨lx.p.q.p, ly.p.q.p⟩⟩, ⟨lx.p.q.q, ly.p.q.q⟩⟩⟩⟩, ⟨trivial, ⟨⟨trivial, ⟨lx.p.r.p, ly.p.r.p⟩⟩, ⟨lx.p.r.q, ly.p.r.q⟩⟩⟩⟩⟩, ⟨⟨⟨trivial, ⟨trivial, ⟨⟨trivial, ⟨lx.q.p.p, ly.q.p.p⟩⟩, ⟨lx.q.p.q, ly.q.p.q⟩⟩⟩⟩, ⟨trivial, ⟨⟨trivial, ⟨lx.q.q.p, ly.q.q.p⟩⟩, ⟨lx.q.q.q, ly.q.q.q⟩⟩⟩⟩, ⟨trivial, ⟨⟨trivial, ⟨lx.q.r.p, ly.q.r.p⟩⟩, ⟨lx.q.r.q, ly.q.r.q⟩⟩⟩⟩⟩⟩, ⟨⟨trivial, trivial⟩, trivial⟩⟩⟩, ⟨⟨trivial, ⟨⟨⟨trivial, ⟨⟨trivial, ⟨lx.p.p.p, ly.p.p.p⟩⟩, ⟨lx.p.p.q, ly.p.p.q⟩⟩⟩, ⟨⟨trivial, ⟨lx.p.q.p, ly.p.q.p⟩⟩, ⟨lx.p.q.q, ly.p.q.q⟩⟩⟩, ⟨⟨trivial, ⟨lx.p.r.p, ly.p.r.p⟩⟩, ⟨lx.p.r.q, ly.p.r.q⟩⟩⟩⟩, ⟨⟨⟨trivial, ⟨⟨trivial, ⟨lx.q.p.p, ly.q.p.p⟩⟩, ⟨lx.q.p.q, ly.q.p.q⟩⟩⟩, ⟨⟨trivial, ⟨lx.q.q.p, ly.q.q.p⟩⟩, ⟨lx.q.q.q, ly.q.q.q⟩⟩⟩, ⟨⟨trivial, ⟨lx.q.r.p, ly.q.r.p⟩⟩, ⟨lx.q.r.q, ly.q.r.q⟩⟩⟩⟩⟩, ⟨trivial, ⟨⟨trivial, trivial⟩, trivial⟩⟩⟩ rfl rfl⟩

theorem calls_LE12Add {x y : L48} (hx : x.ok) (hy : y.ok) (w : World) :
    Calls Try.prog 13 #[avC c48 x, avC c48 y] w fun e w' => e = .returned (.bool true) ∧ Below w.heap.size w w' :=
  law_V (look_ok (e_LE12Add low12 o_impl12Add p_impl12Add o_plus12 p_plus12 o_impl12Sub p_impl12Sub o_minus12 p_minus12 isO48 p_io) (env_V ac_Low12 (env_V ac_impl12Add (env_V ac_plus12 (env_V ac_impl12Sub (env_V ac_minus12 (env_V ac_implOne (env_V ac_implIsOne env_nil)))))))) follows (by kernel_rfl) ok_LE12Add
    [avC c48 x, avC c48 y] rfl rfl (fun v hv => by
      simp only [List.mem_cons, List.not_mem_nil, or_false] at hv
      rcases hv with rfl | rfl
      · exact G48.val hx
      · exact G48.val hy) w

set_option maxRecDepth 100000 in
theorem fnE12Add_lifted (os : Os) (started : os.Started) (H : Type) (enc : TypeId × Value → H) :
    ReturnsInHanded {} Try.checked os 13 .any (Rows.fnE12AddSpec.pre6 enc Try.prog Try.f13 Rows.fnE12AddRow.domain false)
      (Rows.fnE12AddSpec.post enc Try.prog Try.f13 false true false false) := by
  refine returnsInHanded_of_change (C := Try.checked) Try.own started (by kernel_rfl) Try.func13
    (ChangeSpec.witness6 (enc := enc) (C := Try.checked) false ⟨#[], #[avC c48 z48, avC c48 z48], []⟩ 8 (by kernel_rfl) (by kernel_rfl) (by kernel_rfl) (by kernel_rfl)) ?_
  intro W base args ds gs before hval0 hW hcnd _
  have hval : ∀ (j : Nat) t v, Try.f13.params[j]? = some t → args[j]? = some v → Value.okWide Try.prog W .any base t v := hval0
  have hW' := hW
  obtain ⟨p, q, hA0, hV, rfl, hfz, hnd⟩ := hW
  have hA : DataW.TrodAll enc Try.prog W 0 (fun _ => true) true Try.f13.params.toList args.toList ds p := hA0
  rw [Try.params13] at hA hval
  obtain ⟨v0, v1, d0, d1, p0, p1, rfl, rfl, rfl, h0, h1⟩ := trodAll_two hA
  obtain ⟨rfl, rfl⟩ := trodVars_none hV
  have h0k := h0
  have h1k := h1
  obtain ⟨x, rfl, wx⟩ := open48 (hval 0 36 v0 rfl rfl)
  obtain ⟨y, rfl, wy⟩ := open48 (hval 1 36 v1 rfl rfl)
  clear hA0 hval0
  simp only [List.append_nil] at hW'
  have hlt : ∀ z ∈ p0 ++ p1, z.block < W.heap.size := fun z hz => by simpa using hW'.lt z hz
  refine (calls_LE12Add wx wy W).mono fun e W' ⟨he, hb⟩ => ?_
  refine ⟨_, he, _, _, _, [], p0 ++ p1, [], hW', shut_true (by kernel_rfl), ?_, rfl, hb.frame _, fun h => by cases h⟩
  exact trodAll_mk2 (Below.trod Try.laidOut (by kernel_rfl) (of_decide_eq_true (by kernel_rfl)) h0k hb fun z hz => hlt z (List.mem_append_left _ hz))
    (Below.trod Try.laidOut (by kernel_rfl) (of_decide_eq_true (by kernel_rfl)) h1k hb fun z hz => hlt z (List.mem_append_right _ hz))

/-- **FnE12Add holds whatever the input.** -/
theorem fnE12Add_holds : Rows.FnE12AddSaid :=
  OpenClaim.holds_of_wide 13 Try.f13 rfl rfl rfl rfl rfl rfl rfl ⟨rfl, rfl, rfl, rfl, rfl⟩ rfl rfl rfl rfl rfl (by kernel_rfl) Try.func13 (by kernel_rfl)
    (of_decide_eq_true (by kernel_rfl)) (by unfold Func.isWrapper; rw [if_neg (of_decide_eq_false (by kernel_rfl))]; exact ⟨rfl, rfl⟩)
    (fun os started H enc _ => fnE12Add_lifted os started H enc)
#print axioms fnE12Add_holds

end Go.Proofs.Ytnhfgcoeibjagaa
