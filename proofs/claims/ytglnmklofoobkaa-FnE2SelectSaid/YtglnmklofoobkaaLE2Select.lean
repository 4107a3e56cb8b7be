/-
  The law FnE2Select holds whatever the input: the first of two numbers is chosen by 0, the second by others.
-/
import Derived.Test.YtglnmklofoobkaaFpSel
import Derived.Test.YtglnmklofoobkaaLaw2
namespace Go.Proofs.Ytglnmklofoobkaa
open Vm
open Go.ChangeShapes Go.WideShapes Go.ChangeAt Go.RowKit

def t_sel (lw : L8 → Bool) (o : Int → L8 → L8 → L8) (p : Int → L8 → L8 → Prop) (c : Int) (x y : L8) : Option Seen :=
  match !(lw x) with
  | true => sBool true True
  | false => match !(lw y) with
    | true => sBool true True
    | false => match c == 0 with
      | true => sBool (eq8 (o c x y) x) (True ∧ p c x y)
      | false => sBool (eq8 (o c x y) y) (True ∧ p c x y)
abbrev e_sel (lw : L8 → Bool) (o : Int → L8 → L8 → L8) (p : Int → L8 → L8 → Prop) : List (Nat × Sm) :=
  [eV 8 [.V] (rVB8 lw), eV 9 [.V, .V, .V] (rSelV o p)]
theorem run_sel (lw : L8 → Bool) (o : Int → L8 → L8 → L8) (p : Int → L8 → L8 → Prop) :
    Run3 Try.prog (look (e_sel lw o p)) 1 Try.f3 .V .V .V cInt c8.agg c8.agg (t_sel lw o p) := fun _ _ _ _ _ _ => by kernel_rfl
theorem ok_sel : RunOK Try.prog (look (e_sel low2 (sel8 selm) noV3)) Try.f3 [.V, .V, .V] (g3 cInt c8.agg c8.agg fun _ _ _ => resT) :=
  run3 cInt_sound c8a c8a rfl (run_sel low2 (sel8 selm) noV3) fun c x y _ _ _ => ⟨resT_ok, fun _ => by
    unfold t_sel
    split
    · exact .mk' trivial rfl rfl
    split
    · exact .mk' trivial rfl rfl
    split
    · rename_i h
      have h : c = 0 := by simpa using h
      rw [show eq8 (sel8 selm c x y) x = true from eq8_iff.2 (by simp only [sel8, selm, if_pos h])]
      exact .mk' ⟨trivial, trivial⟩ rfl rfl
    · rename_i h
      have h : ¬ c = 0 := by simpa using h
      rw [show eq8 (sel8 selm c x y) y = true from eq8_iff.2 (by simp only [sel8, selm, if_neg h])]
      exact .mk' ⟨trivial, trivial⟩ rfl rfl⟩
theorem calls_sel {c : Int} {x y : L8} (hc : ok2 [] (.int .i64 c)) (hx : x.ok) (hy : y.ok) (w : World) :
    Calls Try.prog 3 #[.int .i64 c, avC c8 x, avC c8 y] w fun e w' => e = .returned (.bool true) ∧ Below w.heap.size w w' :=
  law_V (look_ok (e_sel low2 (sel8 selm) noV3) (env_V ac_Low2 (env_V ac_implSelect env_nil))) follows (by kernel_rfl) ok_sel
    [.int .i64 c, avC c8 x, avC c8 y] rfl rfl (fun v hv => by
      simp only [List.mem_cons, List.not_mem_nil, or_false] at hv
      rcases hv with rfl | rfl | rfl
      · exact hc
      · exact G8.val hx
      · exact G8.val hy) w

set_option maxRecDepth 100000 in
theorem fnE2Select_lifted (os : Os) (started : os.Started) (H : Type) (enc : TypeId × Value → H) :
    ReturnsInHanded {} Try.checked os 3 .any (Rows.fnE2SelectSpec.pre6 enc Try.prog Try.f3 Rows.fnE2SelectRow.domain false)
      (Rows.fnE2SelectSpec.post enc Try.prog Try.f3 false true false false) := by
  refine returnsInHanded_of_change (C := Try.checked) Try.own started (by kernel_rfl) Try.func3
    (ChangeSpec.witness6 (enc := enc) (C := Try.checked) false ⟨#[], #[.int .i64 0, avC c8 z8, avC c8 z8], []⟩ 8 (by kernel_rfl) (by kernel_rfl) (by kernel_rfl) (by kernel_rfl)) ?_
  intro W base args ds gs before hval0 hW hcnd _
  have hval : ∀ (j : Nat) t v, Try.f3.params[j]? = some t → args[j]? = some v → Value.okWide Try.prog W .any base t v := hval0
  have hW' := hW
  obtain ⟨p, q, hA0, hV, rfl, hfz, hnd⟩ := hW
  have hA : DataW.TrodAll enc Try.prog W 0 (fun _ => true) true Try.f3.params.toList args.toList ds p := hA0
  rw [Try.params3] at hA hval
  obtain ⟨v0, v1, v2, d0, d1, d2, p0, p1, p2, rfl, rfl, rfl, h0, h1, h2⟩ := trodAll_three hA
  obtain ⟨rfl, rfl⟩ := trodVars_none hV
  have h0k := h0
  have h1k := h1
  have h2k := h2
  have hu : Try.prog.underlying 3 = some (.int .i64) := by kernel_rfl
  have hc0 := hval 0 3 v0 rfl rfl
  obtain ⟨c, rfl⟩ := okWide_int hu hc0
  have hc : ok2 [] (.int .i64 c) := by
    have hk : Cell.okWide Try.prog W .any base 3 (.int .i64 c) := by
      unfold Value.okWide at hc0; rw [hu] at hc0; exact hc0
    unfold Cell.okWide at hk; rw [hu] at hk
    unfold Cell.ok at hk; rw [hu] at hk
    exact hk.2
  obtain ⟨x, rfl, wx⟩ := open8 (hval 1 25 v1 rfl rfl)
  obtain ⟨y, rfl, wy⟩ := open8 (hval 2 25 v2 rfl rfl)
  clear hA0 hval0
  simp only [List.append_nil] at hW'
  have hlt := fun z hz => hW'.lt z hz
  refine (calls_sel hc wx wy W).mono fun e W' ⟨he, hb⟩ => ?_
  refine ⟨_, he, _, _, _, [], p0 ++ p1 ++ p2, [], hW', shut_true (by kernel_rfl), ?_, rfl, hb.frame _, fun h => by cases h⟩
  rw [List.append_assoc]
  exact trodAll_mk3 (Below.trod Try.laidOut (by kernel_rfl) (of_decide_eq_true (by kernel_rfl)) h0k hb fun z hz => by simpa using hlt z (by simp [hz]))
    (Below.trod Try.laidOut (by kernel_rfl) (of_decide_eq_true (by kernel_rfl)) h1k hb fun z hz => by simpa using hlt z (by simp [hz]))
    (Below.trod Try.laidOut (by kernel_rfl) (of_decide_eq_true (by kernel_rfl)) h2k hb fun z hz => by simpa using hlt z (by simp [hz]))

/-- **FnE2Select holds whatever the input.** -/
theorem fnE2Select_holds : Rows.FnE2SelectSaid :=
  OpenClaim.holds_of_wide 3 Try.f3 rfl rfl rfl rfl rfl rfl rfl ⟨rfl, rfl, rfl, rfl, rfl⟩ rfl rfl rfl rfl rfl (by kernel_rfl) Try.func3 (by kernel_rfl)
    (of_decide_eq_true (by kernel_rfl)) (by unfold Func.isWrapper; rw [if_neg (of_decide_eq_false (by kernel_rfl))]; exact ⟨rfl, rfl⟩)
    (fun os started H enc _ => fnE2Select_lifted os started H enc)
#print axioms fnE2Select_holds
end Go.Proofs.Ytglnmklofoobkaa
