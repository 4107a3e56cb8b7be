/-
  The law FnPolyDegree holds whatever the input: the degree is one less than there are numbers; a polynomial is equal to itself, and to another of as many numbers just if all are the same.
-/
import Derived.Test.YtbbifiogcpcpfaaLawDeg3
namespace Go.Proofs.Ytbbifiogcpcpfaa
open Vm
open Go.ChangeShapes Go.WideShapes Go.ChangeAt Go.RowKit

theorem fd_vres (g : Nat → Value) (hp : Hp) : vres Try.prog Try.f6 ⟨fillT g 0 (mkT 57 [(4, .bool true)]), hp, True, 0⟩ = some (.bool true) := by kernel_rfl

set_option maxRecDepth 100000 in
theorem fnPolyDegree_lifted (os : Os) (started : os.Started) (H : Type) (enc : TypeId × Value → H) :
    ReturnsInHanded {} Try.checked os 6 .any (Rows.fnPolyDegreeSpec.pre6 enc Try.prog Try.f6 Rows.fnPolyDegreeRow.domain false)
      (Rows.fnPolyDegreeSpec.post enc Try.prog Try.f6 false true false false) := by
  refine returnsInHanded_of_change (C := Try.checked) Try.own started (by kernel_rfl) Try.func6
    (ChangeSpec.witness6 (enc := enc) (C := Try.checked) false ⟨#[], #[.slice none 0 0, .slice none 0 0], []⟩ 8 (by kernel_rfl) (by kernel_rfl) (by kernel_rfl) (by kernel_rfl)) ?_
  intro W base args ds gs before hval0 hW hcnd _
  have hval : ∀ (j : Nat) t v, Try.f6.params[j]? = some t → args[j]? = some v → Value.okWide Try.prog W .any base t v := hval0
  have hW' := hW
  obtain ⟨p, q, hA0, hV, rfl, hfz, hnd⟩ := hW
  have hA : DataW.TrodAll enc Try.prog W 0 (fun _ => true) true Try.f6.params.toList args.toList ds p := hA0
  rw [Try.params6] at hA hval
  obtain ⟨v0, v1, d0, d1, p0, p1, rfl, rfl, rfl, h0, h1⟩ := trodAll_two hA
  obtain ⟨rfl, rfl⟩ := trodVars_none hV
  obtain ⟨xs, b, o, ox, nx, lx, ex⟩ := open_list (u := 22) fd_und (by kernel_rfl) (by kernel_rfl) (by kernel_rfl) (by kernel_rfl) (hval 0 34 v0 rfl rfl) h0
  obtain ⟨ys, b', o', oy, ny, ly, ey⟩ := open_list (u := 22) fd_und (by kernel_rfl) (by kernel_rfl) (by kernel_rfl) (by kernel_rfl) (hval 1 34 v1 rfl rfl) h1
  clear hA0 hval0
  simp only [List.append_nil] at hW'
  have hlt : ∀ z ∈ p0 ++ p1, z.block < W.heap.size := fun z hz => by simpa using hW'.lt z hz
  refine (law_LL (f := 6) (fn := Try.f6) (nt := 57) (by kernel_rfl) (by kernel_rfl) (by kernel_rfl) ox oy ex ey lx ly (fun ua ub sa sb =>
    tri_conseq (fd_tri ox oy nx ny sa sb b o b' o') fun e τ' h => ⟨h.1, _, h.2, fd_vres⟩)).mono fun e W' ⟨he, hb⟩ => ?_
  refine ⟨_, he, _, _, _, [], p0 ++ p1, [], hW', shut_true (by kernel_rfl), ?_, rfl, hb.frame _, fun h => by cases h⟩
  exact trodAll_mk2 (Below.trod Try.laidOut (by kernel_rfl) (of_decide_eq_true (by kernel_rfl)) h0 hb fun z hz => hlt z (List.mem_append_left _ hz))
    (Below.trod Try.laidOut (by kernel_rfl) (of_decide_eq_true (by kernel_rfl)) h1 hb fun z hz => hlt z (List.mem_append_right _ hz))

/-- **FnPolyDegree holds whatever the input.** -/
theorem fnPolyDegree_holds : Rows.FnPolyDegreeSaid :=
  OpenClaim.holds_of_wide 6 Try.f6 rfl rfl rfl rfl rfl rfl rfl ⟨rfl, rfl, rfl, rfl, rfl⟩ rfl rfl rfl rfl rfl (by kernel_rfl) Try.func6 (by kernel_rfl)
    (of_decide_eq_true (by kernel_rfl)) (by unfold Func.isWrapper; rw [if_neg (of_decide_eq_false (by kernel_rfl))]; exact ⟨rfl, rfl⟩)
    (fun os started H enc _ => fnPolyDegree_lifted os started H enc)
#print axioms fnPolyDegree_holds

end Go.Proofs.Ytbbifiogcpcpfaa
