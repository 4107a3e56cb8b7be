/-
  fr.Element.smallerThanModulus, Add, Sub; spec.PlusR, spec.MinusR. (printed by frops.py)
-/
import Derived.Test.YtbbifiogcpcpfaaFpSub
import Derived.Test.YtbbifiogcpcpfaaListLow
namespace Go.Proofs.Ytbbifiogcpcpfaa
open Vm

theorem rL_v : rL.v = 21888242871839275222246405745257275088548364400416034343698204186575808495617 := by decide
def lowR (x : L4) : Bool := ltB x rL
def frSmallT (x : L4) : Option Seen :=
  match decide (x.d < 3486998266802970665) with
  | true => boolS true
  | false => match x.d == 3486998266802970665 with
    | false => boolS false
    | true => match decide (x.c < 13281191951274694749) with
      | true => boolS true
      | false => match x.c == 13281191951274694749 with
        | false => boolS false
        | true => match decide (x.b < 2896914383306846353) with
          | true => boolS true
          | false => match x.b == 2896914383306846353 with
            | false => boolS false
            | true => boolS (decide (x.a < 4891460686036598785))
theorem frSmall_run (x : L4) (c1 : Nat) :
    runs Try.prog (look []) 1 Try.f73 [.R 4] [none] [x.cells] [c1] = frSmallT x := by kernel_rfl
theorem lowR_iff (x : L4) : lowR x = true ↔ x.v < 21888242871839275222246405745257275088548364400416034343698204186575808495617 := by
  unfold lowR ltB
  rw [rL_v]
  exact decide_eq_true_iff
theorem frSmallT_eq {x : L4} (hx : x.ok) : frSmallT x = boolS (lowR x) := by
  have hl := lowR_iff x
  obtain ⟨⟨_, _⟩, ⟨_, _⟩, ⟨_, _⟩, ⟨_, _⟩⟩ := hx
  unfold L4.v at hl
  have tt : ∀ b : Bool, b = true → boolS true = boolS b := fun b h => by rw [h]
  have ff : ∀ b : Bool, ¬ b = true → boolS false = boolS b := fun b h => by cases b <;> simp_all
  unfold frSmallT
  split
  · rename_i h; simp only [decide_eq_true_eq] at h; exact tt _ (hl.2 (by omega))
  rename_i h; simp only [decide_eq_false_iff_not] at h
  split
  · rename_i h2; simp only [beq_eq_false_iff_ne, ne_eq] at h2; exact ff _ fun hh => by have := hl.1 hh; omega
  rename_i h2; simp only [beq_iff_eq] at h2
  split
  · rename_i h; simp only [decide_eq_true_eq] at h; exact tt _ (hl.2 (by omega))
  rename_i h; simp only [decide_eq_false_iff_not] at h
  split
  · rename_i h2; simp only [beq_eq_false_iff_ne, ne_eq] at h2; exact ff _ fun hh => by have := hl.1 hh; omega
  rename_i h2; simp only [beq_iff_eq] at h2
  split
  · rename_i h; simp only [decide_eq_true_eq] at h; exact tt _ (hl.2 (by omega))
  rename_i h; simp only [decide_eq_false_iff_not] at h
  split
  · rename_i h2; simp only [beq_eq_false_iff_ne, ne_eq] at h2; exact ff _ fun hh => by have := hl.1 hh; omega
  rename_i h2; simp only [beq_iff_eq] at h2
  by_cases h3 : x.a < 4891460686036598785
  · rw [decide_eq_true h3]; exact tt _ (hl.2 (by omega))
  · rw [decide_eq_false h3]; exact ff _ fun hh => by have := hl.1 hh; omega
theorem ac_frSmall : AC Try.prog 73 [.R 4] (rB lowR) := by
  refine ac_of_run (fn := Try.f73) (look_ok [] env_nil) follows (by kernel_rfl) rfl
    (runOK1 c4_sound fun x hx => ⟨res_val trivial, fun _ al has _ c1 => ⟨1, ?_⟩⟩)
  rw [show alsOf [PK.R 4] [PK.R 4] = [[none]] from rfl, List.mem_singleton] at has
  subst has
  show Sees [] _ (runs _ _ _ _ _ _ [x.cells] _)
  rw [frSmall_run, frSmallT_eq (in4 hx)]
  exact .mk' trivial rfl rfl

def frAddT (s k b o : Int → Int → Int → Int) (sm : L4 → Bool) (x y : L4) : Option Seen :=
  chain s k x y True fun z _ φ => match !(sm z) with
    | true => chain b o z rL φ fun z _ φ => upS z φ
    | false => upS z φ
abbrev eFrAdd (s k b o : Int → Int → Int → Int) (sm : L4 → Bool) : List (Nat × Sm) :=
  [eV 69 kVVV (gW s k), eV 71 kVVV (gW b o), eM 73 [.R 4] (rB sm)]
section
variable (s k b o : Int → Int → Int → Int) (sm : L4 → Bool) (x y z : L4) (c1 c2 c3 : Nat)
theorem frAdd_run1 : runs Try.prog (look (eFrAdd s k b o sm)) 1 Try.f67 kWRR [none, none, none] [z.cells, x.cells, y.cells] [c1, c2, c3] = frAddT s k b o sm x y := by kernel_rfl
theorem frAdd_run2 : runs Try.prog (look (eFrAdd s k b o sm)) 1 Try.f67 kWRR [none, some 0, none] [x.cells, x.cells, y.cells] [c1, c2, c3] = frAddT s k b o sm x y := by kernel_rfl
theorem frAdd_run3 : runs Try.prog (look (eFrAdd s k b o sm)) 1 Try.f67 kWRR [none, none, some 0] [y.cells, x.cells, y.cells] [c1, c2, c3] = frAddT s k b o sm x y := by kernel_rfl
theorem frAdd_run4 : runs Try.prog (look (eFrAdd s k b o sm)) 1 Try.f67 kWRR [none, some 0, some 0] [x.cells, x.cells, x.cells] [c1, c2, c3] = frAddT s k b o sm x x := by kernel_rfl
end

theorem addr_v {x y : L4} (hx : x.ok) (hy : y.ok) (h : lowm rL x y) : (addm rL x y).v = if x.v + y.v < rL.v then x.v + y.v else x.v + y.v - rL.v := by
  obtain ⟨h1, h2⟩ := h
  have bx := v_bd hx
  have by' := v_bd hy
  have bq := rL_v
  unfold addm
  rw [v_lim']
  split
  · have e : (x.v + y.v) % rL.v = x.v + y.v := Int.emod_eq_of_lt (by omega) (by omega)
    rw [e]; omega
  · rw [show (x.v + y.v) % rL.v = x.v + y.v - rL.v by rw [← Int.sub_emod_right]; exact Int.emod_eq_of_lt (by omega) (by omega)]; omega
theorem frAddT_eq {x y : L4} (hx : x.ok) (hy : y.ok) (h : lowm rL x y) : Sees [(addm rL x y).cells] (.same 0) (frAddT sw kw bw ow lowR x y) := by
  have hv := addr_v hx hy h
  obtain ⟨h1, h2⟩ := h
  have bx := v_bd hx
  have by' := v_bd hy
  have bq := rL_v
  unfold frAddT
  obtain ⟨z, k, ψ, e, hz, hψ, hs, k0, k1⟩ := chain_add hx hy (φ := True) (fun z _ φ => match !(lowR z) with
    | true => chain bw ow z rL φ fun z _ φ => upS z φ
    | false => upS z φ) trivial
  rw [e]
  have bz := v_bd hz
  have hlow := lowR_iff z
  split
  · rename_i hl
    simp only [Bool.not_eq_eq_eq_not, Bool.not_true] at hl
    have hl' : ¬ z.v < 21888242871839275222246405745257275088548364400416034343698204186575808495617 := fun hh => by rw [hlow.2 hh] at hl; cases hl
    obtain ⟨u, j, χ, e2, hu, hχ, hs2, j0, j1⟩ := chain_sub hz rL_ok (fun z _ φ => upS z φ) hψ
    rw [e2]
    have bu := v_bd hu
    refine .mk' hχ ?_ rfl
    rw [show u = addm rL x y from v_inj hu (lim_ok _) (by rw [hv]; split <;> omega)]
  · rename_i hl
    simp only [Bool.not_eq_eq_eq_not, Bool.not_false] at hl
    have hl' := hlow.1 hl
    refine .mk' hψ ?_ rfl
    rw [show z = addm rL x y from v_inj hz (lim_ok _) (by rw [hv]; split <;> omega)]

theorem ac_frAdd : AC Try.prog 67 kWRR (rOp (addm rL) (lowm rL)) := by
  refine ac_of_run (fn := Try.f67) (look_ok (eFrAdd sw kw bw ow lowR) (env_V ac_Add64 (env_V ac_Sub64 (env_M ac_frSmall env_nil)))) follows (by kernel_rfl) rfl
    (runOK3 c4_sound c4_sound c4_sound fun z x y hz hx hy => ⟨res_same (ok4.2 (lim_ok _)), fun hd al has hsame c1 c2 c3 => ⟨1, ?_⟩⟩)
  have key := frAddT_eq (in4 hx) (in4 hy) hd
  show Sees [(addm rL x y).cells] (.same 0) (runs Try.prog (look (eFrAdd sw kw bw ow lowR)) 1 Try.f67 kWRR al [z.cells, x.cells, y.cells] [c1, c2, c3])
  have hsame : alSame [z.cells, x.cells, y.cells] al [z.cells, x.cells, y.cells] := hsame
  rcases als_wrr4 has with rfl | rfl | rfl | rfl
  · exact sees_of (frAdd_run1 sw kw bw ow lowR x y z c1 c2 c3) key
  · obtain rfl := cells4_inj (Option.some.inj hsame.1)
    exact sees_of (frAdd_run3 sw kw bw ow lowR x z c1 c2 c3) key
  · obtain rfl := cells4_inj (Option.some.inj hsame.1)
    exact sees_of (frAdd_run2 sw kw bw ow lowR z y c1 c2 c3) key
  · obtain rfl := cells4_inj (Option.some.inj hsame.1)
    obtain rfl := cells4_inj (Option.some.inj hsame.2.1)
    exact sees_of (frAdd_run4 sw kw bw ow lowR z c1 c2 c3) key
section
variable (s k b o : Int → Int → Int → Int) (sm : L4 → Bool)
def frSubT (x y : L4) : Option Seen :=
  chain b o x y True fun z j φ => match !(j == 0) with
    | true => chain s k z rL φ fun z _ φ => upS z φ
    | false => upS z φ
abbrev eFrSub : List (Nat × Sm) := [eV 69 kVVV (gW s k), eV 71 kVVV (gW b o)]
theorem frSub_run : RunWRR Try.prog (look (eFrSub s k b o)) 1 Try.f64 4 c4 (frSubT s k b o) :=
  ⟨fun _ _ _ _ _ _ => by kernel_rfl, fun _ _ _ _ _ => by kernel_rfl, fun _ _ _ _ _ => by kernel_rfl, fun _ _ _ _ => by kernel_rfl⟩
end
theorem frSubT_eq {x y : L4} (hx : x.ok) (hy : y.ok) (h : lowm rL x y) : Sees [(subm rL x y).cells] (.same 0) (frSubT sw kw bw ow x y) := by
  have hv := subm_v hx hy rL_ok h
  obtain ⟨h1, h2⟩ := h
  have bx := v_bd hx
  have by' := v_bd hy
  have bq := rL_v
  unfold frSubT
  obtain ⟨z, k, ψ, e, hz, hψ, hs, k0, k1⟩ := chain_sub hx hy (φ := True) (fun z j φ => match !(j == 0) with
    | true => chain sw kw z rL φ fun z _ φ => upS z φ
    | false => upS z φ) trivial
  rw [e]
  have bz := v_bd hz
  split
  · rename_i hl
    simp only [Bool.not_eq_eq_eq_not, Bool.not_true, beq_eq_false_iff_ne, ne_eq] at hl
    obtain ⟨u, j, χ, e2, hu, hχ, hs2, j0, j1⟩ := chain_add hz rL_ok (fun z _ φ => upS z φ) hψ
    rw [e2]
    have bu := v_bd hu
    refine .mk' hχ ?_ rfl
    rw [show u = subm rL x y from v_inj hu (lim_ok _) (by rw [hv]; split <;> omega)]
  · rename_i hl
    simp only [Bool.not_eq_eq_eq_not, Bool.not_false, beq_iff_eq] at hl
    refine .mk' hψ ?_ rfl
    rw [show z = subm rL x y from v_inj hz (lim_ok _) (by rw [hv]; split <;> omega)]
theorem ac_frSub : AC Try.prog 64 [.W 4, .R 4, .R 4] (rWRR c4 (subm rL) (lowm rL)) :=
  ac_of_run (fn := Try.f64) (look_ok (eFrSub sw kw bw ow) (env_V ac_Add64 (env_V ac_Sub64 env_nil))) follows (by kernel_rfl) rfl
    (runWRR c4_sound i4 (frSub_run _ _ _ _) fun x y hx hy => ⟨res_same (ok4.2 (lim_ok _)), fun hd => frSubT_eq (in4 hx) (in4 hy) hd⟩)
abbrev ePlusR (op : L4 → L4 → L4 → L4) (φ : L4 → L4 → L4 → Prop) : List (Nat × Sm) :=
  [eM 54 kSSS (rMod op φ), eM 46 [] rPrimeR, eM 37 [.S 4] rWord]
theorem plusR_run (op : L4 → L4 → L4 → L4) (φ : L4 → L4 → L4 → Prop) (x y : L4) (c1 c2 : Nat) :
    runs Try.prog (look (ePlusR op φ)) 8 Try.f27 [.V, .V] [none, none] [[av4 x], [av4 y]] [c1, c2] = some ⟨[], .val (av4 (op rL x y)), True ∧ φ rL x y⟩ := by kernel_rfl
theorem ac_PlusR : AC Try.prog 27 [.V, .V] (rVV (addm rL) (lowm rL)) := by
  refine ac_of_run (fn := Try.f27) (look_ok (ePlusR addm lowm) (env_M ac_AddWords (env_M ac_PrimeR (env_M ac_word env_nil)))) follows (by kernel_rfl) rfl
    (runOK2 c4a c4a fun x y hx hy => ⟨res_val (av4_ok (lim_ok _)), fun hd al has _ c1 c2 => ⟨8, ?_⟩⟩)
  rw [show alsOf [PK.V, PK.V] [PK.V, PK.V] = [[none, none]] from rfl, List.mem_singleton] at has
  subst has
  show Sees [] _ (runs _ _ _ _ _ _ [[av4 x], [av4 y]] _)
  rw [plusR_run]
  exact .mk' ⟨trivial, hd⟩ rfl rfl

abbrev eMinusR (op : L4 → L4 → L4 → L4) (φ : L4 → L4 → L4 → Prop) : List (Nat × Sm) :=
  [eM 52 kSSS (rMod op φ), eM 46 [] rPrimeR, eM 37 [.S 4] rWord]
theorem minusR_run (op : L4 → L4 → L4 → L4) (φ : L4 → L4 → L4 → Prop) :
    Run2 Try.prog (look (eMinusR op φ)) 8 Try.f25 .V .V c4.agg c4.agg fun x y => some ⟨[], .val (av4 (op rL x y)), True ∧ φ rL x y⟩ := fun _ _ _ _ => by kernel_rfl
theorem ac_MinusR : AC Try.prog 25 [.V, .V] (rVV (subm rL) (lowm rL)) :=
  ac_of_run (fn := Try.f25) (look_ok (eMinusR subm lowm) (env_M ac_SubWords (env_M ac_PrimeR (env_M ac_word env_nil)))) follows (by kernel_rfl) rfl
    (run2 c4a c4a rfl (minusR_run _ _) fun x y _ _ => ⟨res_val (av4_ok (lim_ok _)), fun hd => .mk' ⟨trivial, hd⟩ rfl rfl⟩)

end Go.Proofs.Ytbbifiogcpcpfaa
