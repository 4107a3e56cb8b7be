/-
  fp.Element.Sub, Double, Neg, Set, IsZero, SetZero; spec.SubWords, spec.minusW.
-/
import Derived.Test.YtbbifiogcpcpfaaGen
import Derived.Laws.Bits64b
namespace Go.Proofs.Ytbbifiogcpcpfaa
open Vm

/-! ### spec.SubWords, spec.minusW -/
def subT (add sub : L4 → L4 → L4) (sc : L4 → L4 → Bool) (x y m : L4) : Option Seen :=
  match sc x y with
  | true => fr4 (add (sub x y) m) True
  | false => fr4 (sub x y) True
abbrev eSub (add sub : L4 → L4 → L4) (ac sc : L4 → L4 → Bool) : List (Nat × Sm) :=
  [eM 66 kSS (rWB add ac), eM 65 kSS (rWB sub sc)]
theorem sub_run (add sub : L4 → L4 → L4) (ac sc : L4 → L4 → Bool) :
    Run3 Try.prog (look (eSub add sub ac sc)) 8 Try.f52 (.S 4) (.S 4) (.S 4) c4 c4 c4 (subT add sub sc) := fun _ _ _ _ _ _ => by kernel_rfl
/-- The difference modulo m. -/
def subm (m x y : L4) : L4 := lim ((x.v - y.v) % m.v)
theorem subm_v {m x y : L4} (hx : x.ok) (hy : y.ok) (hm : m.ok) (h : lowm m x y) : (subm m x y).v = if x.v < y.v then x.v - y.v + m.v else x.v - y.v := by
  obtain ⟨h1, h2⟩ := h
  have bx := v_bd hx
  have by' := v_bd hy
  have bm := v_bd hm
  unfold subm
  rw [v_lim']
  split
  · have e : (x.v - y.v) % m.v = x.v - y.v + m.v := by rw [← Int.add_emod_right]; exact Int.emod_eq_of_lt (by omega) (by omega)
    rw [e]; omega
  · have e : (x.v - y.v) % m.v = x.v - y.v := Int.emod_eq_of_lt (by omega) (by omega)
    rw [e]; omega
theorem subT_eq {x y m : L4} (hx : x.ok) (hy : y.ok) (hm : m.ok) (h : lowm m x y) : subT addw subw subc x y m = fr4 (subm m x y) True := by
  have hv := subm_v hx hy hm h
  obtain ⟨h1, h2⟩ := h
  have bx := v_bd hx
  have by' := v_bd hy
  have bm := v_bd hm
  unfold subT
  split
  · rename_i h
    have h := of_decide_eq_true h
    rw [show addw (subw x y) m = subm m x y from v_inj (lim_ok _) (lim_ok _) (by rw [hv, if_pos h]; simp only [addw, subw, v_lim']; omega)]
  · rename_i h
    have h : ¬ _ := decide_eq_false_iff_not.1 h
    rw [show subw x y = subm m x y from v_inj (lim_ok _) (lim_ok _) (by rw [hv, if_neg h]; simp only [subw, v_lim']; omega)]
theorem ac_SubWords : AC Try.prog 52 kSSS (rMod subm lowm) :=
  ac_of_run (fn := Try.f52) (look_ok (eSub addw subw addc subc) (env_M ac_plus (env_M ac_lessen env_nil))) follows (by kernel_rfl) rfl
    (run3 c4_sound c4_sound c4_sound rfl (sub_run _ _ _ _) fun x y m hx hy hm => ⟨res_fresh (ok4.2 (lim_ok _)) (fun u hu => by simp at hu), fun hd => by
      rw [subT_eq (in4 hx) (in4 hy) (in4 hm) hd]
      exact .mk' trivial rfl rfl⟩)
abbrev eMinusW (op : L4 → L4 → L4 → L4) (φ : L4 → L4 → L4 → Prop) : List (Nat × Sm) :=
  [eM 52 kSSS (rMod op φ), eM 39 [] rPrime, eM 37 [.S 4] rWord]
theorem minusW_run (op : L4 → L4 → L4 → L4) (φ : L4 → L4 → L4 → Prop) :
    Run2 Try.prog (look (eMinusW op φ)) 8 Try.f40 .V .V c4.agg c4.agg fun x y => some ⟨[], .val (av4 (op qL x y)), True ∧ φ qL x y⟩ := fun _ _ _ _ => by kernel_rfl
theorem ac_minusW : AC Try.prog 40 [.V, .V] (rVV (subm qL) (lowm qL)) :=
  ac_of_run (fn := Try.f40) (look_ok (eMinusW subm lowm) (env_M ac_SubWords (env_M ac_Prime (env_M ac_word env_nil)))) follows (by kernel_rfl) rfl
    (run2 c4a c4a rfl (minusW_run _ _) fun x y _ _ => ⟨res_val (av4_ok (lim_ok _)), fun hd => .mk' ⟨trivial, hd⟩ rfl rfl⟩)

/-! ### fp.Element.Sub, Double -/
section
variable (s k b o : Int → Int → Int → Int) (sm : L4 → Bool)
def fpSubT (x y : L4) : Option Seen :=
  chain b o x y True fun z j φ => match !(j == 0) with
    | true => chain s k z qL φ fun z _ φ => upS z φ
    | false => upS z φ
abbrev eFpSub : List (Nat × Sm) := [eV 69 kVVV (gW s k), eV 71 kVVV (gW b o)]
theorem fpSub_run : RunWRR Try.prog (look (eFpSub s k b o)) 1 Try.f61 4 c4 (fpSubT s k b o) :=
  ⟨fun _ _ _ _ _ _ => by kernel_rfl, fun _ _ _ _ _ => by kernel_rfl, fun _ _ _ _ _ => by kernel_rfl, fun _ _ _ _ => by kernel_rfl⟩
theorem fpDouble_run : RunWR Try.prog (look (eFpAdd s k b o sm)) 1 Try.f59 4 c4 (fun x => fpAddT s k b o sm x x) :=
  ⟨fun _ _ _ _ => by kernel_rfl, fun _ _ _ => by kernel_rfl⟩
end
theorem fpSubT_eq {x y : L4} (hx : x.ok) (hy : y.ok) (h : lowm qL x y) : Sees [(subm qL x y).cells] (.same 0) (fpSubT sw kw bw ow x y) := by
  have hv := subm_v hx hy qL_ok h
  obtain ⟨h1, h2⟩ := h
  have bx := v_bd hx
  have by' := v_bd hy
  have bq := qL_v
  unfold fpSubT
  obtain ⟨z, k, ψ, e, hz, hψ, hs, k0, k1⟩ := chain_sub hx hy (φ := True) (fun z j φ => match !(j == 0) with
    | true => chain sw kw z qL φ fun z _ φ => upS z φ
    | false => upS z φ) trivial
  rw [e]
  have bz := v_bd hz
  split
  · rename_i hl
    simp only [Bool.not_eq_eq_eq_not, Bool.not_true, beq_eq_false_iff_ne, ne_eq] at hl
    obtain ⟨u, j, χ, e2, hu, hχ, hs2, j0, j1⟩ := chain_add hz qL_ok (fun z _ φ => upS z φ) hψ
    rw [e2]
    have bu := v_bd hu
    refine .mk' hχ ?_ rfl
    rw [show u = subm qL x y from v_inj hu (lim_ok _) (by rw [hv]; split <;> omega)]
  · rename_i hl
    simp only [Bool.not_eq_eq_eq_not, Bool.not_false, beq_iff_eq] at hl
    refine .mk' hψ ?_ rfl
    rw [show z = subm qL x y from v_inj hz (lim_ok _) (by rw [hv]; split <;> omega)]
theorem ac_fpSub : AC Try.prog 61 [.W 4, .R 4, .R 4] (rWRR c4 (subm qL) (lowm qL)) :=
  ac_of_run (fn := Try.f61) (look_ok (eFpSub sw kw bw ow) (env_V ac_Add64 (env_V ac_Sub64 env_nil))) follows (by kernel_rfl) rfl
    (runWRR c4_sound i4 (fpSub_run _ _ _ _) fun x y hx hy => ⟨res_same (ok4.2 (lim_ok _)), fun hd => fpSubT_eq (in4 hx) (in4 hy) hd⟩)
/-- Twice modulo the prime. -/
def dblm (x : L4) : L4 := addm qL x x
def lowd (x : L4) : Prop := lowm qL x x
theorem ac_fpDouble : AC Try.prog 59 [.W 4, .R 4] (rWR c4 dblm lowd) :=
  ac_of_run (fn := Try.f59) (look_ok (eFpAdd sw kw bw ow low) (env_V ac_Add64 (env_V ac_Sub64 (env_M ac_small env_nil)))) follows (by kernel_rfl) rfl
    (runWR c4_sound i4 (fpDouble_run _ _ _ _ _) fun x hx => ⟨res_same (ok4.2 (lim_ok _)), fun hd => fpAddT_eq (in4 hx) (in4 hx) hd⟩)

/-! ### fp.Element.IsZero, SetZero, Set, Neg -/
def z4 : L4 := ⟨0, 0, 0, 0⟩
theorem z4_ok : z4.ok := ⟨⟨by decide, by decide⟩, ⟨by decide, by decide⟩, ⟨by decide, by decide⟩, ⟨by decide, by decide⟩⟩
theorem z4_v : z4.v = 0 := by decide
def isZ (x : L4) : Bool := x.v == 0
theorem or_zero {a b : Int} (ha : wordOK a) (hb : wordOK b) : wordOK (bits .or .u64 a b) ∧ (bits .or .u64 a b = 0 ↔ a = 0 ∧ b = 0) := by
  obtain ⟨a0, a1⟩ := ha
  obtain ⟨b0, b1⟩ := hb
  obtain ⟨A, rfl⟩ := Int.eq_ofNat_of_zero_le a0
  obtain ⟨B, rfl⟩ := Int.eq_ofNat_of_zero_le b0
  have e := bits_or_u64_nat A B (by omega) (by omega)
  have hlt : A ||| B < 2 ^ 64 := Nat.or_lt_two_pow (by omega) (by omega)
  rw [e]
  refine ⟨⟨by omega, by omega⟩, ?_⟩
  have : A ||| B = 0 ↔ A = 0 ∧ B = 0 := Nat.or_eq_zero_iff
  omega
theorem fpIsZero_run : Run1 Try.prog (look []) 1 Try.f56 (.R 4) c4 (fun x => sBool (bits .or .u64 (bits .or .u64 (bits .or .u64 x.d x.c) x.b) x.a == 0) True) := fun _ _ => by kernel_rfl
theorem isZ_eq {x : L4} (h : x.ok) : (bits .or .u64 (bits .or .u64 (bits .or .u64 x.d x.c) x.b) x.a == 0) = isZ x := by
  obtain ⟨h1, e1⟩ := or_zero h.d h.c
  obtain ⟨h2, e2⟩ := or_zero h1 h.b
  obtain ⟨h3, e3⟩ := or_zero h2 h.a
  obtain ⟨⟨_, _⟩, ⟨_, _⟩, ⟨_, _⟩, ⟨_, _⟩⟩ := h
  unfold isZ
  rw [Bool.eq_iff_iff, beq_iff_eq, beq_iff_eq, e3, e2, e1]
  unfold L4.v
  omega
def noVC {α : Type} (_ : α) : Prop := True
theorem ac_fpIsZero : AC Try.prog 56 [.R 4] (rB isZ) :=
  ac_of_run (fn := Try.f56) (look_ok [] env_nil) follows (by kernel_rfl) rfl
    (run1 c4_sound rfl fpIsZero_run fun x hx => ⟨res_val trivial, fun _ => by rw [isZ_eq (in4 hx)]; exact .mk' trivial rfl rfl⟩)
theorem fpSet_run : RunWR Try.prog (look []) 1 Try.f62 4 c4 (fun x => sSame c4 (id x) (noVC x)) := ⟨fun _ _ _ _ => by kernel_rfl, fun _ _ _ => by kernel_rfl⟩
theorem ac_fpSet : AC Try.prog 62 [.W 4, .R 4] (rWR c4 id noVC) :=
  mkWR (look_ok [] env_nil) follows (by kernel_rfl) rfl G4 (fun _ h => h) fpSet_run

end Go.Proofs.Ytbbifiogcpcpfaa
