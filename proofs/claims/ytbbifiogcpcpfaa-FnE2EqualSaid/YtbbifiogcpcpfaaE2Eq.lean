/-
  Are numbers of E2 equal, zero, one; one times 2^256.
-/
import Derived.Test.YtbbifiogcpcpfaaShift
import Derived.Test.YtbbifiogcpcpfaaNeq
namespace Go.Proofs.Ytbbifiogcpcpfaa
open Vm

theorem fpNe_run : Run2 Try.prog (look []) 1 Try.f68 (.R 4) (.R 4) c4 c4 (fun x y => some ⟨[], .val (.int .u64 (neU x y)), True⟩) := fun _ _ _ _ => by kernel_rfl
theorem ac_fpNe : AC Try.prog 68 [.R 4, .R 4] (rNe neU) :=
  ac_of_run (fn := Try.f68) (look_ok [] env_nil) follows (by kernel_rfl) rfl
    (run2 c4_sound c4_sound rfl fpNe_run fun x y hx hy => ⟨res_val (by
      obtain ⟨h1, h2⟩ := (neU_zero (in4 hx) (in4 hy)).1
      exact ⟨h1, show neU x y ≤ 18446744073709551615 by omega⟩), fun _ => .mk' trivial rfl rfl⟩)
theorem fpEq_run (ne : L4 → L4 → Int) : Run2 Try.prog (look [eM 68 [.R 4, .R 4] (rNe ne)]) 1 Try.f55 (.R 4) (.R 4) c4 c4 (fun x y => sBool (ne x y == 0) True) := fun _ _ _ _ => by kernel_rfl
theorem ac_fpEq : AC Try.prog 55 [.R 4, .R 4] (rEq c4 isE) :=
  ac_of_run (fn := Try.f55) (look_ok [eM 68 [.R 4, .R 4] (rNe neU)] (env_M ac_fpNe env_nil)) follows (by kernel_rfl) rfl
    (run2 c4_sound c4_sound rfl (fpEq_run neU) fun x y _ _ => ⟨res_val trivial, fun _ => .mk' trivial rfl rfl⟩)

def one4 : L4 := ⟨15230403791020821917, 754611498739239741, 7381016538464732716, 1011752739694698287⟩
theorem one4_ok : one4.ok := ⟨⟨by decide, by decide⟩, ⟨by decide, by decide⟩, ⟨by decide, by decide⟩, ⟨by decide, by decide⟩⟩
theorem fpIsOne_run : Run1 Try.prog (look []) 1 Try.f57 (.R 4) c4 (fun x => sBool (isE x one4) True) := fun _ _ => by kernel_rfl
theorem ac_fpIsOne : AC Try.prog 57 [.R 4] (rB fun x => isE x one4) :=
  ac_of_run (fn := Try.f57) (look_ok [] env_nil) follows (by kernel_rfl) rfl
    (run1 c4_sound rfl fpIsOne_run fun _ _ => ⟨res_val trivial, fun _ => .mk' trivial rfl rfl⟩)

def rBn {α : Type} (C : Cod α) (f : α → Bool) : Gf := g1 C fun x => ([], .val (.bool (f x)), none)
def and2 (a b : Bool) : Option Seen := match a with
  | true => sBool b True
  | false => sBool false True
theorem and2_sees (a b : Bool) : Sees [] (.val (.bool (a && b))) (and2 a b) := by cases a <;> exact .mk' trivial rfl rfl
section
variable (ie : L4 → L4 → Bool) (iz io : L4 → Bool) (ie8 : L8 → L8 → Bool) (iz8 io8 : L8 → Bool)
abbrev eEq8 : List (Nat × Sm) := [eM 55 [.R 4, .R 4] (rEq c4 ie)]
theorem e2Eq_run : Run2 Try.prog (look (eEq8 ie)) 1 Try.f30 (.R 8) (.R 8) c8 c8 (fun x y => and2 (ie x.p y.p) (ie x.q y.q)) := fun _ _ _ _ => by kernel_rfl
abbrev eZ8 : List (Nat × Sm) := [eM 56 [.R 4] (rB iz), eM 57 [.R 4] (rB io)]
theorem e2IsZero_run : Run1 Try.prog (look (eZ8 iz io)) 1 Try.f31 (.R 8) c8 (fun x => and2 (iz x.p) (iz x.q)) := fun _ _ => by kernel_rfl
theorem e2IsOne_run : Run1 Try.prog (look (eZ8 iz io)) 1 Try.f32 (.R 8) c8 (fun x => and2 (io x.p) (iz x.q)) := fun _ _ => by kernel_rfl
abbrev eI2Eq : List (Nat × Sm) := [eM 30 [.R 8, .R 8] (rEq c8 ie8), eV 29 [.V] rSame8]
theorem i2Eq_run : Run2 Try.prog (look (eI2Eq ie8)) 1 Try.f10 .V .V c8.agg c8.agg (fun x y => sBool (ie8 x y) True) := fun _ _ _ _ => by kernel_rfl
abbrev eI2Z : List (Nat × Sm) := [eM 31 [.R 8] (rBn c8 iz8), eM 32 [.R 8] (rBn c8 io8), eV 29 [.V] rSame8]
theorem i2Z_run : Run1 Try.prog (look (eI2Z iz8 io8)) 1 Try.f11 .V c8.agg (fun x => sBool (iz8 x) True) := fun _ _ => by kernel_rfl
theorem i2O_run : Run1 Try.prog (look (eI2Z iz8 io8)) 1 Try.f12 .V c8.agg (fun x => sBool (io8 x) True) := fun _ _ => by kernel_rfl
end
def isE8 (x y : L8) : Bool := isE x.p y.p && isE x.q y.q
def isZ8 (x : L8) : Bool := isZ x.p && isZ x.q
def isO8 (x : L8) : Bool := isE x.p one4 && isZ x.q
theorem ac_e2Eq : AC Try.prog 30 [.R 8, .R 8] (rEq c8 isE8) :=
  ac_of_run (fn := Try.f30) (look_ok (eEq8 isE) (env_M ac_fpEq env_nil)) follows (by kernel_rfl) rfl
    (run2 c8_sound c8_sound rfl (e2Eq_run isE) fun _ _ _ _ => ⟨res_val trivial, fun _ => and2_sees _ _⟩)
theorem ac_e2IsZero : AC Try.prog 31 [.R 8] (rBn c8 isZ8) :=
  ac_of_run (fn := Try.f31) (look_ok (eZ8 isZ fun x => isE x one4) (env_M ac_fpIsZero (env_M ac_fpIsOne env_nil))) follows (by kernel_rfl) rfl
    (run1 c8_sound rfl (e2IsZero_run _ _) fun _ _ => ⟨res_val trivial, fun _ => and2_sees _ _⟩)
theorem ac_e2IsOne : AC Try.prog 32 [.R 8] (rBn c8 isO8) :=
  ac_of_run (fn := Try.f32) (look_ok (eZ8 isZ fun x => isE x one4) (env_M ac_fpIsZero (env_M ac_fpIsOne env_nil))) follows (by kernel_rfl) rfl
    (run1 c8_sound rfl (e2IsOne_run _ _) fun _ _ => ⟨res_val trivial, fun _ => and2_sees _ _⟩)
theorem ac_i2Eq : AC Try.prog 10 [.V, .V] (rEq c8.agg isE8) :=
  ac_of_run (fn := Try.f10) (look_ok (eI2Eq isE8) (env_M ac_e2Eq (env_V ac_made2 env_nil))) follows (by kernel_rfl) rfl
    (run2 c8a c8a rfl (i2Eq_run _) fun _ _ _ _ => ⟨res_val trivial, fun _ => .mk' trivial rfl rfl⟩)
theorem ac_i2Z : AC Try.prog 11 [.V] (rVB8 isZ8) :=
  ac_of_run (fn := Try.f11) (look_ok (eI2Z isZ8 isO8) (env_M ac_e2IsZero (env_M ac_e2IsOne (env_V ac_made2 env_nil)))) follows (by kernel_rfl) rfl
    (run1 c8a rfl (i2Z_run _ _) fun _ _ => ⟨res_val trivial, fun _ => .mk' trivial rfl rfl⟩)
theorem ac_i2O : AC Try.prog 12 [.V] (rVB8 isO8) :=
  ac_of_run (fn := Try.f12) (look_ok (eI2Z isZ8 isO8) (env_M ac_e2IsZero (env_M ac_e2IsOne (env_V ac_made2 env_nil)))) follows (by kernel_rfl) rfl
    (run1 c8a rfl (i2O_run _ _) fun _ _ => ⟨res_val trivial, fun _ => .mk' trivial rfl rfl⟩)

/-! ### Times 2^256 -/
abbrev eUpW (op : L4 → L4 → L4 → L4) (φ : L4 → L4 → L4 → Prop) : List (Nat × Sm) :=
  [eM 58 [.S 4, .S 4] (rShift op φ), eM 39 [] rPrime, eM 37 [.S 4] rWord]
theorem upW_run (op : L4 → L4 → L4 → L4) (φ : L4 → L4 → L4 → Prop) : Run1 Try.prog (look (eUpW op φ)) 1 Try.f33 .V c4.agg (fun x => sVal c4 (shO op qL x 256) (True ∧ shQ op φ qL x 256)) := fun _ _ => by kernel_rfl
def o_upW (x : L4) : L4 := shO addm qL x 256
def p_upW (x : L4) : Prop := True ∧ shQ addm lowm qL x 256
theorem ac_upW : AC Try.prog 33 [.V] (rV c4 c4 o_upW p_upW) :=
  mkV (fn := Try.f33) (look_ok (eUpW addm lowm) (env_M ac_Shifted (env_M ac_Prime (env_M ac_word env_nil)))) follows (by kernel_rfl) rfl G4 G4 (fun x hx => shO_ok hx 256) (upW_run addm lowm)
abbrev eUp2 (o : L4 → L4) (p : L4 → Prop) : List (Nat × Sm) := [eV 33 [.V] (rV c4 c4 o p)]
theorem up2_run (o : L4 → L4) (p : L4 → Prop) : Run1 Try.prog (look (eUp2 o p)) 1 Try.f13 .V c8.agg (fun x => sVal c8 ⟨o x.p, o x.q⟩ ((True ∧ p x.p) ∧ p x.q)) := fun _ _ => by kernel_rfl
def o_up2 (x : L8) : L8 := ⟨o_upW x.p, o_upW x.q⟩
def p_up2 (x : L8) : Prop := (True ∧ p_upW x.p) ∧ p_upW x.q
theorem ac_up2 : AC Try.prog 13 [.V] (rV c8 c8 o_up2 p_up2) :=
  mkV (fn := Try.f13) (look_ok (eUp2 o_upW p_upW) (env_V ac_upW env_nil)) follows (by kernel_rfl) rfl G8 G8 (fun x hx => ⟨shO_ok hx.p 256, shO_ok hx.q 256⟩) (up2_run _ _)
def u8 : L8 := ⟨⟨1, 0, 0, 0⟩, z4⟩
theorem u8_ok : u8.ok := ⟨⟨⟨by decide, by decide⟩, ⟨by decide, by decide⟩, ⟨by decide, by decide⟩, ⟨by decide, by decide⟩⟩, z4_ok⟩
def rU8 : Gf := g0 ([], .val (avC c8 u8), none)
theorem one2_run : runs Try.prog (look []) 1 Try.f14 [] [] [] [] = sVal c8 u8 True := by kernel_rfl
theorem ac_one2 : AC Try.prog 14 [] rU8 :=
  ac_of_run (fn := Try.f14) (look_ok [] env_nil) follows (by kernel_rfl) rfl
    (runOK0 (res_val (G8.val u8_ok)) fun _ => ⟨1, by rw [one2_run]; exact .mk' trivial rfl rfl⟩)

/-! ### What it comes to -/
theorem addm_lt' (x y : L4) : lt4 (addm qL x y) := mod_lt _
theorem sh_facts {x : L4} (hx : x.ok) (h : lt4 x) : ∀ n, lt4 (shO addm qL x n) ∧ shQ addm lowm qL x n ∧ (shO addm qL x n).v = (2 ^ n * x.v) % 21888242871839275222246405745257275088696311157297823662689037894645226208583
  | 0 => ⟨h, trivial, by
      have h1 := (v_bd hx).1
      have h2 : x.v < qL.v := h
      rw [qL_v] at h2
      show x.v = _
      rw [Int.pow_zero, Int.one_mul, Int.emod_eq_of_lt h1 h2]⟩
  | n + 1 => by
    obtain ⟨h1, h2, h3⟩ := sh_facts hx h n
    refine ⟨addm_lt' _ _, ⟨h2, h1, h1⟩, ?_⟩
    show (addm qL (shO addm qL x n) (shO addm qL x n)).v = _
    have hv : (addm qL (shO addm qL x n) (shO addm qL x n)).v = ((shO addm qL x n).v + (shO addm qL x n).v) % 21888242871839275222246405745257275088696311157297823662689037894645226208583 := by
      have b := v_bd (shO_ok (m := qL) hx n)
      unfold addm; rw [v_lim', qL_v]; omega
    rw [hv, h3, Int.pow_succ, Int.mul_comm (2 ^ n) 2, Int.mul_assoc]
    generalize 2 ^ n * x.v = k
    omega
theorem up_one : o_upW ⟨1, 0, 0, 0⟩ = one4 := by
  have ok1 : (⟨1, 0, 0, 0⟩ : L4).ok := u8_ok.p
  have lt1 : lt4 ⟨1, 0, 0, 0⟩ := by unfold lt4; rw [qL_v]; decide
  refine v_inj (shO_ok ok1 256) one4_ok ?_
  show (shO addm qL _ 256).v = _
  rw [(sh_facts ok1 lt1 256).2.2]
  decide
theorem up_zero : o_upW z4 = z4 := by
  refine v_inj (shO_ok z4_ok 256) z4_ok ?_
  show (shO addm qL _ 256).v = _
  rw [(sh_facts z4_ok z4_lt 256).2.2, z4_v]
  decide
theorem isZ_iff {x : L4} (hx : x.ok) : isZ x = true ↔ x = z4 := by
  unfold isZ
  rw [beq_iff_eq]
  exact ⟨fun h => v_inj hx z4_ok (by rw [h, z4_v]), fun h => by rw [h, z4_v]⟩
theorem l8_ext {x y : L8} : x = y ↔ x.p = y.p ∧ x.q = y.q := by
  obtain ⟨a, b⟩ := x; obtain ⟨c, d⟩ := y
  simp only [L8.mk.injEq]
theorem isE8_eq {x y : L8} (hx : x.ok) (hy : y.ok) : isE8 x y = eq8 x y := by
  rw [Bool.eq_iff_iff, eq8_iff, isE8, Bool.and_eq_true, isE_iff hx.p hy.p, isE_iff hx.q hy.q, ← l8_ext]
theorem isZ8_eq {x : L8} (hx : x.ok) : isZ8 x = eq8 x z8 := by
  rw [Bool.eq_iff_iff, eq8_iff, isZ8, Bool.and_eq_true, isZ_iff hx.p, isZ_iff hx.q, l8_ext]; rfl
theorem isO8_eq {x : L8} (hx : x.ok) : isO8 x = eq8 x (o_up2 u8) := by
  have e : o_up2 u8 = ⟨one4, z4⟩ := by
    show (⟨o_upW ⟨1, 0, 0, 0⟩, o_upW z4⟩ : L8) = _
    rw [up_one, up_zero]
  rw [e, Bool.eq_iff_iff, eq8_iff, isO8, Bool.and_eq_true, isE_iff hx.p one4_ok, isZ_iff hx.q, l8_ext]
theorem up2_vc : p_up2 u8 := by
  have lt1 : lt4 ⟨1, 0, 0, 0⟩ := by unfold lt4; rw [qL_v]; decide
  exact ⟨⟨trivial, ⟨trivial, (sh_facts u8_ok.p lt1 256).2.1⟩⟩, ⟨trivial, (sh_facts z4_ok z4_lt 256).2.1⟩⟩
end Go.Proofs.Ytbbifiogcpcpfaa
