/-
  fp.Element.Select: the first of two numbers by 0, the second by others.
-/
import Derived.Test.YtglnmklofoobkaaE2Bin
import Derived.Test.YtglnmklofoobkaaGen
import Derived.Laws.Bits64b
import Derived.Laws.BitsLemmas
namespace Go.Proofs.Ytglnmklofoobkaa
open Vm

/-- All bits set where c is not 0. -/
def cc (c : Int) : Int := IntKind.u64.wrap ((bits .or .i64 c (IntKind.i64.wrap (0 - c))).fdiv (2 ^ (min (63 : Int).toNat IntKind.i64.bits)))
def selw (m a b : Int) : Int := bits .xor .u64 a (bits .and .u64 m (bits .xor .u64 a b))
def sel (m : Int) (x y : L4) : L4 := ⟨selw m x.a y.a, selw m x.b y.b, selw m x.c y.c, selw m x.d y.d⟩
theorem fpSelect_run : RunWVRR Try.prog (look []) 1 Try.f39 4 cInt c4 (fun c x y => sSame c4 (sel (cc c) x y) True) :=
  ⟨fun _ _ _ _ _ _ _ _ => by kernel_rfl, fun _ _ _ _ _ _ _ => by kernel_rfl, fun _ _ _ _ _ _ _ => by kernel_rfl, fun _ _ _ _ _ _ => by kernel_rfl⟩

theorem cc_zero : cc 0 = 0 := by decide
theorem cc_other {c : Int} (h : c ≠ 0) (h1 : -9223372036854775808 ≤ c) (h2 : c < 9223372036854775808) : cc c = 18446744073709551615 := by
  unfold cc
  obtain ⟨d, hd⟩ : ∃ d, IntKind.i64.wrap (0 - c) = d := ⟨_, rfl⟩
  rw [hd]
  rw [IntKind.wrap_i64] at hd
  have e2 : bits .or .i64 c d = IntKind.i64.wrap (((BitVec.ofInt 64 c ||| BitVec.ofInt 64 d).toNat : Nat) : Int) := rfl
  have hlt := (BitVec.ofInt 64 c ||| BitVec.ofInt 64 d).isLt
  have hge : 9223372036854775808 ≤ (BitVec.ofInt 64 c ||| BitVec.ofInt 64 d).toNat := by
    rw [BitVec.toNat_or, BitVec.toNat_ofInt, BitVec.toNat_ofInt]
    have l := Nat.left_le_or (n := (c % ((2 ^ 64 : Nat) : Int)).toNat) (m := (d % ((2 ^ 64 : Nat) : Int)).toNat)
    have r := Nat.right_le_or (n := (c % ((2 ^ 64 : Nat) : Int)).toNat) (m := (d % ((2 ^ 64 : Nat) : Int)).toNat)
    have p : ((2 ^ 64 : Nat) : Int) = 18446744073709551616 := by decide
    rw [p] at *
    rcases Int.lt_or_gt_of_ne h with hc | hc
    · refine Nat.le_trans ?_ l; omega
    · refine Nat.le_trans ?_ r; omega
  rw [e2, IntKind.wrap_i64, IntKind.wrap_u64, show (min (63 : Int).toNat IntKind.i64.bits) = 63 from rfl, show (2 : Int) ^ 63 = 9223372036854775808 from rfl, Int.fdiv_eq_ediv_of_nonneg _ (by decide)]
  omega
theorem selw_zero {a b : Int} (ha : wordOK a) (hb : wordOK b) : selw 0 a b = a := by
  obtain ⟨a0, a1⟩ := ha
  obtain ⟨b0, b1⟩ := hb
  obtain ⟨A, rfl⟩ := Int.eq_ofNat_of_zero_le a0
  obtain ⟨B, rfl⟩ := Int.eq_ofNat_of_zero_le b0
  unfold selw
  have hx : A ^^^ B < 2 ^ 64 := Nat.xor_lt_two_pow (by omega) (by omega)
  have e := bits_and_u64_nat 0 (A ^^^ B) (by omega) (by omega)
  have e' := bits_xor_u64_nat A 0 (by omega) (by omega)
  rw [Nat.zero_and] at e
  rw [Nat.xor_zero] at e'
  rw [bits_xor_u64_nat A B (by omega) (by omega)]
  exact (congrArg (bits .xor .u64 (A : Int)) e).trans e'
theorem selw_all {a b : Int} (ha : wordOK a) (hb : wordOK b) : selw 18446744073709551615 a b = b := by
  obtain ⟨a0, a1⟩ := ha
  obtain ⟨b0, b1⟩ := hb
  obtain ⟨A, rfl⟩ := Int.eq_ofNat_of_zero_le a0
  obtain ⟨B, rfl⟩ := Int.eq_ofNat_of_zero_le b0
  unfold selw
  have hx : A ^^^ B < 2 ^ 64 := Nat.xor_lt_two_pow (by omega) (by omega)
  have e := bits_and_u64_nat 18446744073709551615 (A ^^^ B) (by omega) (by omega)
  have m : 18446744073709551615 &&& (A ^^^ B) = A ^^^ B := by
    rw [Nat.and_comm, show 18446744073709551615 = 2 ^ 64 - 1 from rfl, Nat.and_two_pow_sub_one_eq_mod, Nat.mod_eq_of_lt hx]
  rw [m] at e
  rw [bits_xor_u64_nat A B (by omega) (by omega)]
  refine (congrArg (bits .xor .u64 (A : Int)) e).trans ?_
  rw [bits_xor_u64_nat A (A ^^^ B) (by omega) (by omega), ← Nat.xor_assoc, Nat.xor_self, Nat.zero_xor]
/-- The first by 0, the second by others. -/
def selm {α : Type} (c : Int) (x y : α) : α := if c = 0 then x else y
theorem sel_eq {c : Int} {x y : L4} (h1 : -9223372036854775808 ≤ c) (h2 : c < 9223372036854775808) (hx : x.ok) (hy : y.ok) : sel (cc c) x y = selm c x y := by
  unfold selm
  by_cases h : c = 0
  · rw [if_pos h, h, cc_zero]
    unfold sel
    rw [selw_zero hx.a hy.a, selw_zero hx.b hy.b, selw_zero hx.c hy.c, selw_zero hx.d hy.d]
  · rw [if_neg h, cc_other h h1 h2]
    unfold sel
    rw [selw_all hx.a hy.a, selw_all hx.b hy.b, selw_all hx.c hy.c, selw_all hx.d hy.d]
def iv (c : Int) : Value := .int .i64 c
theorem int_in {c : Int} (h : inOK (cInt.cells c)) : -9223372036854775808 ≤ c ∧ c < 9223372036854775808 := by
  have h : ok2 [] (.int .i64 c) := h (.int .i64 c) (by simp [cInt])
  have h : (-9223372036854775808 : Int) ≤ c ∧ c ≤ 9223372036854775807 := h
  omega
theorem selm_ok {α : Type} {K : α → Prop} {c : Int} {x y : α} (hx : K x) (hy : K y) : K (selm c x y) := by
  unfold selm; split
  · exact hx
  · exact hy
def rSel {α : Type} (C : Cod α) (o : Int → α → α → α) (p : Int → α → α → Prop) : Gf := g4 C cInt C C fun _ c x y => ([C.cells (o c x y)], .same 0, some (p c x y))
def noV3 {α : Type} (_ : Int) (_ _ : α) : Prop := True
theorem ac_fpSelect : AC Try.prog 39 [.W 4, .V, .R 4, .R 4] (rSel c4 selm noV3) :=
  ac_of_run (fn := Try.f39) (look_ok [] env_nil) follows (by kernel_rfl) rfl
    (runWVRR cInt_sound c4_sound i4 fpSelect_run fun c x y hc hx hy => ⟨res_same (ok4.2 (selm_ok (K := L4.ok) (in4 hx) (in4 hy))), fun _ => by
      rw [sel_eq (int_in hc).1 (int_in hc).2 (in4 hx) (in4 hy)]
      exact .mk' trivial rfl rfl⟩)

/-! ### E2.Select, impl.E2Select -/
section
variable (o : Int → L4 → L4 → L4) (o8 : Int → L8 → L8 → L8) (p : Int → L4 → L4 → Prop) (p8 : Int → L8 → L8 → Prop)
def sel8 (c : Int) (x y : L8) : L8 := ⟨o c x.p y.p, o c x.q y.q⟩
def selq (c : Int) (x y : L8) : Prop := (True ∧ p c x.p y.p) ∧ p c x.q y.q
abbrev eSel2 : List (Nat × Sm) := [eM 39 [.W 4, .V, .R 4, .R 4] (rSel c4 o p)]
theorem e2Select_run : RunWVRR Try.prog (look (eSel2 o p)) 1 Try.f25 8 cInt c8 (fun c x y => sSame c8 (sel8 o c x y) (selq p c x y)) :=
  ⟨fun _ _ _ _ _ _ _ _ => by kernel_rfl, fun _ _ _ _ _ _ _ => by kernel_rfl, fun _ _ _ _ _ _ _ => by kernel_rfl, fun _ _ _ _ _ _ => by kernel_rfl⟩
abbrev eImplSel : List (Nat × Sm) := [eM 25 [.W 8, .V, .R 8, .R 8] (rSel c8 o8 p8), eV 23 [.V] rSame8, eV 24 [.V] rSame8]
theorem implSelect_run : Run3 Try.prog (look (eImplSel o8 p8)) 1 Try.f9 .V .V .V cInt c8.agg c8.agg (fun c x y => sVal c8 (o8 c x y) (True ∧ p8 c x y)) := fun _ _ _ _ _ _ => by kernel_rfl
end
def rSelV (o : Int → L8 → L8 → L8) (p : Int → L8 → L8 → Prop) : Gf := g3 cInt c8.agg c8.agg fun c x y => ([], .val (avC c8 (o c x y)), some (p c x y))
theorem ac_e2Select : AC Try.prog 25 [.W 8, .V, .R 8, .R 8] (rSel c8 (sel8 selm) noV3) :=
  ac_of_run (fn := Try.f25) (look_ok (eSel2 selm noV3) (env_M ac_fpSelect env_nil)) follows (by kernel_rfl) rfl
    (runWVRR cInt_sound c8_sound i8 (e2Select_run _ _) fun c x y _ hx hy => ⟨res_same (ok8.2 ⟨selm_ok (K := L4.ok) (in8 hx).p (in8 hy).p, selm_ok (K := L4.ok) (in8 hx).q (in8 hy).q⟩), fun _ => .mk' ⟨⟨trivial, trivial⟩, trivial⟩ rfl rfl⟩)
theorem ac_implSelect : AC Try.prog 9 [.V, .V, .V] (rSelV (sel8 selm) noV3) :=
  ac_of_run (fn := Try.f9) (look_ok (eImplSel (sel8 selm) noV3) (env_M ac_e2Select (env_V ac_made2 (env_V ac_told2 env_nil)))) follows (by kernel_rfl) rfl
    (run3 cInt_sound c8a c8a rfl (implSelect_run _ _) fun c x y _ hx hy => ⟨res_val (G8.val ⟨selm_ok (K := L4.ok) (agg8 hx).p (agg8 hy).p, selm_ok (K := L4.ok) (agg8 hx).q (agg8 hy).q⟩), fun _ => .mk' ⟨trivial, trivial⟩ rfl rfl⟩)
end Go.Proofs.Ytglnmklofoobkaa
