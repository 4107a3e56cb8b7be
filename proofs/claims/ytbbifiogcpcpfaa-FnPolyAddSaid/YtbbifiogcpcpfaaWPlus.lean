/-
  spec.plus and spec.lessen, of four words each: sum and carry, difference and what is owed.
-/
import Derived.Test.YtbbifiogcpcpfaaWLess
namespace Go.Proofs.Ytbbifiogcpcpfaa
open Vm

def pstep (x y c : Int) (K : Int → Int → Option Seen) : Option Seen :=
  match decide (IntKind.u64.wrap (x + c) < c) with
  | true => K (IntKind.u64.wrap (IntKind.u64.wrap (x + c) + y)) 1
  | false => match decide (IntKind.u64.wrap (IntKind.u64.wrap (x + c) + y) < IntKind.u64.wrap (x + c)) with
    | true => K (IntKind.u64.wrap (IntKind.u64.wrap (x + c) + y)) 1
    | false => K (IntKind.u64.wrap (IntKind.u64.wrap (x + c) + y)) 0
def plusT (x y : L4) : Option Seen :=
  pstep x.a y.a 0 fun s0 k0 => pstep x.b y.b k0 fun s1 k1 => pstep x.c y.c k1 fun s2 k2 => pstep x.d y.d k2 fun s3 k3 =>
    some ⟨[], .fresh [.int .u64 s0, .int .u64 s1, .int .u64 s2, .int .u64 s3] [.bool (k3 == 1)], True⟩
theorem plus_run (x y : L4) (c1 c2 : Nat) :
    runs Try.prog (look []) 8 Try.f66 [.S 4, .S 4] [none, none] [x.cells, y.cells] [c1, c2] = plusT x y := by kernel_rfl

def lstep (x y c : Int) (K : Int → Int → Option Seen) : Option Seen :=
  match decide (x < c) with
  | true => K (IntKind.u64.wrap (IntKind.u64.wrap (x - c) - y)) 1
  | false => match decide (IntKind.u64.wrap (x - c) < y) with
    | true => K (IntKind.u64.wrap (IntKind.u64.wrap (x - c) - y)) 1
    | false => K (IntKind.u64.wrap (IntKind.u64.wrap (x - c) - y)) 0
def lessenT (x y : L4) : Option Seen :=
  lstep x.a y.a 0 fun s0 k0 => lstep x.b y.b k0 fun s1 k1 => lstep x.c y.c k1 fun s2 k2 => lstep x.d y.d k2 fun s3 k3 =>
    some ⟨[], .fresh [.int .u64 s0, .int .u64 s1, .int .u64 s2, .int .u64 s3] [.bool (k3 == 1)], True⟩
theorem lessen_run (x y : L4) (c1 c2 : Nat) :
    runs Try.prog (look []) 8 Try.f65 [.S 4, .S 4] [none, none] [x.cells, y.cells] [c1, c2] = lessenT x y := by kernel_rfl

theorem pstep_eq {x y c : Int} (hx : wordOK x) (hy : wordOK y) (hc : c = 0 ∨ c = 1) (K : Int → Int → Option Seen) :
    ∃ s k, pstep x y c K = K s k ∧ wordOK s ∧ (k = 0 ∨ k = 1) ∧ s + 18446744073709551616 * k = x + y + c := by
  obtain ⟨hx0, hx1⟩ := hx
  obtain ⟨hy0, hy1⟩ := hy
  have e : IntKind.u64.wrap (IntKind.u64.wrap (x + c) + y) = (x + y + c) % 18446744073709551616 := by simp only [IntKind.wrap_u64]; omega
  have e' : IntKind.u64.wrap (x + c) = (x + c) % 18446744073709551616 := IntKind.wrap_u64 _
  unfold pstep
  rw [e, e']
  split
  · rename_i h
    simp only [decide_eq_true_eq] at h
    exact ⟨_, _, rfl, ⟨by omega, by omega⟩, .inr rfl, by omega⟩
  · rename_i h
    simp only [decide_eq_false_iff_not] at h
    split
    · rename_i h2
      simp only [decide_eq_true_eq] at h2
      exact ⟨_, _, rfl, ⟨by omega, by omega⟩, .inr rfl, by omega⟩
    · rename_i h2
      simp only [decide_eq_false_iff_not] at h2
      exact ⟨_, _, rfl, ⟨by omega, by omega⟩, .inl rfl, by omega⟩
theorem lstep_eq {x y c : Int} (hx : wordOK x) (hy : wordOK y) (hc : c = 0 ∨ c = 1) (K : Int → Int → Option Seen) :
    ∃ s k, lstep x y c K = K s k ∧ wordOK s ∧ (k = 0 ∨ k = 1) ∧ s - 18446744073709551616 * k = x - y - c := by
  obtain ⟨hx0, hx1⟩ := hx
  obtain ⟨hy0, hy1⟩ := hy
  have e : IntKind.u64.wrap (IntKind.u64.wrap (x - c) - y) = (x - y - c) % 18446744073709551616 := by simp only [IntKind.wrap_u64]; omega
  have e' : IntKind.u64.wrap (x - c) = (x - c) % 18446744073709551616 := IntKind.wrap_u64 _
  unfold lstep
  rw [e, e']
  split
  · rename_i h
    simp only [decide_eq_true_eq] at h
    exact ⟨_, _, rfl, ⟨by omega, by omega⟩, .inr rfl, by omega⟩
  · rename_i h
    simp only [decide_eq_false_iff_not] at h
    split
    · rename_i h2
      simp only [decide_eq_true_eq] at h2
      exact ⟨_, _, rfl, ⟨by omega, by omega⟩, .inr rfl, by omega⟩
    · rename_i h2
      simp only [decide_eq_false_iff_not] at h2
      exact ⟨_, _, rfl, ⟨by omega, by omega⟩, .inl rfl, by omega⟩

def addw (x y : L4) : L4 := lim (x.v + y.v)
def addc (x y : L4) : Bool := decide (115792089237316195423570985008687907853269984665640564039457584007913129639936 ≤ x.v + y.v)
def subw (x y : L4) : L4 := lim (x.v - y.v)
def subc (x y : L4) : Bool := decide (x.v < y.v)
theorem v_lim' (n : Int) : (lim n).v = n % 115792089237316195423570985008687907853269984665640564039457584007913129639936 := by
  simp only [L4.v, lim]; omega
theorem cells_eq {s0 s1 s2 s3 n : Int} (h0 : wordOK s0) (h1 : wordOK s1) (h2 : wordOK s2) (h3 : wordOK s3)
    (h : (s0 + 18446744073709551616 * s1 + 340282366920938463463374607431768211456 * s2 + 6277101735386680763835789423207666416102355444464034512896 * s3) % 115792089237316195423570985008687907853269984665640564039457584007913129639936 =
      n % 115792089237316195423570985008687907853269984665640564039457584007913129639936) :
    [Value.int .u64 s0, .int .u64 s1, .int .u64 s2, .int .u64 s3] = (lim n).cells := by
  have hx : (⟨s0, s1, s2, s3⟩ : L4).ok := ⟨h0, h1, h2, h3⟩
  have hb := v_bd hx
  have : (⟨s0, s1, s2, s3⟩ : L4) = lim n := v_inj hx (lim_ok n) (by rw [v_lim', ← h]; simp only [L4.v] at hb ⊢; omega)
  rw [← this]; rfl
theorem bit_eq {n : Int} {b : Bool} (h : n = 1 ↔ b = true) : (n == 1) = b := by
  cases b with
  | true => simpa using h
  | false => simpa using h
theorem plusT_eq {x y : L4} (hx : x.ok) (hy : y.ok) : plusT x y = some ⟨[], .fresh (addw x y).cells [.bool (addc x y)], True⟩ := by
  unfold plusT
  obtain ⟨s0, k0, e0, o0, b0, l0⟩ := pstep_eq hx.a hy.a (.inl rfl) fun s0 k0 => pstep x.b y.b k0 fun s1 k1 => pstep x.c y.c k1 fun s2 k2 => pstep x.d y.d k2 fun s3 k3 =>
    some ⟨[], .fresh [.int .u64 s0, .int .u64 s1, .int .u64 s2, .int .u64 s3] [.bool (k3 == 1)], True⟩
  rw [e0]
  obtain ⟨s1, k1, e1, o1, b1, l1⟩ := pstep_eq hx.b hy.b b0 fun s1 k1 => pstep x.c y.c k1 fun s2 k2 => pstep x.d y.d k2 fun s3 k3 =>
    some ⟨[], .fresh [.int .u64 s0, .int .u64 s1, .int .u64 s2, .int .u64 s3] [.bool (k3 == 1)], True⟩
  rw [e1]
  obtain ⟨s2, k2, e2, o2, b2, l2⟩ := pstep_eq hx.c hy.c b1 fun s2 k2 => pstep x.d y.d k2 fun s3 k3 =>
    some ⟨[], .fresh [.int .u64 s0, .int .u64 s1, .int .u64 s2, .int .u64 s3] [.bool (k3 == 1)], True⟩
  rw [e2]
  obtain ⟨s3, k3, e3, o3, b3, l3⟩ := pstep_eq hx.d hy.d b2 fun s3 k3 =>
    some ⟨[], .fresh [.int .u64 s0, .int .u64 s1, .int .u64 s2, .int .u64 s3] [.bool (k3 == 1)], True⟩
  rw [e3, cells_eq o0 o1 o2 o3 (n := x.v + y.v), bit_eq (b := addc x y)]
  · rfl
  · obtain ⟨_, _⟩ := o0
    obtain ⟨_, _⟩ := o1
    obtain ⟨_, _⟩ := o2
    obtain ⟨_, _⟩ := o3
    rw [show (addc x y = true) = (_ ≤ _) from propext decide_eq_true_iff]; simp only [L4.v]; omega
  · simp only [L4.v]; omega
theorem lessenT_eq {x y : L4} (hx : x.ok) (hy : y.ok) : lessenT x y = some ⟨[], .fresh (subw x y).cells [.bool (subc x y)], True⟩ := by
  unfold lessenT
  obtain ⟨s0, k0, e0, o0, b0, l0⟩ := lstep_eq hx.a hy.a (.inl rfl) fun s0 k0 => lstep x.b y.b k0 fun s1 k1 => lstep x.c y.c k1 fun s2 k2 => lstep x.d y.d k2 fun s3 k3 =>
    some ⟨[], .fresh [.int .u64 s0, .int .u64 s1, .int .u64 s2, .int .u64 s3] [.bool (k3 == 1)], True⟩
  rw [e0]
  obtain ⟨s1, k1, e1, o1, b1, l1⟩ := lstep_eq hx.b hy.b b0 fun s1 k1 => lstep x.c y.c k1 fun s2 k2 => lstep x.d y.d k2 fun s3 k3 =>
    some ⟨[], .fresh [.int .u64 s0, .int .u64 s1, .int .u64 s2, .int .u64 s3] [.bool (k3 == 1)], True⟩
  rw [e1]
  obtain ⟨s2, k2, e2, o2, b2, l2⟩ := lstep_eq hx.c hy.c b1 fun s2 k2 => lstep x.d y.d k2 fun s3 k3 =>
    some ⟨[], .fresh [.int .u64 s0, .int .u64 s1, .int .u64 s2, .int .u64 s3] [.bool (k3 == 1)], True⟩
  rw [e2]
  obtain ⟨s3, k3, e3, o3, b3, l3⟩ := lstep_eq hx.d hy.d b2 fun s3 k3 =>
    some ⟨[], .fresh [.int .u64 s0, .int .u64 s1, .int .u64 s2, .int .u64 s3] [.bool (k3 == 1)], True⟩
  rw [e3, cells_eq o0 o1 o2 o3 (n := x.v - y.v), bit_eq (b := subc x y)]
  · rfl
  · obtain ⟨_, _⟩ := o0
    obtain ⟨_, _⟩ := o1
    obtain ⟨_, _⟩ := o2
    obtain ⟨_, _⟩ := o3
    rw [show (subc x y = true) = (_ < _) from propext decide_eq_true_iff]; simp only [L4.v]; omega
  · simp only [L4.v]; omega

def kSS : List PK := [.S 4, .S 4]
def rWB (f : L4 → L4 → L4) (b : L4 → L4 → Bool) : Gf := g2 c4 c4 fun x y => ([], .fresh (f x y).cells [.bool (b x y)], none)
theorem bool0_ok (b : Bool) : ∀ u ∈ [Value.bool b], ok0 [] u := fun u hu => by simp at hu; subst hu; trivial
theorem ac_plus : AC Try.prog 66 kSS (rWB addw addc) := by
  refine ac_of_run (E := look []) (fn := Try.f66) (look_ok [] env_nil) follows (by kernel_rfl) rfl (runOK2 c4_sound c4_sound fun x y hx hy =>
    ⟨res_fresh (ok4.2 (lim_ok _)) (bool0_ok _), fun _ al has _ c1 c2 => ⟨8, ?_⟩⟩)
  rw [show alsOf [PK.S 4, PK.S 4] [PK.S 4, PK.S 4] = [[none, none]] from rfl, List.mem_singleton] at has
  subst has
  show Sees [] _ (runs _ _ _ _ _ _ [x.cells, y.cells] _)
  rw [plus_run, plusT_eq (in4 hx) (in4 hy)]
  exact .mk' trivial rfl rfl
theorem ac_lessen : AC Try.prog 65 kSS (rWB subw subc) := by
  refine ac_of_run (E := look []) (fn := Try.f65) (look_ok [] env_nil) follows (by kernel_rfl) rfl (runOK2 c4_sound c4_sound fun x y hx hy =>
    ⟨res_fresh (ok4.2 (lim_ok _)) (bool0_ok _), fun _ al has _ c1 c2 => ⟨8, ?_⟩⟩)
  rw [show alsOf [PK.S 4, PK.S 4] [PK.S 4, PK.S 4] = [[none, none]] from rfl, List.mem_singleton] at has
  subst has
  show Sees [] _ (runs _ _ _ _ _ _ [x.cells, y.cells] _)
  rw [lessen_run, lessenT_eq (in4 hx) (in4 hy)]
  exact .mk' trivial rfl rfl
end Go.Proofs.Ytbbifiogcpcpfaa
