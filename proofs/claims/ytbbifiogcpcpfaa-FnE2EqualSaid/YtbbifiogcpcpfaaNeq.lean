/-
  What two numbers of four words differ in.
-/
import Derived.Test.YtbbifiogcpcpfaaFpSub
namespace Go.Proofs.Ytbbifiogcpcpfaa
open Vm

/-- What two numbers differ in. -/
def neU (x y : L4) : Int := bits .or .u64 (bits .or .u64 (bits .or .u64 (bits .xor .u64 x.d y.d) (bits .xor .u64 x.c y.c)) (bits .xor .u64 x.b y.b)) (bits .xor .u64 x.a y.a)
theorem xor_zero {a b : Int} (ha : wordOK a) (hb : wordOK b) : wordOK (bits .xor .u64 a b) ∧ (bits .xor .u64 a b = 0 ↔ a = b) := by
  obtain ⟨a0, a1⟩ := ha
  obtain ⟨b0, b1⟩ := hb
  obtain ⟨A, rfl⟩ := Int.eq_ofNat_of_zero_le a0
  obtain ⟨B, rfl⟩ := Int.eq_ofNat_of_zero_le b0
  have e := bits_xor_u64_nat A B (by omega) (by omega)
  have hlt : A ^^^ B < 2 ^ 64 := Nat.xor_lt_two_pow (by omega) (by omega)
  rw [e]
  refine ⟨⟨by omega, by omega⟩, ?_⟩
  have : A ^^^ B = 0 ↔ A = B := ⟨fun h => by
    have h2 : (A ^^^ B) ^^^ B = 0 ^^^ B := by rw [h]
    rwa [Nat.xor_assoc, Nat.xor_self, Nat.xor_zero, Nat.zero_xor] at h2, fun h => by rw [h, Nat.xor_self]⟩
  omega
theorem neU_zero {x y : L4} (hx : x.ok) (hy : y.ok) : wordOK (neU x y) ∧ (neU x y = 0 ↔ x = y) := by
  obtain ⟨a1, b1⟩ := xor_zero hx.d hy.d
  obtain ⟨a2, b2⟩ := xor_zero hx.c hy.c
  obtain ⟨a3, b3⟩ := xor_zero hx.b hy.b
  obtain ⟨a4, b4⟩ := xor_zero hx.a hy.a
  obtain ⟨c1, d1⟩ := or_zero a1 a2
  obtain ⟨c2, d2⟩ := or_zero c1 a3
  obtain ⟨c3, d3⟩ := or_zero c2 a4
  refine ⟨c3, ?_⟩
  unfold neU
  rw [d3, d2, d1, b1, b2, b3, b4]
  obtain ⟨x1, x2, x3, x4⟩ := x
  obtain ⟨y1, y2, y3, y4⟩ := y
  simp only [L4.mk.injEq]
  constructor
  · rintro ⟨⟨⟨h1, h2⟩, h3⟩, h4⟩; exact ⟨h4, h3, h2, h1⟩
  · rintro ⟨h1, h2, h3, h4⟩; exact ⟨⟨⟨h4, h3⟩, h2⟩, h1⟩
def isE (x y : L4) : Bool := neU x y == 0
theorem isE_iff {x y : L4} (hx : x.ok) (hy : y.ok) : isE x y = true ↔ x = y := by
  unfold isE; rw [beq_iff_eq]; exact (neU_zero hx hy).2
def rNe (ne : L4 → L4 → Int) : Gf := g2 c4 c4 fun x y => ([], .val (.int .u64 (ne x y)), none)
def rEq {α : Type} (C : Cod α) (f : α → α → Bool) : Gf := g2 C C fun x y => ([], .val (.bool (f x y)), none)
end Go.Proofs.Ytbbifiogcpcpfaa
