/-
  Laws that hold two structs of words against each other.
-/
import Derived.Test.YtbbifiogcpcpfaaLaw
namespace Go.Proofs.Ytbbifiogcpcpfaa
open Vm

def eq4 (x y : L4) : Bool := x.a == y.a && (x.b == y.b && (x.c == y.c && (x.d == y.d && true)))
def eq8 (x y : L8) : Bool := eq4 x.p y.p && (eq4 x.q y.q && true)
def eq24 (x y : L24) : Bool := eq8 x.p y.p && (eq8 x.q y.q && (eq8 x.r y.r && true))
def eq48 (x y : L48) : Bool := eq24 x.p y.p && (eq24 x.q y.q && true)
theorem eq4_refl (x : L4) : eq4 x x = true := by simp [eq4]
theorem eq8_refl (x : L8) : eq8 x x = true := by simp [eq8, eq4_refl]
theorem eq24_refl (x : L24) : eq24 x x = true := by simp [eq24, eq8_refl]
theorem eq48_refl (x : L48) : eq48 x x = true := by simp [eq48, eq24_refl]
theorem eq4_iff {x y : L4} : eq4 x y = true ↔ x = y := by
  obtain ⟨a, b, c, d⟩ := x; obtain ⟨a', b', c', d'⟩ := y
  simp [eq4]
theorem eq8_iff {x y : L8} : eq8 x y = true ↔ x = y := by
  obtain ⟨p, q⟩ := x; obtain ⟨p', q'⟩ := y
  simp [eq8, eq4_iff]
theorem eq24_iff {x y : L24} : eq24 x y = true ↔ x = y := by
  obtain ⟨p, q, r⟩ := x; obtain ⟨p', q', r'⟩ := y
  simp [eq24, eq8_iff]
theorem eq48_iff {x y : L48} : eq48 x y = true ↔ x = y := by
  obtain ⟨p, q⟩ := x; obtain ⟨p', q'⟩ := y
  simp [eq48, eq24_iff]
def resT : Res := ([], .val (.bool true), none)
def boolT (b : Bool) (φ : Prop) : Option Seen := some ⟨[], .val (.bool b), φ⟩
theorem resT_ok : resOK resT := res_val trivial
end Go.Proofs.Ytbbifiogcpcpfaa
