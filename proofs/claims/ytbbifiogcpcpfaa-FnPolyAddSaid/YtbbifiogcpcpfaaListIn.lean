/-
  Lists as they lie in a world; how a call on one list begins.
-/
import Derived.Test.YtbbifiogcpcpfaaList
import Derived.Test.YtbbifiogcpcpfaaLaw
namespace Go.Proofs.Ytbbifiogcpcpfaa
open Vm

theorem locK_one (r : Nat) (f : Bool) (b o : Nat) (ks : Keep) (loc : List (Nat × Nat × Nat)) (h : (r, b, o) ∈ loc) : LocK ((r, r, f) :: ks) loc [(r, b, o)] := fun q b' o' hq => by
  simp only [List.mem_cons, Prod.mk.injEq, List.not_mem_nil, or_false] at hq
  obtain ⟨rfl, rfl, rfl⟩ := hq
  exact ⟨_, f, by simp, h⟩
theorem lenI_of {n : Nat} (h : n ≤ 9223372036854775807) (i : Int) (hi : i < n) : decide (i < lenI n) = true := decide_eq_true (by rw [lenI_eq h]; exact hi)
theorem lenI_not {n : Nat} (h : n ≤ 9223372036854775807) (i : Int) (hi : ¬ i < n) : decide (i < lenI n) = false := decide_eq_false (by rw [lenI_eq h]; exact hi)
/-- A list, as it lies in a world. -/
def ListIn (w : World) (b o : Nat) (xs : List L4) : Prop := ∀ (i : Nat) v, (flatL xs)[i]? = some v → w.cell? ⟨b, o + i, none⟩ = some v
theorem start_L {nt : Nat} {xs : List L4} (hx : okL xs) {n ca b o : Nat} {w : World} (h : ListIn w b o xs) :
    TSim w (fun _ _ => False) ⟨[slc nt n ca].map some ++ List.replicate (nt - 1) none, hpA nt [(b, o, false, flatL xs)], [(nt, b, o)]⟩
      { tmps := ([slc nt n ca].map (ren (rhoA nt [(b, o, false, flatL xs)]))).toArray ++ Array.replicate (nt - 1) undef, defers := [] } w :=
  start_gen (nt := nt) (vs := [slc nt n ca]) (rs := [(b, o, false, flatL xs)])
    (fun v hv => by
      simp only [List.mem_cons, List.not_mem_nil, or_false] at hv
      subst hv
      exact ⟨rfl, hpA_pres (j := 0) (by simp)⟩)
    (fun j b' o' f cs hj => by
      cases j with
      | succ j => simp at hj
      | zero =>
        simp only [List.getElem?_cons_zero, Option.some.injEq, Prod.mk.injEq] at hj
        obtain ⟨rfl, rfl, rfl, rfl⟩ := hj
        refine ⟨flatL_ok0 hx _, fun i v hi => ?_⟩
        rw [flatL_flat xs v (List.mem_of_getElem? hi)]
        exact h i v hi)
    (fun j b' o' cs hj => by
      cases j with
      | succ j => simp at hj
      | zero => simp at hj)
    (fun j j' b1 o1 b2 o2 f f' c1 c2 hne h1 h2 => by
      cases j <;> cases j' <;> simp at h1 h2
      exact absurd rfl hne)
    (fun q b' o' hq => by
      simp only [List.mem_cons, Prod.mk.injEq, List.not_mem_nil, or_false] at hq
      obtain ⟨rfl, rfl, rfl⟩ := hq
      exact ⟨0, _, _, rfl, rfl⟩)
end Go.Proofs.Ytbbifiogcpcpfaa
