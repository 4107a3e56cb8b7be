/-
  From kernel runs to contracts, by how many parameters there are.
-/
import Derived.Test.YtbbifiogcpcpfaaDoorNum
namespace Go.Proofs.YtbbifiogcpcpfaaDoor
open Vm
variable {P : Program} {E : Env} {fn : Func}

def runs (P : Program) (E : Env) (n : Nat) (fn : Func) (ks : List PK) (as : Al) (cs : List (List Value)) (caps : List Nat) : Option Seen :=
  frunQ P E n fn ks (vargs fn.ntmps 0 ks as cs caps) (pad fn.ntmps (vregs ks as cs))
def resOK (r : Res) : Prop := (∀ n ∈ r.1, ∀ u ∈ n, ok0 [] u) ∧ RVok r.2.1
def inOK (cs : List Value) : Prop := ∀ u ∈ cs, ok2 [] u

theorem runOK0 {F : Res} (hF : resOK F) (h : Vm.due F.2.2 → ∃ n, Sees F.1 F.2.1 (runs P E n fn [] [] [] [])) : RunOK P E fn [] (g0 F) :=
  runOK_of fun cs news rv φ hg hl hok => by
    obtain ⟨rfl, he⟩ := g0_some hg
    subst he
    refine ⟨hF, fun hd as has hsame caps hcaps => ?_⟩
    simp only [alsOf, List.mem_cons, List.not_mem_nil, or_false] at has
    subst has
    obtain rfl := List.eq_nil_of_length_eq_zero hcaps
    exact h hd
theorem runOK1 {α : Type} {A : Cod α} (hA : A.sound) {k1 : PK} {F : α → Res}
    (h : ∀ x, inOK (A.cells x) → resOK (F x) ∧ (Vm.due (F x).2.2 → ∀ as ∈ alsOf [k1] [k1], alSame [A.cells x] as [A.cells x] → ∀ c1, ∃ n, Sees (F x).1 (F x).2.1 (runs P E n fn [k1] as [A.cells x] [c1]))) :
    RunOK P E fn [k1] (g1 A F) :=
  runOK_of fun cs news rv φ hg hl hok => by
    obtain ⟨x, rfl, he⟩ := g1_some hA hg
    obtain ⟨h1, h2⟩ := h x (hok _ (by simp))
    rw [← he] at h1 h2
    refine ⟨h1, fun hd as has hsame caps hcaps => ?_⟩
    match caps, hcaps with
    | [c1], _ => exact h2 hd as has hsame c1
theorem runOK2 {α β : Type} {A : Cod α} {B : Cod β} (hA : A.sound) (hB : B.sound) {k1 k2 : PK} {F : α → β → Res}
    (h : ∀ x y, inOK (A.cells x) → inOK (B.cells y) → resOK (F x y) ∧ (Vm.due (F x y).2.2 → ∀ as ∈ alsOf [k1, k2] [k1, k2], alSame [A.cells x, B.cells y] as [A.cells x, B.cells y] →
      ∀ c1 c2, ∃ n, Sees (F x y).1 (F x y).2.1 (runs P E n fn [k1, k2] as [A.cells x, B.cells y] [c1, c2]))) :
    RunOK P E fn [k1, k2] (g2 A B F) :=
  runOK_of fun cs news rv φ hg hl hok => by
    obtain ⟨x, y, rfl, he⟩ := g2_some hA hB hg
    obtain ⟨h1, h2⟩ := h x y (hok _ (by simp)) (hok _ (by simp))
    rw [← he] at h1 h2
    refine ⟨h1, fun hd as has hsame caps hcaps => ?_⟩
    match caps, hcaps with
    | [c1, c2], _ => exact h2 hd as has hsame c1 c2
theorem runOK3 {α β γ : Type} {A : Cod α} {B : Cod β} {C : Cod γ} (hA : A.sound) (hB : B.sound) (hC : C.sound) {k1 k2 k3 : PK} {F : α → β → γ → Res}
    (h : ∀ x y z, inOK (A.cells x) → inOK (B.cells y) → inOK (C.cells z) → resOK (F x y z) ∧ (Vm.due (F x y z).2.2 → ∀ as ∈ alsOf [k1, k2, k3] [k1, k2, k3],
      alSame [A.cells x, B.cells y, C.cells z] as [A.cells x, B.cells y, C.cells z] →
      ∀ c1 c2 c3, ∃ n, Sees (F x y z).1 (F x y z).2.1 (runs P E n fn [k1, k2, k3] as [A.cells x, B.cells y, C.cells z] [c1, c2, c3]))) :
    RunOK P E fn [k1, k2, k3] (g3 A B C F) :=
  runOK_of fun cs news rv φ hg hl hok => by
    obtain ⟨x, y, z, rfl, he⟩ := g3_some hA hB hC hg
    obtain ⟨h1, h2⟩ := h x y z (hok _ (by simp)) (hok _ (by simp)) (hok _ (by simp))
    rw [← he] at h1 h2
    refine ⟨h1, fun hd as has hsame caps hcaps => ?_⟩
    match caps, hcaps with
    | [c1, c2, c3], _ => exact h2 hd as has hsame c1 c2 c3
theorem runOK4 {α β γ δ : Type} {A : Cod α} {B : Cod β} {C : Cod γ} {D : Cod δ} (hA : A.sound) (hB : B.sound) (hC : C.sound) (hD : D.sound) {k1 k2 k3 k4 : PK} {F : α → β → γ → δ → Res}
    (h : ∀ x y z u, inOK (A.cells x) → inOK (B.cells y) → inOK (C.cells z) → inOK (D.cells u) → resOK (F x y z u) ∧ (Vm.due (F x y z u).2.2 → ∀ as ∈ alsOf [k1, k2, k3, k4] [k1, k2, k3, k4],
      alSame [A.cells x, B.cells y, C.cells z, D.cells u] as [A.cells x, B.cells y, C.cells z, D.cells u] →
      ∀ c1 c2 c3 c4, ∃ n, Sees (F x y z u).1 (F x y z u).2.1 (runs P E n fn [k1, k2, k3, k4] as [A.cells x, B.cells y, C.cells z, D.cells u] [c1, c2, c3, c4]))) :
    RunOK P E fn [k1, k2, k3, k4] (g4 A B C D F) :=
  runOK_of fun cs news rv φ hg hl hok => by
    obtain ⟨x, y, z, u, rfl, he⟩ := g4_some hA hB hC hD hg
    obtain ⟨h1, h2⟩ := h x y z u (hok _ (by simp)) (hok _ (by simp)) (hok _ (by simp)) (hok _ (by simp))
    rw [← he] at h1 h2
    refine ⟨h1, fun hd as has hsame caps hcaps => ?_⟩
    match caps, hcaps with
    | [c1, c2, c3, c4], _ => exact h2 hd as has hsame c1 c2 c3 c4

theorem sees_of {news : List (List Value)} {rv : RV} {a b : Option Seen} (e : a = b) (h : Sees news rv b) : Sees news rv a := e ▸ h

/-! ### No parameter is read and written -/
theorem one_V {k : PK} (h : alsOf [k] [k] = [[none]]) {as : Al} (ha : as ∈ alsOf [k] [k]) : as = [none] := by rw [h] at ha; simpa using ha

theorem res_val {v : Value} {φ : Option Prop} (h : ok2 [] v) : resOK ([], .val v, φ) := ⟨fun n hn => by simp at hn, h⟩
theorem res_same {cs : List Value} {j : Nat} {φ : Option Prop} (h : ∀ u ∈ cs, ok0 [] u) : resOK ([cs], .same j, φ) := ⟨fun n hn => by simp only [List.mem_cons, List.not_mem_nil, or_false] at hn; subst hn; exact h, trivial⟩
theorem res_upd {cs : List Value} {v : Value} {φ : Option Prop} (h : ∀ u ∈ cs, ok0 [] u) (hv : ok2 [] v) : resOK ([cs], .val v, φ) := ⟨fun n hn => by simp only [List.mem_cons, List.not_mem_nil, or_false] at hn; subst hn; exact h, hv⟩
theorem res_fresh {cs vs : List Value} {φ : Option Prop} (h : ∀ u ∈ cs, ok0 [] u) (hv : ∀ u ∈ vs, ok0 [] u) : resOK ([], .fresh cs vs, φ) := ⟨fun n hn => by simp at hn, h, hv⟩
theorem bool_ok (b : Bool) : ok2 [] (.bool b) := trivial
theorem unit_ok : ok2 [] (.tuple #[]) := fun u hu => by simp at hu
end Go.Proofs.YtbbifiogcpcpfaaDoor
