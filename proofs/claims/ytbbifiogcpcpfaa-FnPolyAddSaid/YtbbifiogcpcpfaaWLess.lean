/-
  spec.LessWords, of four words each: whether the first number is below the second.
-/
import Derived.Test.YtbbifiogcpcpfaaLaw
namespace Go.Proofs.Ytbbifiogcpcpfaa
open Vm

def ltS (b : Bool) : Option Seen := some ⟨[], .val (.bool b), True⟩
def ltT (x y : L4) : Option Seen :=
  match !(x.d == y.d) with
  | true => ltS (decide (x.d < y.d))
  | false => match !(x.c == y.c) with
    | true => ltS (decide (x.c < y.c))
    | false => match !(x.b == y.b) with
      | true => ltS (decide (x.b < y.b))
      | false => match !(x.a == y.a) with
        | true => ltS (decide (x.a < y.a))
        | false => ltS false
theorem less_run (x y : L4) (c1 c2 : Nat) :
    runs Try.prog (look []) 8 Try.f45 [.S 4, .S 4] [none, none] [x.cells, y.cells] [c1, c2] = ltT x y := by kernel_rfl

def ltB (x y : L4) : Bool := decide (x.v < y.v)
theorem ltT_eq {x y : L4} (hx : x.ok) (hy : y.ok) : ltT x y = ltS (ltB x y) := by
  obtain ⟨⟨_, _⟩, ⟨_, _⟩, ⟨_, _⟩, ⟨_, _⟩⟩ := hx
  obtain ⟨⟨_, _⟩, ⟨_, _⟩, ⟨_, _⟩, ⟨_, _⟩⟩ := hy
  unfold ltT
  split
  · rename_i h
    simp only [Bool.not_eq_eq_eq_not, Bool.not_true, beq_eq_false_iff_ne, ne_eq] at h
    congr 1
    unfold ltB L4.v
    rw [decide_eq_decide]; omega
  rename_i h
  simp only [Bool.not_eq_eq_eq_not, Bool.not_false, beq_iff_eq] at h
  split
  · rename_i h
    simp only [Bool.not_eq_eq_eq_not, Bool.not_true, beq_eq_false_iff_ne, ne_eq] at h
    congr 1
    unfold ltB L4.v
    rw [decide_eq_decide]; omega
  rename_i h
  simp only [Bool.not_eq_eq_eq_not, Bool.not_false, beq_iff_eq] at h
  split
  · rename_i h
    simp only [Bool.not_eq_eq_eq_not, Bool.not_true, beq_eq_false_iff_ne, ne_eq] at h
    congr 1
    unfold ltB L4.v
    rw [decide_eq_decide]; omega
  rename_i h
  simp only [Bool.not_eq_eq_eq_not, Bool.not_false, beq_iff_eq] at h
  split
  · rename_i h
    simp only [Bool.not_eq_eq_eq_not, Bool.not_true, beq_eq_false_iff_ne, ne_eq] at h
    congr 1
    unfold ltB L4.v
    rw [decide_eq_decide]; omega
  rename_i h
  simp only [Bool.not_eq_eq_eq_not, Bool.not_false, beq_iff_eq] at h
  congr 1
  unfold ltB L4.v
  symm; rw [decide_eq_false_iff_not]; omega

def kLess : List PK := [.S 4, .S 4]
def rLess (lt : L4 → L4 → Bool) : Gf := g2 c4 c4 fun x y => ([], .val (.bool (lt x y)), none)
theorem ac_less : AC Try.prog 45 kLess (rLess ltB) := by
  refine ac_of_run (E := look []) (fn := Try.f45) (look_ok [] env_nil) follows (by kernel_rfl) rfl (runOK2 c4_sound c4_sound fun x y hx hy => ⟨res_val trivial, fun _ al has _ c1 c2 => ⟨8, ?_⟩⟩)
  rw [show alsOf [PK.S 4, PK.S 4] [PK.S 4, PK.S 4] = [[none, none]] from rfl, List.mem_singleton] at has
  subst has
  show Sees [] _ (runs _ _ _ _ _ _ [x.cells, y.cells] _)
  rw [less_run, ltT_eq (in4 hx) (in4 hy)]
  exact .mk' trivial rfl rfl
end Go.Proofs.Ytbbifiogcpcpfaa
