/-
  Linear operations of E12.
-/
import Derived.Test.YtnhfgcoeibjagaaE6Lin
namespace Go.Proofs.Ytnhfgcoeibjagaa
open Vm

def s_made12 : L48 → L48 := fun x => x
def q_made12 (p_made6 : L24 → Prop) : L48 → Prop := fun x => ((True ∧ p_made6 x.p) ∧ p_made6 x.q)
abbrev o_made12 : L48 → L48 := s_made12
abbrev p_made12 : L48 → Prop := q_made12 p_made6
abbrev e_made12 (p_made6 : L24 → Prop) : List (Nat × Sm) :=
  [eV 49 [.V] (rV c24 c24 o_made6 p_made6)]
theorem run_made12 (p_made6 : L24 → Prop) : Run1 Try.prog (look (e_made12 p_made6)) 1 Try.f53 .V c48.agg (fun x => sVal c48 (s_made12 x) (q_made12 p_made6 x)) := fun _ _ => by kernel_rfl
theorem k_made12 : ∀ x, x.ok → (o_made12 x).ok := by
  intro x hx
  exact hx
theorem ac_made12 : AC Try.prog 53 [.V] (rV c48 c48 o_made12 p_made12) :=
  mkV (fn := Try.f53) (look_ok (e_made12 p_made6) (env_V ac_made6 env_nil)) follows (by kernel_rfl) rfl G48 G48 k_made12 (run_made12 _)

def s_told12 : L48 → L48 := fun x => x
def q_told12 (p_told6 : L24 → Prop) : L48 → Prop := fun x => ((True ∧ p_told6 x.p) ∧ p_told6 x.q)
abbrev o_told12 : L48 → L48 := s_told12
abbrev p_told12 : L48 → Prop := q_told12 p_told6
abbrev e_told12 (p_told6 : L24 → Prop) : List (Nat × Sm) :=
  [eV 50 [.V] (rV c24 c24 o_told6 p_told6)]
theorem run_told12 (p_told6 : L24 → Prop) : Run1 Try.prog (look (e_told12 p_told6)) 1 Try.f54 .V c48.agg (fun x => sVal c48 (s_told12 x) (q_told12 p_told6 x)) := fun _ _ => by kernel_rfl
theorem k_told12 : ∀ x, x.ok → (o_told12 x).ok := by
  intro x hx
  exact hx
theorem ac_told12 : AC Try.prog 54 [.V] (rV c48 c48 o_told12 p_told12) :=
  mkV (fn := Try.f54) (look_ok (e_told12 p_told6) (env_V ac_told6 env_nil)) follows (by kernel_rfl) rfl G48 G48 k_told12 (run_told12 _)

def s_e12Add (o_e6Add : L24 → L24 → L24) : L48 → L48 → L48 := fun x y => ⟨o_e6Add x.p y.p, o_e6Add x.q y.q⟩
def q_e12Add (p_e6Add : L24 → L24 → Prop) : L48 → L48 → Prop := fun x y => ((True ∧ p_e6Add x.p y.p) ∧ p_e6Add x.q y.q)
abbrev o_e12Add : L48 → L48 → L48 := s_e12Add o_e6Add
abbrev p_e12Add : L48 → L48 → Prop := q_e12Add p_e6Add
abbrev e_e12Add (o_e6Add : L24 → L24 → L24) (p_e6Add : L24 → L24 → Prop) : List (Nat × Sm) :=
  [eM 52 [.W 24, .R 24, .R 24] (rWRR c24 o_e6Add p_e6Add)]
theorem run_e12Add (o_e6Add : L24 → L24 → L24) (p_e6Add : L24 → L24 → Prop) : RunWRR Try.prog (look (e_e12Add o_e6Add p_e6Add)) 1 Try.f63 48 c48 (fun x y => sSame c48 (s_e12Add o_e6Add x y) (q_e12Add p_e6Add x y)) :=
  ⟨fun _ _ _ _ _ _ => by kernel_rfl, fun _ _ _ _ _ => by kernel_rfl, fun _ _ _ _ _ => by kernel_rfl, fun _ _ _ _ => by kernel_rfl⟩
theorem k_e12Add : ∀ x y, x.ok → y.ok → (o_e12Add x y).ok := by
  intro x y hx hy
  exact ⟨k_e6Add _ _ hx.p hy.p, k_e6Add _ _ hx.q hy.q⟩
theorem ac_e12Add : AC Try.prog 63 [.W 48, .R 48, .R 48] (rWRR c48 o_e12Add p_e12Add) :=
  mkWRR (fn := Try.f63) (look_ok (e_e12Add o_e6Add p_e6Add) (env_M ac_e6Add env_nil)) follows (by kernel_rfl) rfl G48 k_e12Add (run_e12Add _ _)

def s_impl12Add (o_e12Add : L48 → L48 → L48) : L48 → L48 → L48 := fun x y => o_e12Add x y
def q_impl12Add (o_e12Add : L48 → L48 → L48) (p_e12Add : L48 → L48 → Prop) (p_made12 : L48 → Prop) (p_told12 : L48 → Prop) : L48 → L48 → Prop := fun x y => ((((True ∧ p_made12 x) ∧ p_made12 y) ∧ p_e12Add x y) ∧ p_told12 (o_e12Add x y))
abbrev o_impl12Add : L48 → L48 → L48 := s_impl12Add o_e12Add
abbrev p_impl12Add : L48 → L48 → Prop := q_impl12Add o_e12Add p_e12Add p_made12 p_told12
abbrev e_impl12Add (o_e12Add : L48 → L48 → L48) (p_e12Add : L48 → L48 → Prop) (p_made12 : L48 → Prop) (p_told12 : L48 → Prop) : List (Nat × Sm) :=
  [eM 63 [.W 48, .R 48, .R 48] (rWRR c48 o_e12Add p_e12Add), eV 53 [.V] (rV c48 c48 o_made12 p_made12), eV 54 [.V] (rV c48 c48 o_told12 p_told12)]
theorem run_impl12Add (o_e12Add : L48 → L48 → L48) (p_e12Add : L48 → L48 → Prop) (p_made12 : L48 → Prop) (p_told12 : L48 → Prop) : Run2 Try.prog (look (e_impl12Add o_e12Add p_e12Add p_made12 p_told12)) 1 Try.f35 .V .V c48.agg c48.agg (fun x y => sVal c48 (s_impl12Add o_e12Add x y) (q_impl12Add o_e12Add p_e12Add p_made12 p_told12 x y)) := fun _ _ _ _ => by kernel_rfl
theorem k_impl12Add : ∀ x y, x.ok → y.ok → (o_impl12Add x y).ok := by
  intro x y hx hy
  exact k_e12Add x y hx hy
theorem ac_impl12Add : AC Try.prog 35 [.V, .V] (rVV2 c48 c48 o_impl12Add p_impl12Add) :=
  mkVV (fn := Try.f35) (look_ok (e_impl12Add o_e12Add p_e12Add p_made12 p_told12) (env_M ac_e12Add (env_V ac_made12 (env_V ac_told12 env_nil)))) follows (by kernel_rfl) rfl G48 G48 k_impl12Add (run_impl12Add _ _ _ _)

def s_e12Sub (o_e6Sub : L24 → L24 → L24) : L48 → L48 → L48 := fun x y => ⟨o_e6Sub x.p y.p, o_e6Sub x.q y.q⟩
def q_e12Sub (p_e6Sub : L24 → L24 → Prop) : L48 → L48 → Prop := fun x y => ((True ∧ p_e6Sub x.p y.p) ∧ p_e6Sub x.q y.q)
abbrev o_e12Sub : L48 → L48 → L48 := s_e12Sub o_e6Sub
abbrev p_e12Sub : L48 → L48 → Prop := q_e12Sub p_e6Sub
abbrev e_e12Sub (o_e6Sub : L24 → L24 → L24) (p_e6Sub : L24 → L24 → Prop) : List (Nat × Sm) :=
  [eM 51 [.W 24, .R 24, .R 24] (rWRR c24 o_e6Sub p_e6Sub)]
theorem run_e12Sub (o_e6Sub : L24 → L24 → L24) (p_e6Sub : L24 → L24 → Prop) : RunWRR Try.prog (look (e_e12Sub o_e6Sub p_e6Sub)) 1 Try.f64 48 c48 (fun x y => sSame c48 (s_e12Sub o_e6Sub x y) (q_e12Sub p_e6Sub x y)) :=
  ⟨fun _ _ _ _ _ _ => by kernel_rfl, fun _ _ _ _ _ => by kernel_rfl, fun _ _ _ _ _ => by kernel_rfl, fun _ _ _ _ => by kernel_rfl⟩
theorem k_e12Sub : ∀ x y, x.ok → y.ok → (o_e12Sub x y).ok := by
  intro x y hx hy
  exact ⟨k_e6Sub _ _ hx.p hy.p, k_e6Sub _ _ hx.q hy.q⟩
theorem ac_e12Sub : AC Try.prog 64 [.W 48, .R 48, .R 48] (rWRR c48 o_e12Sub p_e12Sub) :=
  mkWRR (fn := Try.f64) (look_ok (e_e12Sub o_e6Sub p_e6Sub) (env_M ac_e6Sub env_nil)) follows (by kernel_rfl) rfl G48 k_e12Sub (run_e12Sub _ _)

def s_impl12Sub (o_e12Sub : L48 → L48 → L48) : L48 → L48 → L48 := fun x y => o_e12Sub x y
def q_impl12Sub (o_e12Sub : L48 → L48 → L48) (p_e12Sub : L48 → L48 → Prop) (p_made12 : L48 → Prop) (p_told12 : L48 → Prop) : L48 → L48 → Prop := fun x y => ((((True ∧ p_made12 x) ∧ p_made12 y) ∧ p_e12Sub x y) ∧ p_told12 (o_e12Sub x y))
abbrev o_impl12Sub : L48 → L48 → L48 := s_impl12Sub o_e12Sub
abbrev p_impl12Sub : L48 → L48 → Prop := q_impl12Sub o_e12Sub p_e12Sub p_made12 p_told12
abbrev e_impl12Sub (o_e12Sub : L48 → L48 → L48) (p_e12Sub : L48 → L48 → Prop) (p_made12 : L48 → Prop) (p_told12 : L48 → Prop) : List (Nat × Sm) :=
  [eM 64 [.W 48, .R 48, .R 48] (rWRR c48 o_e12Sub p_e12Sub), eV 53 [.V] (rV c48 c48 o_made12 p_made12), eV 54 [.V] (rV c48 c48 o_told12 p_told12)]
theorem run_impl12Sub (o_e12Sub : L48 → L48 → L48) (p_e12Sub : L48 → L48 → Prop) (p_made12 : L48 → Prop) (p_told12 : L48 → Prop) : Run2 Try.prog (look (e_impl12Sub o_e12Sub p_e12Sub p_made12 p_told12)) 1 Try.f36 .V .V c48.agg c48.agg (fun x y => sVal c48 (s_impl12Sub o_e12Sub x y) (q_impl12Sub o_e12Sub p_e12Sub p_made12 p_told12 x y)) := fun _ _ _ _ => by kernel_rfl
theorem k_impl12Sub : ∀ x y, x.ok → y.ok → (o_impl12Sub x y).ok := by
  intro x y hx hy
  exact k_e12Sub x y hx hy
theorem ac_impl12Sub : AC Try.prog 36 [.V, .V] (rVV2 c48 c48 o_impl12Sub p_impl12Sub) :=
  mkVV (fn := Try.f36) (look_ok (e_impl12Sub o_e12Sub p_e12Sub p_made12 p_told12) (env_M ac_e12Sub (env_V ac_made12 (env_V ac_told12 env_nil)))) follows (by kernel_rfl) rfl G48 G48 k_impl12Sub (run_impl12Sub _ _ _ _)

def s_e12Double (o_e6Double : L24 → L24) : L48 → L48 := fun x => ⟨o_e6Double x.p, o_e6Double x.q⟩
def q_e12Double (p_e6Double : L24 → Prop) : L48 → Prop := fun x => ((True ∧ p_e6Double x.p) ∧ p_e6Double x.q)
abbrev o_e12Double : L48 → L48 := s_e12Double o_e6Double
abbrev p_e12Double : L48 → Prop := q_e12Double p_e6Double
abbrev e_e12Double (o_e6Double : L24 → L24) (p_e6Double : L24 → Prop) : List (Nat × Sm) :=
  [eM 76 [.W 24, .R 24] (rWR c24 o_e6Double p_e6Double)]
theorem run_e12Double (o_e6Double : L24 → L24) (p_e6Double : L24 → Prop) : RunWR Try.prog (look (e_e12Double o_e6Double p_e6Double)) 1 Try.f56 48 c48 (fun x => sSame c48 (s_e12Double o_e6Double x) (q_e12Double p_e6Double x)) := ⟨fun _ _ _ _ => by kernel_rfl, fun _ _ _ => by kernel_rfl⟩
theorem k_e12Double : ∀ x, x.ok → (o_e12Double x).ok := by
  intro x hx
  exact ⟨k_e6Double _ hx.p, k_e6Double _ hx.q⟩
theorem ac_e12Double : AC Try.prog 56 [.W 48, .R 48] (rWR c48 o_e12Double p_e12Double) :=
  mkWR (fn := Try.f56) (look_ok (e_e12Double o_e6Double p_e6Double) (env_M ac_e6Double env_nil)) follows (by kernel_rfl) rfl G48 k_e12Double (run_e12Double _ _)

def s_impl12Double (o_e12Double : L48 → L48) : L48 → L48 := fun x => o_e12Double x
def q_impl12Double (o_e12Double : L48 → L48) (p_e12Double : L48 → Prop) (p_made12 : L48 → Prop) (p_told12 : L48 → Prop) : L48 → Prop := fun x => (((True ∧ p_made12 x) ∧ p_e12Double x) ∧ p_told12 (o_e12Double x))
abbrev o_impl12Double : L48 → L48 := s_impl12Double o_e12Double
abbrev p_impl12Double : L48 → Prop := q_impl12Double o_e12Double p_e12Double p_made12 p_told12
abbrev e_impl12Double (o_e12Double : L48 → L48) (p_e12Double : L48 → Prop) (p_made12 : L48 → Prop) (p_told12 : L48 → Prop) : List (Nat × Sm) :=
  [eM 56 [.W 48, .R 48] (rWR c48 o_e12Double p_e12Double), eV 53 [.V] (rV c48 c48 o_made12 p_made12), eV 54 [.V] (rV c48 c48 o_told12 p_told12)]
theorem run_impl12Double (o_e12Double : L48 → L48) (p_e12Double : L48 → Prop) (p_made12 : L48 → Prop) (p_told12 : L48 → Prop) : Run1 Try.prog (look (e_impl12Double o_e12Double p_e12Double p_made12 p_told12)) 1 Try.f29 .V c48.agg (fun x => sVal c48 (s_impl12Double o_e12Double x) (q_impl12Double o_e12Double p_e12Double p_made12 p_told12 x)) := fun _ _ => by kernel_rfl
theorem k_impl12Double : ∀ x, x.ok → (o_impl12Double x).ok := by
  intro x hx
  exact k_e12Double x hx
theorem ac_impl12Double : AC Try.prog 29 [.V] (rV c48 c48 o_impl12Double p_impl12Double) :=
  mkV (fn := Try.f29) (look_ok (e_impl12Double o_e12Double p_e12Double p_made12 p_told12) (env_M ac_e12Double (env_V ac_made12 (env_V ac_told12 env_nil)))) follows (by kernel_rfl) rfl G48 G48 k_impl12Double (run_impl12Double _ _ _ _)

def s_e12Conj (o_e6Neg : L24 → L24) : L48 → L48 := fun x => ⟨x.p, o_e6Neg x.q⟩
def q_e12Conj (p_e6Neg : L24 → Prop) : L48 → Prop := fun x => (True ∧ p_e6Neg x.q)
abbrev o_e12Conj : L48 → L48 := s_e12Conj o_e6Neg
abbrev p_e12Conj : L48 → Prop := q_e12Conj p_e6Neg
abbrev e_e12Conj (o_e6Neg : L24 → L24) (p_e6Neg : L24 → Prop) : List (Nat × Sm) :=
  [eM 75 [.W 24, .R 24] (rWR c24 o_e6Neg p_e6Neg)]
theorem run_e12Conj (o_e6Neg : L24 → L24) (p_e6Neg : L24 → Prop) : RunWR Try.prog (look (e_e12Conj o_e6Neg p_e6Neg)) 1 Try.f55 48 c48 (fun x => sSame c48 (s_e12Conj o_e6Neg x) (q_e12Conj p_e6Neg x)) := ⟨fun _ _ _ _ => by kernel_rfl, fun _ _ _ => by kernel_rfl⟩
theorem k_e12Conj : ∀ x, x.ok → (o_e12Conj x).ok := by
  intro x hx
  exact ⟨hx.p, k_e6Neg x.q hx.q⟩
theorem ac_e12Conj : AC Try.prog 55 [.W 48, .R 48] (rWR c48 o_e12Conj p_e12Conj) :=
  mkWR (fn := Try.f55) (look_ok (e_e12Conj o_e6Neg p_e6Neg) (env_M ac_e6Neg env_nil)) follows (by kernel_rfl) rfl G48 k_e12Conj (run_e12Conj _ _)

def s_impl12Conj (o_e12Conj : L48 → L48) : L48 → L48 := fun x => o_e12Conj x
def q_impl12Conj (o_e12Conj : L48 → L48) (p_e12Conj : L48 → Prop) (p_made12 : L48 → Prop) (p_told12 : L48 → Prop) : L48 → Prop := fun x => (((True ∧ p_made12 x) ∧ p_e12Conj x) ∧ p_told12 (o_e12Conj x))
abbrev o_impl12Conj : L48 → L48 := s_impl12Conj o_e12Conj
abbrev p_impl12Conj : L48 → Prop := q_impl12Conj o_e12Conj p_e12Conj p_made12 p_told12
abbrev e_impl12Conj (o_e12Conj : L48 → L48) (p_e12Conj : L48 → Prop) (p_made12 : L48 → Prop) (p_told12 : L48 → Prop) : List (Nat × Sm) :=
  [eM 55 [.W 48, .R 48] (rWR c48 o_e12Conj p_e12Conj), eV 53 [.V] (rV c48 c48 o_made12 p_made12), eV 54 [.V] (rV c48 c48 o_told12 p_told12)]
theorem run_impl12Conj (o_e12Conj : L48 → L48) (p_e12Conj : L48 → Prop) (p_made12 : L48 → Prop) (p_told12 : L48 → Prop) : Run1 Try.prog (look (e_impl12Conj o_e12Conj p_e12Conj p_made12 p_told12)) 1 Try.f28 .V c48.agg (fun x => sVal c48 (s_impl12Conj o_e12Conj x) (q_impl12Conj o_e12Conj p_e12Conj p_made12 p_told12 x)) := fun _ _ => by kernel_rfl
theorem k_impl12Conj : ∀ x, x.ok → (o_impl12Conj x).ok := by
  intro x hx
  exact k_e12Conj x hx
theorem ac_impl12Conj : AC Try.prog 28 [.V] (rV c48 c48 o_impl12Conj p_impl12Conj) :=
  mkV (fn := Try.f28) (look_ok (e_impl12Conj o_e12Conj p_e12Conj p_made12 p_told12) (env_M ac_e12Conj (env_V ac_made12 (env_V ac_told12 env_nil)))) follows (by kernel_rfl) rfl G48 G48 k_impl12Conj (run_impl12Conj _ _ _ _)

def s_plus12 (o_plus6 : L24 → L24 → L24) : L48 → L48 → L48 := fun x y => ⟨o_plus6 x.p y.p, o_plus6 x.q y.q⟩
def q_plus12 (p_plus6 : L24 → L24 → Prop) : L48 → L48 → Prop := fun x y => ((True ∧ p_plus6 x.p y.p) ∧ p_plus6 x.q y.q)
abbrev o_plus12 : L48 → L48 → L48 := s_plus12 o_plus6
abbrev p_plus12 : L48 → L48 → Prop := q_plus12 p_plus6
abbrev e_plus12 (o_plus6 : L24 → L24 → L24) (p_plus6 : L24 → L24 → Prop) : List (Nat × Sm) :=
  [eV 26 [.V, .V] (rVV2 c24 c24 o_plus6 p_plus6)]
theorem run_plus12 (o_plus6 : L24 → L24 → L24) (p_plus6 : L24 → L24 → Prop) : Run2 Try.prog (look (e_plus12 o_plus6 p_plus6)) 1 Try.f30 .V .V c48.agg c48.agg (fun x y => sVal c48 (s_plus12 o_plus6 x y) (q_plus12 p_plus6 x y)) := fun _ _ _ _ => by kernel_rfl
theorem k_plus12 : ∀ x y, x.ok → y.ok → (o_plus12 x y).ok := by
  intro x y hx hy
  exact ⟨k_plus6 _ _ hx.p hy.p, k_plus6 _ _ hx.q hy.q⟩
theorem ac_plus12 : AC Try.prog 30 [.V, .V] (rVV2 c48 c48 o_plus12 p_plus12) :=
  mkVV (fn := Try.f30) (look_ok (e_plus12 o_plus6 p_plus6) (env_V ac_plus6 env_nil)) follows (by kernel_rfl) rfl G48 G48 k_plus12 (run_plus12 _ _)

def s_minus12 (o_minus6 : L24 → L24 → L24) : L48 → L48 → L48 := fun x y => ⟨o_minus6 x.p y.p, o_minus6 x.q y.q⟩
def q_minus12 (p_minus6 : L24 → L24 → Prop) : L48 → L48 → Prop := fun x y => ((True ∧ p_minus6 x.p y.p) ∧ p_minus6 x.q y.q)
abbrev o_minus12 : L48 → L48 → L48 := s_minus12 o_minus6
abbrev p_minus12 : L48 → L48 → Prop := q_minus12 p_minus6
abbrev e_minus12 (o_minus6 : L24 → L24 → L24) (p_minus6 : L24 → L24 → Prop) : List (Nat × Sm) :=
  [eV 24 [.V, .V] (rVV2 c24 c24 o_minus6 p_minus6)]
theorem run_minus12 (o_minus6 : L24 → L24 → L24) (p_minus6 : L24 → L24 → Prop) : Run2 Try.prog (look (e_minus12 o_minus6 p_minus6)) 1 Try.f37 .V .V c48.agg c48.agg (fun x y => sVal c48 (s_minus12 o_minus6 x y) (q_minus12 p_minus6 x y)) := fun _ _ _ _ => by kernel_rfl
theorem k_minus12 : ∀ x y, x.ok → y.ok → (o_minus12 x y).ok := by
  intro x y hx hy
  exact ⟨k_minus6 _ _ hx.p hy.p, k_minus6 _ _ hx.q hy.q⟩
theorem ac_minus12 : AC Try.prog 37 [.V, .V] (rVV2 c48 c48 o_minus12 p_minus12) :=
  mkVV (fn := Try.f37) (look_ok (e_minus12 o_minus6 p_minus6) (env_V ac_minus6 env_nil)) follows (by kernel_rfl) rfl G48 G48 k_minus12 (run_minus12 _ _)

end Go.Proofs.Ytnhfgcoeibjagaa
