/-
  Linear operations of E6.
-/
import Derived.Test.YtnhfgcoeibjagaaE2Lin
namespace Go.Proofs.Ytnhfgcoeibjagaa
open Vm

def s_made6 : L24 → L24 := fun x => x
def q_made6 : L24 → Prop := fun _ => True
abbrev o_made6 : L24 → L24 := s_made6
abbrev p_made6 : L24 → Prop := q_made6
abbrev e_made6 : List (Nat × Sm) :=
  [eV 41 [.V] rSame8]
theorem run_made6 : Run1 Try.prog (look (e_made6)) 1 Try.f49 .V c24.agg (fun x => sVal c24 (s_made6 x) (q_made6 x)) := fun _ _ => by kernel_rfl
theorem k_made6 : ∀ x, x.ok → (o_made6 x).ok := by
  intro x hx
  exact hx
theorem ac_made6 : AC Try.prog 49 [.V] (rV c24 c24 o_made6 p_made6) :=
  mkV (fn := Try.f49) (look_ok (e_made6) (env_V ac_made2 env_nil)) follows (by kernel_rfl) rfl G24 G24 k_made6 (run_made6)

def s_told6 : L24 → L24 := fun x => x
def q_told6 : L24 → Prop := fun _ => True
abbrev o_told6 : L24 → L24 := s_told6
abbrev p_told6 : L24 → Prop := q_told6
abbrev e_told6 : List (Nat × Sm) :=
  [eV 42 [.V] rSame8]
theorem run_told6 : Run1 Try.prog (look (e_told6)) 1 Try.f50 .V c24.agg (fun x => sVal c24 (s_told6 x) (q_told6 x)) := fun _ _ => by kernel_rfl
theorem k_told6 : ∀ x, x.ok → (o_told6 x).ok := by
  intro x hx
  exact hx
theorem ac_told6 : AC Try.prog 50 [.V] (rV c24 c24 o_told6 p_told6) :=
  mkV (fn := Try.f50) (look_ok (e_told6) (env_V ac_told2 env_nil)) follows (by kernel_rfl) rfl G24 G24 k_told6 (run_told6)

def s_e6Add (o_e2Add : L8 → L8 → L8) : L24 → L24 → L24 := fun x y => ⟨o_e2Add x.p y.p, o_e2Add x.q y.q, o_e2Add x.r y.r⟩
def q_e6Add (p_e2Add : L8 → L8 → Prop) : L24 → L24 → Prop := fun x y => (((True ∧ p_e2Add x.p y.p) ∧ p_e2Add x.q y.q) ∧ p_e2Add x.r y.r)
abbrev o_e6Add : L24 → L24 → L24 := s_e6Add o_e2Add
abbrev p_e6Add : L24 → L24 → Prop := q_e6Add p_e2Add
abbrev e_e6Add (o_e2Add : L8 → L8 → L8) (p_e2Add : L8 → L8 → Prop) : List (Nat × Sm) :=
  [eM 74 [.W 8, .R 8, .R 8] (rWRR c8 o_e2Add p_e2Add)]
theorem run_e6Add (o_e2Add : L8 → L8 → L8) (p_e2Add : L8 → L8 → Prop) : RunWRR Try.prog (look (e_e6Add o_e2Add p_e2Add)) 1 Try.f52 24 c24 (fun x y => sSame c24 (s_e6Add o_e2Add x y) (q_e6Add p_e2Add x y)) :=
  ⟨fun _ _ _ _ _ _ => by kernel_rfl, fun _ _ _ _ _ => by kernel_rfl, fun _ _ _ _ _ => by kernel_rfl, fun _ _ _ _ => by kernel_rfl⟩
theorem k_e6Add : ∀ x y, x.ok → y.ok → (o_e6Add x y).ok := by
  intro x y hx hy
  exact ⟨k_e2Add _ _ hx.p hy.p, k_e2Add _ _ hx.q hy.q, k_e2Add _ _ hx.r hy.r⟩
theorem ac_e6Add : AC Try.prog 52 [.W 24, .R 24, .R 24] (rWRR c24 o_e6Add p_e6Add) :=
  mkWRR (fn := Try.f52) (look_ok (e_e6Add o_e2Add p_e2Add) (env_M ac_e2Add env_nil)) follows (by kernel_rfl) rfl G24 k_e6Add (run_e6Add _ _)

def s_e6Sub (o_e2Sub : L8 → L8 → L8) : L24 → L24 → L24 := fun x y => ⟨o_e2Sub x.p y.p, o_e2Sub x.q y.q, o_e2Sub x.r y.r⟩
def q_e6Sub (p_e2Sub : L8 → L8 → Prop) : L24 → L24 → Prop := fun x y => (((True ∧ p_e2Sub x.p y.p) ∧ p_e2Sub x.q y.q) ∧ p_e2Sub x.r y.r)
abbrev o_e6Sub : L24 → L24 → L24 := s_e6Sub o_e2Sub
abbrev p_e6Sub : L24 → L24 → Prop := q_e6Sub p_e2Sub
abbrev e_e6Sub (o_e2Sub : L8 → L8 → L8) (p_e2Sub : L8 → L8 → Prop) : List (Nat × Sm) :=
  [eM 46 [.W 8, .R 8, .R 8] (rWRR c8 o_e2Sub p_e2Sub)]
theorem run_e6Sub (o_e2Sub : L8 → L8 → L8) (p_e2Sub : L8 → L8 → Prop) : RunWRR Try.prog (look (e_e6Sub o_e2Sub p_e2Sub)) 1 Try.f51 24 c24 (fun x y => sSame c24 (s_e6Sub o_e2Sub x y) (q_e6Sub p_e2Sub x y)) :=
  ⟨fun _ _ _ _ _ _ => by kernel_rfl, fun _ _ _ _ _ => by kernel_rfl, fun _ _ _ _ _ => by kernel_rfl, fun _ _ _ _ => by kernel_rfl⟩
theorem k_e6Sub : ∀ x y, x.ok → y.ok → (o_e6Sub x y).ok := by
  intro x y hx hy
  exact ⟨k_e2Sub _ _ hx.p hy.p, k_e2Sub _ _ hx.q hy.q, k_e2Sub _ _ hx.r hy.r⟩
theorem ac_e6Sub : AC Try.prog 51 [.W 24, .R 24, .R 24] (rWRR c24 o_e6Sub p_e6Sub) :=
  mkWRR (fn := Try.f51) (look_ok (e_e6Sub o_e2Sub p_e2Sub) (env_M ac_e2Sub env_nil)) follows (by kernel_rfl) rfl G24 k_e6Sub (run_e6Sub _ _)

def s_e6Double (o_e2Double : L8 → L8) : L24 → L24 := fun x => ⟨o_e2Double x.p, o_e2Double x.q, o_e2Double x.r⟩
def q_e6Double (p_e2Double : L8 → Prop) : L24 → Prop := fun x => (((True ∧ p_e2Double x.p) ∧ p_e2Double x.q) ∧ p_e2Double x.r)
abbrev o_e6Double : L24 → L24 := s_e6Double o_e2Double
abbrev p_e6Double : L24 → Prop := q_e6Double p_e2Double
abbrev e_e6Double (o_e2Double : L8 → L8) (p_e2Double : L8 → Prop) : List (Nat × Sm) :=
  [eM 47 [.W 8, .R 8] (rWR c8 o_e2Double p_e2Double)]
theorem run_e6Double (o_e2Double : L8 → L8) (p_e2Double : L8 → Prop) : RunWR Try.prog (look (e_e6Double o_e2Double p_e2Double)) 1 Try.f76 24 c24 (fun x => sSame c24 (s_e6Double o_e2Double x) (q_e6Double p_e2Double x)) := ⟨fun _ _ _ _ => by kernel_rfl, fun _ _ _ => by kernel_rfl⟩
theorem k_e6Double : ∀ x, x.ok → (o_e6Double x).ok := by
  intro x hx
  exact ⟨k_e2Double _ hx.p, k_e2Double _ hx.q, k_e2Double _ hx.r⟩
theorem ac_e6Double : AC Try.prog 76 [.W 24, .R 24] (rWR c24 o_e6Double p_e6Double) :=
  mkWR (fn := Try.f76) (look_ok (e_e6Double o_e2Double p_e2Double) (env_M ac_e2Double env_nil)) follows (by kernel_rfl) rfl G24 k_e6Double (run_e6Double _ _)

def s_e6Neg (o_e2Neg : L8 → L8) : L24 → L24 := fun x => ⟨o_e2Neg x.p, o_e2Neg x.q, o_e2Neg x.r⟩
def q_e6Neg (p_e2Neg : L8 → Prop) : L24 → Prop := fun x => (((True ∧ p_e2Neg x.p) ∧ p_e2Neg x.q) ∧ p_e2Neg x.r)
abbrev o_e6Neg : L24 → L24 := s_e6Neg o_e2Neg
abbrev p_e6Neg : L24 → Prop := q_e6Neg p_e2Neg
abbrev e_e6Neg (o_e2Neg : L8 → L8) (p_e2Neg : L8 → Prop) : List (Nat × Sm) :=
  [eM 45 [.W 8, .R 8] (rWR c8 o_e2Neg p_e2Neg)]
theorem run_e6Neg (o_e2Neg : L8 → L8) (p_e2Neg : L8 → Prop) : RunWR Try.prog (look (e_e6Neg o_e2Neg p_e2Neg)) 1 Try.f75 24 c24 (fun x => sSame c24 (s_e6Neg o_e2Neg x) (q_e6Neg p_e2Neg x)) := ⟨fun _ _ _ _ => by kernel_rfl, fun _ _ _ => by kernel_rfl⟩
theorem k_e6Neg : ∀ x, x.ok → (o_e6Neg x).ok := by
  intro x hx
  exact ⟨k_e2Neg _ hx.p, k_e2Neg _ hx.q, k_e2Neg _ hx.r⟩
theorem ac_e6Neg : AC Try.prog 75 [.W 24, .R 24] (rWR c24 o_e6Neg p_e6Neg) :=
  mkWR (fn := Try.f75) (look_ok (e_e6Neg o_e2Neg p_e2Neg) (env_M ac_e2Neg env_nil)) follows (by kernel_rfl) rfl G24 k_e6Neg (run_e6Neg _ _)

def s_impl6Add (o_e6Add : L24 → L24 → L24) : L24 → L24 → L24 := fun x y => o_e6Add x y
def q_impl6Add (o_e6Add : L24 → L24 → L24) (p_e6Add : L24 → L24 → Prop) (p_made6 : L24 → Prop) (p_told6 : L24 → Prop) : L24 → L24 → Prop := fun x y => ((((True ∧ p_made6 x) ∧ p_made6 y) ∧ p_e6Add x y) ∧ p_told6 (o_e6Add x y))
abbrev o_impl6Add : L24 → L24 → L24 := s_impl6Add o_e6Add
abbrev p_impl6Add : L24 → L24 → Prop := q_impl6Add o_e6Add p_e6Add p_made6 p_told6
abbrev e_impl6Add (o_e6Add : L24 → L24 → L24) (p_e6Add : L24 → L24 → Prop) (p_made6 : L24 → Prop) (p_told6 : L24 → Prop) : List (Nat × Sm) :=
  [eM 52 [.W 24, .R 24, .R 24] (rWRR c24 o_e6Add p_e6Add), eV 49 [.V] (rV c24 c24 o_made6 p_made6), eV 50 [.V] (rV c24 c24 o_told6 p_told6)]
theorem run_impl6Add (o_e6Add : L24 → L24 → L24) (p_e6Add : L24 → L24 → Prop) (p_made6 : L24 → Prop) (p_told6 : L24 → Prop) : Run2 Try.prog (look (e_impl6Add o_e6Add p_e6Add p_made6 p_told6)) 1 Try.f25 .V .V c24.agg c24.agg (fun x y => sVal c24 (s_impl6Add o_e6Add x y) (q_impl6Add o_e6Add p_e6Add p_made6 p_told6 x y)) := fun _ _ _ _ => by kernel_rfl
theorem k_impl6Add : ∀ x y, x.ok → y.ok → (o_impl6Add x y).ok := by
  intro x y hx hy
  exact k_e6Add x y hx hy
theorem ac_impl6Add : AC Try.prog 25 [.V, .V] (rVV2 c24 c24 o_impl6Add p_impl6Add) :=
  mkVV (fn := Try.f25) (look_ok (e_impl6Add o_e6Add p_e6Add p_made6 p_told6) (env_M ac_e6Add (env_V ac_made6 (env_V ac_told6 env_nil)))) follows (by kernel_rfl) rfl G24 G24 k_impl6Add (run_impl6Add _ _ _ _)

def s_impl6Sub (o_e6Sub : L24 → L24 → L24) : L24 → L24 → L24 := fun x y => o_e6Sub x y
def q_impl6Sub (o_e6Sub : L24 → L24 → L24) (p_e6Sub : L24 → L24 → Prop) (p_made6 : L24 → Prop) (p_told6 : L24 → Prop) : L24 → L24 → Prop := fun x y => ((((True ∧ p_made6 x) ∧ p_made6 y) ∧ p_e6Sub x y) ∧ p_told6 (o_e6Sub x y))
abbrev o_impl6Sub : L24 → L24 → L24 := s_impl6Sub o_e6Sub
abbrev p_impl6Sub : L24 → L24 → Prop := q_impl6Sub o_e6Sub p_e6Sub p_made6 p_told6
abbrev e_impl6Sub (o_e6Sub : L24 → L24 → L24) (p_e6Sub : L24 → L24 → Prop) (p_made6 : L24 → Prop) (p_told6 : L24 → Prop) : List (Nat × Sm) :=
  [eM 51 [.W 24, .R 24, .R 24] (rWRR c24 o_e6Sub p_e6Sub), eV 49 [.V] (rV c24 c24 o_made6 p_made6), eV 50 [.V] (rV c24 c24 o_told6 p_told6)]
theorem run_impl6Sub (o_e6Sub : L24 → L24 → L24) (p_e6Sub : L24 → L24 → Prop) (p_made6 : L24 → Prop) (p_told6 : L24 → Prop) : Run2 Try.prog (look (e_impl6Sub o_e6Sub p_e6Sub p_made6 p_told6)) 1 Try.f23 .V .V c24.agg c24.agg (fun x y => sVal c24 (s_impl6Sub o_e6Sub x y) (q_impl6Sub o_e6Sub p_e6Sub p_made6 p_told6 x y)) := fun _ _ _ _ => by kernel_rfl
theorem k_impl6Sub : ∀ x y, x.ok → y.ok → (o_impl6Sub x y).ok := by
  intro x y hx hy
  exact k_e6Sub x y hx hy
theorem ac_impl6Sub : AC Try.prog 23 [.V, .V] (rVV2 c24 c24 o_impl6Sub p_impl6Sub) :=
  mkVV (fn := Try.f23) (look_ok (e_impl6Sub o_e6Sub p_e6Sub p_made6 p_told6) (env_M ac_e6Sub (env_V ac_made6 (env_V ac_told6 env_nil)))) follows (by kernel_rfl) rfl G24 G24 k_impl6Sub (run_impl6Sub _ _ _ _)

def s_plus6 (o_plus2 : L8 → L8 → L8) : L24 → L24 → L24 := fun x y => ⟨o_plus2 x.p y.p, o_plus2 x.q y.q, o_plus2 x.r y.r⟩
def q_plus6 (p_plus2 : L8 → L8 → Prop) : L24 → L24 → Prop := fun x y => (((True ∧ p_plus2 x.p y.p) ∧ p_plus2 x.q y.q) ∧ p_plus2 x.r y.r)
abbrev o_plus6 : L24 → L24 → L24 := s_plus6 o_plus2
abbrev p_plus6 : L24 → L24 → Prop := q_plus6 p_plus2
abbrev e_plus6 (o_plus2 : L8 → L8 → L8) (p_plus2 : L8 → L8 → Prop) : List (Nat × Sm) :=
  [eV 21 [.V, .V] (rVV2 c8 c8 o_plus2 p_plus2)]
theorem run_plus6 (o_plus2 : L8 → L8 → L8) (p_plus2 : L8 → L8 → Prop) : Run2 Try.prog (look (e_plus6 o_plus2 p_plus2)) 1 Try.f26 .V .V c24.agg c24.agg (fun x y => sVal c24 (s_plus6 o_plus2 x y) (q_plus6 p_plus2 x y)) := fun _ _ _ _ => by kernel_rfl
theorem k_plus6 : ∀ x y, x.ok → y.ok → (o_plus6 x y).ok := by
  intro x y hx hy
  exact ⟨k_plus2 _ _ hx.p hy.p, k_plus2 _ _ hx.q hy.q, k_plus2 _ _ hx.r hy.r⟩
theorem ac_plus6 : AC Try.prog 26 [.V, .V] (rVV2 c24 c24 o_plus6 p_plus6) :=
  mkVV (fn := Try.f26) (look_ok (e_plus6 o_plus2 p_plus2) (env_V ac_plus2 env_nil)) follows (by kernel_rfl) rfl G24 G24 k_plus6 (run_plus6 _ _)

def s_minus6 (o_minus2 : L8 → L8 → L8) : L24 → L24 → L24 := fun x y => ⟨o_minus2 x.p y.p, o_minus2 x.q y.q, o_minus2 x.r y.r⟩
def q_minus6 (p_minus2 : L8 → L8 → Prop) : L24 → L24 → Prop := fun x y => (((True ∧ p_minus2 x.p y.p) ∧ p_minus2 x.q y.q) ∧ p_minus2 x.r y.r)
abbrev o_minus6 : L24 → L24 → L24 := s_minus6 o_minus2
abbrev p_minus6 : L24 → L24 → Prop := q_minus6 p_minus2
abbrev e_minus6 (o_minus2 : L8 → L8 → L8) (p_minus2 : L8 → L8 → Prop) : List (Nat × Sm) :=
  [eV 18 [.V, .V] (rVV2 c8 c8 o_minus2 p_minus2)]
theorem run_minus6 (o_minus2 : L8 → L8 → L8) (p_minus2 : L8 → L8 → Prop) : Run2 Try.prog (look (e_minus6 o_minus2 p_minus2)) 1 Try.f24 .V .V c24.agg c24.agg (fun x y => sVal c24 (s_minus6 o_minus2 x y) (q_minus6 p_minus2 x y)) := fun _ _ _ _ => by kernel_rfl
theorem k_minus6 : ∀ x y, x.ok → y.ok → (o_minus6 x y).ok := by
  intro x y hx hy
  exact ⟨k_minus2 _ _ hx.p hy.p, k_minus2 _ _ hx.q hy.q, k_minus2 _ _ hx.r hy.r⟩
theorem ac_minus6 : AC Try.prog 24 [.V, .V] (rVV2 c24 c24 o_minus6 p_minus6) :=
  mkVV (fn := Try.f24) (look_ok (e_minus6 o_minus2 p_minus2) (env_V ac_minus2 env_nil)) follows (by kernel_rfl) rfl G24 G24 k_minus6 (run_minus6 _ _)

end Go.Proofs.Ytnhfgcoeibjagaa
