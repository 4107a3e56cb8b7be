/-
  Linear operations of E2: as in the package, and as in the specification.
-/
import Derived.Test.YtnhfgcoeibjagaaFpSub
import Derived.Test.YtnhfgcoeibjagaaE2Bin
namespace Go.Proofs.Ytnhfgcoeibjagaa
open Vm

def s_subE2 (o_fpSub : L4 → L4 → L4) : L8 → L8 → L8 := fun x y => ⟨o_fpSub x.p y.p, o_fpSub x.q y.q⟩
def q_subE2 (p_fpSub : L4 → L4 → Prop) : L8 → L8 → Prop := fun x y => ((True ∧ p_fpSub x.p y.p) ∧ p_fpSub x.q y.q)
abbrev o_subE2 : L8 → L8 → L8 := s_subE2 (subm qL)
abbrev p_subE2 : L8 → L8 → Prop := q_subE2 (lowm qL)
abbrev e_subE2 (o_fpSub : L4 → L4 → L4) (p_fpSub : L4 → L4 → Prop) : List (Nat × Sm) :=
  [eM 79 [.W 4, .R 4, .R 4] (rWRR c4 o_fpSub p_fpSub)]
theorem run_subE2 (o_fpSub : L4 → L4 → L4) (p_fpSub : L4 → L4 → Prop) : RunWRR Try.prog (look (e_subE2 o_fpSub p_fpSub)) 1 Try.f71 8 c8 (fun x y => sUnit c8 (s_subE2 o_fpSub x y) (q_subE2 p_fpSub x y)) :=
  ⟨fun _ _ _ _ _ _ => by kernel_rfl, fun _ _ _ _ _ => by kernel_rfl, fun _ _ _ _ _ => by kernel_rfl, fun _ _ _ _ => by kernel_rfl⟩
theorem k_subE2 : ∀ x y, x.ok → y.ok → (o_subE2 x y).ok := by
  intro x y hx hy
  exact ⟨lim_ok _, lim_ok _⟩
theorem ac_subE2 : AC Try.prog 71 [.W 8, .R 8, .R 8] (rWRRu c8 o_subE2 p_subE2) :=
  mkWRRu (fn := Try.f71) (look_ok (e_subE2 (subm qL) (lowm qL)) (env_M ac_fpSub env_nil)) follows (by kernel_rfl) rfl G8 k_subE2 (run_subE2 _ _)

def s_e2Sub (o_subE2 : L8 → L8 → L8) : L8 → L8 → L8 := fun x y => o_subE2 x y
def q_e2Sub (p_subE2 : L8 → L8 → Prop) : L8 → L8 → Prop := fun x y => (True ∧ p_subE2 x y)
abbrev o_e2Sub : L8 → L8 → L8 := s_e2Sub o_subE2
abbrev p_e2Sub : L8 → L8 → Prop := q_e2Sub p_subE2
abbrev e_e2Sub (o_subE2 : L8 → L8 → L8) (p_subE2 : L8 → L8 → Prop) : List (Nat × Sm) :=
  [eM 71 [.W 8, .R 8, .R 8] (rWRRu c8 o_subE2 p_subE2)]
theorem run_e2Sub (o_subE2 : L8 → L8 → L8) (p_subE2 : L8 → L8 → Prop) : RunWRR Try.prog (look (e_e2Sub o_subE2 p_subE2)) 1 Try.f46 8 c8 (fun x y => sSame c8 (s_e2Sub o_subE2 x y) (q_e2Sub p_subE2 x y)) :=
  ⟨fun _ _ _ _ _ _ => by kernel_rfl, fun _ _ _ _ _ => by kernel_rfl, fun _ _ _ _ _ => by kernel_rfl, fun _ _ _ _ => by kernel_rfl⟩
theorem k_e2Sub : ∀ x y, x.ok → y.ok → (o_e2Sub x y).ok := by
  intro x y hx hy
  exact k_subE2 x y hx hy
theorem ac_e2Sub : AC Try.prog 46 [.W 8, .R 8, .R 8] (rWRR c8 o_e2Sub p_e2Sub) :=
  mkWRR (fn := Try.f46) (look_ok (e_e2Sub o_subE2 p_subE2) (env_M ac_subE2 env_nil)) follows (by kernel_rfl) rfl G8 k_e2Sub (run_e2Sub _ _)

def s_impl2Sub (o_e2Sub : L8 → L8 → L8) : L8 → L8 → L8 := fun x y => o_e2Sub x y
def q_impl2Sub (p_e2Sub : L8 → L8 → Prop) : L8 → L8 → Prop := fun x y => (True ∧ p_e2Sub x y)
abbrev o_impl2Sub : L8 → L8 → L8 := s_impl2Sub o_e2Sub
abbrev p_impl2Sub : L8 → L8 → Prop := q_impl2Sub p_e2Sub
abbrev e_impl2Sub (o_e2Sub : L8 → L8 → L8) (p_e2Sub : L8 → L8 → Prop) : List (Nat × Sm) :=
  [eM 46 [.W 8, .R 8, .R 8] (rWRR c8 o_e2Sub p_e2Sub), eV 41 [.V] rSame8, eV 42 [.V] rSame8]
theorem run_impl2Sub (o_e2Sub : L8 → L8 → L8) (p_e2Sub : L8 → L8 → Prop) : Run2 Try.prog (look (e_impl2Sub o_e2Sub p_e2Sub)) 1 Try.f19 .V .V c8.agg c8.agg (fun x y => sVal c8 (s_impl2Sub o_e2Sub x y) (q_impl2Sub p_e2Sub x y)) := fun _ _ _ _ => by kernel_rfl
theorem k_impl2Sub : ∀ x y, x.ok → y.ok → (o_impl2Sub x y).ok := by
  intro x y hx hy
  exact k_e2Sub x y hx hy
theorem ac_impl2Sub : AC Try.prog 19 [.V, .V] (rVV2 c8 c8 o_impl2Sub p_impl2Sub) :=
  mkVV (fn := Try.f19) (look_ok (e_impl2Sub o_e2Sub p_e2Sub) (env_M ac_e2Sub (env_V ac_made2 (env_V ac_told2 env_nil)))) follows (by kernel_rfl) rfl G8 G8 k_impl2Sub (run_impl2Sub _ _)

def s_doubleE2 (o_fpDouble : L4 → L4) : L8 → L8 := fun x => ⟨o_fpDouble x.p, o_fpDouble x.q⟩
def q_doubleE2 (p_fpDouble : L4 → Prop) : L8 → Prop := fun x => ((True ∧ p_fpDouble x.p) ∧ p_fpDouble x.q)
abbrev o_doubleE2 : L8 → L8 := s_doubleE2 dblm
abbrev p_doubleE2 : L8 → Prop := q_doubleE2 lowd
abbrev e_doubleE2 (o_fpDouble : L4 → L4) (p_fpDouble : L4 → Prop) : List (Nat × Sm) :=
  [eM 77 [.W 4, .R 4] (rWR c4 o_fpDouble p_fpDouble)]
theorem run_doubleE2 (o_fpDouble : L4 → L4) (p_fpDouble : L4 → Prop) : RunWR Try.prog (look (e_doubleE2 o_fpDouble p_fpDouble)) 1 Try.f72 8 c8 (fun x => sUnit c8 (s_doubleE2 o_fpDouble x) (q_doubleE2 p_fpDouble x)) := ⟨fun _ _ _ _ => by kernel_rfl, fun _ _ _ => by kernel_rfl⟩
theorem k_doubleE2 : ∀ x, x.ok → (o_doubleE2 x).ok := by
  intro x hx
  exact ⟨lim_ok _, lim_ok _⟩
theorem ac_doubleE2 : AC Try.prog 72 [.W 8, .R 8] (rWRu c8 o_doubleE2 p_doubleE2) :=
  mkWRu (fn := Try.f72) (look_ok (e_doubleE2 dblm lowd) (env_M ac_fpDouble env_nil)) follows (by kernel_rfl) rfl G8 k_doubleE2 (run_doubleE2 _ _)

def s_e2Double (o_doubleE2 : L8 → L8) : L8 → L8 := fun x => o_doubleE2 x
def q_e2Double (p_doubleE2 : L8 → Prop) : L8 → Prop := fun x => (True ∧ p_doubleE2 x)
abbrev o_e2Double : L8 → L8 := s_e2Double o_doubleE2
abbrev p_e2Double : L8 → Prop := q_e2Double p_doubleE2
abbrev e_e2Double (o_doubleE2 : L8 → L8) (p_doubleE2 : L8 → Prop) : List (Nat × Sm) :=
  [eM 72 [.W 8, .R 8] (rWRu c8 o_doubleE2 p_doubleE2)]
theorem run_e2Double (o_doubleE2 : L8 → L8) (p_doubleE2 : L8 → Prop) : RunWR Try.prog (look (e_e2Double o_doubleE2 p_doubleE2)) 1 Try.f47 8 c8 (fun x => sSame c8 (s_e2Double o_doubleE2 x) (q_e2Double p_doubleE2 x)) := ⟨fun _ _ _ _ => by kernel_rfl, fun _ _ _ => by kernel_rfl⟩
theorem k_e2Double : ∀ x, x.ok → (o_e2Double x).ok := by
  intro x hx
  exact k_doubleE2 x hx
theorem ac_e2Double : AC Try.prog 47 [.W 8, .R 8] (rWR c8 o_e2Double p_e2Double) :=
  mkWR (fn := Try.f47) (look_ok (e_e2Double o_doubleE2 p_doubleE2) (env_M ac_doubleE2 env_nil)) follows (by kernel_rfl) rfl G8 k_e2Double (run_e2Double _ _)

def s_impl2Double (o_e2Double : L8 → L8) : L8 → L8 := fun x => o_e2Double x
def q_impl2Double (p_e2Double : L8 → Prop) : L8 → Prop := fun x => (True ∧ p_e2Double x)
abbrev o_impl2Double : L8 → L8 := s_impl2Double o_e2Double
abbrev p_impl2Double : L8 → Prop := q_impl2Double p_e2Double
abbrev e_impl2Double (o_e2Double : L8 → L8) (p_e2Double : L8 → Prop) : List (Nat × Sm) :=
  [eM 47 [.W 8, .R 8] (rWR c8 o_e2Double p_e2Double), eV 41 [.V] rSame8, eV 42 [.V] rSame8]
theorem run_impl2Double (o_e2Double : L8 → L8) (p_e2Double : L8 → Prop) : Run1 Try.prog (look (e_impl2Double o_e2Double p_e2Double)) 1 Try.f20 .V c8.agg (fun x => sVal c8 (s_impl2Double o_e2Double x) (q_impl2Double p_e2Double x)) := fun _ _ => by kernel_rfl
theorem k_impl2Double : ∀ x, x.ok → (o_impl2Double x).ok := by
  intro x hx
  exact k_e2Double x hx
theorem ac_impl2Double : AC Try.prog 20 [.V] (rV c8 c8 o_impl2Double p_impl2Double) :=
  mkV (fn := Try.f20) (look_ok (e_impl2Double o_e2Double p_e2Double) (env_M ac_e2Double (env_V ac_made2 (env_V ac_told2 env_nil)))) follows (by kernel_rfl) rfl G8 G8 k_impl2Double (run_impl2Double _ _)

def s_negE2 (o_fpNeg : L4 → L4) : L8 → L8 := fun x => ⟨o_fpNeg x.p, o_fpNeg x.q⟩
def q_negE2 (p_fpNeg : L4 → Prop) : L8 → Prop := fun x => ((True ∧ p_fpNeg x.p) ∧ p_fpNeg x.q)
abbrev o_negE2 : L8 → L8 := s_negE2 negm
abbrev p_negE2 : L8 → Prop := q_negE2 lown
abbrev e_negE2 (o_fpNeg : L4 → L4) (p_fpNeg : L4 → Prop) : List (Nat × Sm) :=
  [eM 68 [.W 4, .R 4] (rWR c4 o_fpNeg p_fpNeg)]
theorem run_negE2 (o_fpNeg : L4 → L4) (p_fpNeg : L4 → Prop) : RunWR Try.prog (look (e_negE2 o_fpNeg p_fpNeg)) 1 Try.f70 8 c8 (fun x => sUnit c8 (s_negE2 o_fpNeg x) (q_negE2 p_fpNeg x)) := ⟨fun _ _ _ _ => by kernel_rfl, fun _ _ _ => by kernel_rfl⟩
theorem k_negE2 : ∀ x, x.ok → (o_negE2 x).ok := by
  intro x hx
  exact ⟨lim_ok _, lim_ok _⟩
theorem ac_negE2 : AC Try.prog 70 [.W 8, .R 8] (rWRu c8 o_negE2 p_negE2) :=
  mkWRu (fn := Try.f70) (look_ok (e_negE2 negm lown) (env_M ac_fpNeg env_nil)) follows (by kernel_rfl) rfl G8 k_negE2 (run_negE2 _ _)

def s_e2Neg (o_negE2 : L8 → L8) : L8 → L8 := fun x => o_negE2 x
def q_e2Neg (p_negE2 : L8 → Prop) : L8 → Prop := fun x => (True ∧ p_negE2 x)
abbrev o_e2Neg : L8 → L8 := s_e2Neg o_negE2
abbrev p_e2Neg : L8 → Prop := q_e2Neg p_negE2
abbrev e_e2Neg (o_negE2 : L8 → L8) (p_negE2 : L8 → Prop) : List (Nat × Sm) :=
  [eM 70 [.W 8, .R 8] (rWRu c8 o_negE2 p_negE2)]
theorem run_e2Neg (o_negE2 : L8 → L8) (p_negE2 : L8 → Prop) : RunWR Try.prog (look (e_e2Neg o_negE2 p_negE2)) 1 Try.f45 8 c8 (fun x => sSame c8 (s_e2Neg o_negE2 x) (q_e2Neg p_negE2 x)) := ⟨fun _ _ _ _ => by kernel_rfl, fun _ _ _ => by kernel_rfl⟩
theorem k_e2Neg : ∀ x, x.ok → (o_e2Neg x).ok := by
  intro x hx
  exact k_negE2 x hx
theorem ac_e2Neg : AC Try.prog 45 [.W 8, .R 8] (rWR c8 o_e2Neg p_e2Neg) :=
  mkWR (fn := Try.f45) (look_ok (e_e2Neg o_negE2 p_negE2) (env_M ac_negE2 env_nil)) follows (by kernel_rfl) rfl G8 k_e2Neg (run_e2Neg _ _)

def s_impl2Neg (o_e2Neg : L8 → L8) : L8 → L8 := fun x => o_e2Neg x
def q_impl2Neg (p_e2Neg : L8 → Prop) : L8 → Prop := fun x => (True ∧ p_e2Neg x)
abbrev o_impl2Neg : L8 → L8 := s_impl2Neg o_e2Neg
abbrev p_impl2Neg : L8 → Prop := q_impl2Neg p_e2Neg
abbrev e_impl2Neg (o_e2Neg : L8 → L8) (p_e2Neg : L8 → Prop) : List (Nat × Sm) :=
  [eM 45 [.W 8, .R 8] (rWR c8 o_e2Neg p_e2Neg), eV 41 [.V] rSame8, eV 42 [.V] rSame8]
theorem run_impl2Neg (o_e2Neg : L8 → L8) (p_e2Neg : L8 → Prop) : Run1 Try.prog (look (e_impl2Neg o_e2Neg p_e2Neg)) 1 Try.f17 .V c8.agg (fun x => sVal c8 (s_impl2Neg o_e2Neg x) (q_impl2Neg p_e2Neg x)) := fun _ _ => by kernel_rfl
theorem k_impl2Neg : ∀ x, x.ok → (o_impl2Neg x).ok := by
  intro x hx
  exact k_e2Neg x hx
theorem ac_impl2Neg : AC Try.prog 17 [.V] (rV c8 c8 o_impl2Neg p_impl2Neg) :=
  mkV (fn := Try.f17) (look_ok (e_impl2Neg o_e2Neg p_e2Neg) (env_M ac_e2Neg (env_V ac_made2 (env_V ac_told2 env_nil)))) follows (by kernel_rfl) rfl G8 G8 k_impl2Neg (run_impl2Neg _ _)

def s_addE2g (o_fpAdd : L4 → L4 → L4) : L8 → L8 → L8 := fun x y => ⟨o_fpAdd x.p y.p, o_fpAdd x.q y.q⟩
def q_addE2g (p_fpAdd : L4 → L4 → Prop) : L8 → L8 → Prop := fun x y => ((True ∧ p_fpAdd x.p y.p) ∧ p_fpAdd x.q y.q)
abbrev o_addE2g : L8 → L8 → L8 := s_addE2g (addm qL)
abbrev p_addE2g : L8 → L8 → Prop := q_addE2g (lowm qL)
abbrev e_addE2g (o_fpAdd : L4 → L4 → L4) (p_fpAdd : L4 → L4 → Prop) : List (Nat × Sm) :=
  [eM 78 [.W 4, .R 4, .R 4] (rOp o_fpAdd p_fpAdd)]
theorem run_addE2g (o_fpAdd : L4 → L4 → L4) (p_fpAdd : L4 → L4 → Prop) : RunWRR Try.prog (look (e_addE2g o_fpAdd p_fpAdd)) 1 Try.f89 8 c8 (fun x y => sUnit c8 (s_addE2g o_fpAdd x y) (q_addE2g p_fpAdd x y)) :=
  ⟨fun _ _ _ _ _ _ => by kernel_rfl, fun _ _ _ _ _ => by kernel_rfl, fun _ _ _ _ _ => by kernel_rfl, fun _ _ _ _ => by kernel_rfl⟩
theorem k_addE2g : ∀ x y, x.ok → y.ok → (o_addE2g x y).ok := by
  intro x y hx hy
  exact ⟨lim_ok _, lim_ok _⟩
theorem ac_addE2g : AC Try.prog 89 [.W 8, .R 8, .R 8] (rWRRu c8 o_addE2g p_addE2g) :=
  mkWRRu (fn := Try.f89) (look_ok (e_addE2g (addm qL) (lowm qL)) (env_M ac_fpAdd env_nil)) follows (by kernel_rfl) rfl G8 k_addE2g (run_addE2g _ _)

def s_e2Add (o_addE2g : L8 → L8 → L8) : L8 → L8 → L8 := fun x y => o_addE2g x y
def q_e2Add (p_addE2g : L8 → L8 → Prop) : L8 → L8 → Prop := fun x y => (True ∧ p_addE2g x y)
abbrev o_e2Add : L8 → L8 → L8 := s_e2Add o_addE2g
abbrev p_e2Add : L8 → L8 → Prop := q_e2Add p_addE2g
abbrev e_e2Add (o_addE2g : L8 → L8 → L8) (p_addE2g : L8 → L8 → Prop) : List (Nat × Sm) :=
  [eM 89 [.W 8, .R 8, .R 8] (rWRRu c8 o_addE2g p_addE2g)]
theorem run_e2Add (o_addE2g : L8 → L8 → L8) (p_addE2g : L8 → L8 → Prop) : RunWRR Try.prog (look (e_e2Add o_addE2g p_addE2g)) 1 Try.f74 8 c8 (fun x y => sSame c8 (s_e2Add o_addE2g x y) (q_e2Add p_addE2g x y)) :=
  ⟨fun _ _ _ _ _ _ => by kernel_rfl, fun _ _ _ _ _ => by kernel_rfl, fun _ _ _ _ _ => by kernel_rfl, fun _ _ _ _ => by kernel_rfl⟩
theorem k_e2Add : ∀ x y, x.ok → y.ok → (o_e2Add x y).ok := by
  intro x y hx hy
  exact k_addE2g x y hx hy
theorem ac_e2Add : AC Try.prog 74 [.W 8, .R 8, .R 8] (rWRR c8 o_e2Add p_e2Add) :=
  mkWRR (fn := Try.f74) (look_ok (e_e2Add o_addE2g p_addE2g) (env_M ac_addE2g env_nil)) follows (by kernel_rfl) rfl G8 k_e2Add (run_e2Add _ _)

def s_plus2 (o_plusW : L4 → L4 → L4) : L8 → L8 → L8 := fun x y => ⟨o_plusW x.p y.p, o_plusW x.q y.q⟩
def q_plus2 (p_plusW : L4 → L4 → Prop) : L8 → L8 → Prop := fun x y => ((True ∧ p_plusW x.p y.p) ∧ p_plusW x.q y.q)
abbrev o_plus2 : L8 → L8 → L8 := s_plus2 (addm qL)
abbrev p_plus2 : L8 → L8 → Prop := q_plus2 (lowm qL)
abbrev e_plus2 (o_plusW : L4 → L4 → L4) (p_plusW : L4 → L4 → Prop) : List (Nat × Sm) :=
  [eV 48 [.V, .V] (rVV o_plusW p_plusW)]
theorem run_plus2 (o_plusW : L4 → L4 → L4) (p_plusW : L4 → L4 → Prop) : Run2 Try.prog (look (e_plus2 o_plusW p_plusW)) 1 Try.f21 .V .V c8.agg c8.agg (fun x y => sVal c8 (s_plus2 o_plusW x y) (q_plus2 p_plusW x y)) := fun _ _ _ _ => by kernel_rfl
theorem k_plus2 : ∀ x y, x.ok → y.ok → (o_plus2 x y).ok := by
  intro x y hx hy
  exact ⟨lim_ok _, lim_ok _⟩
theorem ac_plus2 : AC Try.prog 21 [.V, .V] (rVV2 c8 c8 o_plus2 p_plus2) :=
  mkVV (fn := Try.f21) (look_ok (e_plus2 (addm qL) (lowm qL)) (env_V ac_plusW env_nil)) follows (by kernel_rfl) rfl G8 G8 k_plus2 (run_plus2 _ _)

def s_minus2 (o_minusW : L4 → L4 → L4) : L8 → L8 → L8 := fun x y => ⟨o_minusW x.p y.p, o_minusW x.q y.q⟩
def q_minus2 (p_minusW : L4 → L4 → Prop) : L8 → L8 → Prop := fun x y => ((True ∧ p_minusW x.p y.p) ∧ p_minusW x.q y.q)
abbrev o_minus2 : L8 → L8 → L8 := s_minus2 (subm qL)
abbrev p_minus2 : L8 → L8 → Prop := q_minus2 (lowm qL)
abbrev e_minus2 (o_minusW : L4 → L4 → L4) (p_minusW : L4 → L4 → Prop) : List (Nat × Sm) :=
  [eV 44 [.V, .V] (rVV o_minusW p_minusW)]
theorem run_minus2 (o_minusW : L4 → L4 → L4) (p_minusW : L4 → L4 → Prop) : Run2 Try.prog (look (e_minus2 o_minusW p_minusW)) 1 Try.f18 .V .V c8.agg c8.agg (fun x y => sVal c8 (s_minus2 o_minusW x y) (q_minus2 p_minusW x y)) := fun _ _ _ _ => by kernel_rfl
theorem k_minus2 : ∀ x y, x.ok → y.ok → (o_minus2 x y).ok := by
  intro x y hx hy
  exact ⟨lim_ok _, lim_ok _⟩
theorem ac_minus2 : AC Try.prog 18 [.V, .V] (rVV2 c8 c8 o_minus2 p_minus2) :=
  mkVV (fn := Try.f18) (look_ok (e_minus2 (subm qL) (lowm qL)) (env_V ac_minusW env_nil)) follows (by kernel_rfl) rfl G8 G8 k_minus2 (run_minus2 _ _)

def s_e2Conj (o_fpNeg : L4 → L4) : L8 → L8 := fun x => ⟨x.p, o_fpNeg x.q⟩
def q_e2Conj (p_fpNeg : L4 → Prop) : L8 → Prop := fun x => (True ∧ p_fpNeg x.q)
abbrev o_e2Conj : L8 → L8 := s_e2Conj negm
abbrev p_e2Conj : L8 → Prop := q_e2Conj lown
abbrev e_e2Conj (o_fpNeg : L4 → L4) (p_fpNeg : L4 → Prop) : List (Nat × Sm) :=
  [eM 68 [.W 4, .R 4] (rWR c4 o_fpNeg p_fpNeg)]
theorem run_e2Conj (o_fpNeg : L4 → L4) (p_fpNeg : L4 → Prop) : RunWR Try.prog (look (e_e2Conj o_fpNeg p_fpNeg)) 1 Try.f43 8 c8 (fun x => sSame c8 (s_e2Conj o_fpNeg x) (q_e2Conj p_fpNeg x)) := ⟨fun _ _ _ _ => by kernel_rfl, fun _ _ _ => by kernel_rfl⟩
theorem k_e2Conj : ∀ x, x.ok → (o_e2Conj x).ok := by
  intro x hx
  exact ⟨hx.p, lim_ok _⟩
theorem ac_e2Conj : AC Try.prog 43 [.W 8, .R 8] (rWR c8 o_e2Conj p_e2Conj) :=
  mkWR (fn := Try.f43) (look_ok (e_e2Conj negm lown) (env_M ac_fpNeg env_nil)) follows (by kernel_rfl) rfl G8 k_e2Conj (run_e2Conj _ _)

def s_impl2Conj (o_e2Conj : L8 → L8) : L8 → L8 := fun x => o_e2Conj x
def q_impl2Conj (p_e2Conj : L8 → Prop) : L8 → Prop := fun x => (True ∧ p_e2Conj x)
abbrev o_impl2Conj : L8 → L8 := s_impl2Conj o_e2Conj
abbrev p_impl2Conj : L8 → Prop := q_impl2Conj p_e2Conj
abbrev e_impl2Conj (o_e2Conj : L8 → L8) (p_e2Conj : L8 → Prop) : List (Nat × Sm) :=
  [eM 43 [.W 8, .R 8] (rWR c8 o_e2Conj p_e2Conj), eV 41 [.V] rSame8, eV 42 [.V] rSame8]
theorem run_impl2Conj (o_e2Conj : L8 → L8) (p_e2Conj : L8 → Prop) : Run1 Try.prog (look (e_impl2Conj o_e2Conj p_e2Conj)) 1 Try.f15 .V c8.agg (fun x => sVal c8 (s_impl2Conj o_e2Conj x) (q_impl2Conj p_e2Conj x)) := fun _ _ => by kernel_rfl
theorem k_impl2Conj : ∀ x, x.ok → (o_impl2Conj x).ok := by
  intro x hx
  exact k_e2Conj x hx
theorem ac_impl2Conj : AC Try.prog 15 [.V] (rV c8 c8 o_impl2Conj p_impl2Conj) :=
  mkV (fn := Try.f15) (look_ok (e_impl2Conj o_e2Conj p_e2Conj) (env_M ac_e2Conj (env_V ac_made2 (env_V ac_told2 env_nil)))) follows (by kernel_rfl) rfl G8 G8 k_impl2Conj (run_impl2Conj _ _)

def s_conj2 (o_minusW : L4 → L4 → L4) : L8 → L8 := fun x => ⟨x.p, o_minusW z4 x.q⟩
def q_conj2 (p_minusW : L4 → L4 → Prop) : L8 → Prop := fun x => (True ∧ p_minusW z4 x.q)
abbrev o_conj2 : L8 → L8 := s_conj2 (subm qL)
abbrev p_conj2 : L8 → Prop := q_conj2 (lowm qL)
abbrev e_conj2 (o_minusW : L4 → L4 → L4) (p_minusW : L4 → L4 → Prop) : List (Nat × Sm) :=
  [eV 44 [.V, .V] (rVV o_minusW p_minusW)]
theorem run_conj2 (o_minusW : L4 → L4 → L4) (p_minusW : L4 → L4 → Prop) : Run1 Try.prog (look (e_conj2 o_minusW p_minusW)) 1 Try.f16 .V c8.agg (fun x => sVal c8 (s_conj2 o_minusW x) (q_conj2 p_minusW x)) := fun _ _ => by kernel_rfl
theorem k_conj2 : ∀ x, x.ok → (o_conj2 x).ok := by
  intro x hx
  exact ⟨hx.p, lim_ok _⟩
theorem ac_conj2 : AC Try.prog 16 [.V] (rV c8 c8 o_conj2 p_conj2) :=
  mkV (fn := Try.f16) (look_ok (e_conj2 (subm qL) (lowm qL)) (env_V ac_minusW env_nil)) follows (by kernel_rfl) rfl G8 G8 k_conj2 (run_conj2 _ _)

end Go.Proofs.Ytnhfgcoeibjagaa
