/-
  Numbers of four words, and how rows of cells tell them.
-/
import Derived.Test.YtbbifiogcpcpfaaDoorVmSee
namespace Go.Proofs.YtbbifiogcpcpfaaDoor
open Vm

/-- Four words, the least first. -/
structure L4 where
  a : Int
  b : Int
  c : Int
  d : Int
structure L8 where
  p : L4
  q : L4
structure L24 where
  p : L8
  q : L8
  r : L8
structure L48 where
  p : L24
  q : L24
def L4.cells (x : L4) : List Value := [.int .u64 x.a, .int .u64 x.b, .int .u64 x.c, .int .u64 x.d]
def L8.cells (x : L8) : List Value := [.int .u64 x.p.a, .int .u64 x.p.b, .int .u64 x.p.c, .int .u64 x.p.d, .int .u64 x.q.a, .int .u64 x.q.b, .int .u64 x.q.c, .int .u64 x.q.d]
def wordOK (n : Int) : Prop := 0 ≤ n ∧ n < 18446744073709551616
structure L4.ok (x : L4) : Prop where
  a : wordOK x.a
  b : wordOK x.b
  c : wordOK x.c
  d : wordOK x.d
structure L8.ok (x : L8) : Prop where
  p : x.p.ok
  q : x.q.ok
structure L24.ok (x : L24) : Prop where
  p : x.p.ok
  q : x.q.ok
  r : x.r.ok
structure L48.ok (x : L48) : Prop where
  p : x.p.ok
  q : x.q.ok

/-- The number. -/
def L4.v (x : L4) : Int := x.a + 18446744073709551616 * x.b + 340282366920938463463374607431768211456 * x.c + 6277101735386680763835789423207666416102355444464034512896 * x.d
/-- A number's four words. -/
def lim (n : Int) : L4 := ⟨n % 18446744073709551616, n / 18446744073709551616 % 18446744073709551616, n / 340282366920938463463374607431768211456 % 18446744073709551616,
  n / 6277101735386680763835789423207666416102355444464034512896 % 18446744073709551616⟩
theorem lim_ok (n : Int) : (lim n).ok := by
  refine ⟨?_, ?_, ?_, ?_⟩ <;> (simp only [wordOK, lim]; omega)
theorem v_bd {x : L4} (h : x.ok) : 0 ≤ x.v ∧ x.v < 115792089237316195423570985008687907853269984665640564039457584007913129639936 := by
  obtain ⟨⟨_, _⟩, ⟨_, _⟩, ⟨_, _⟩, ⟨_, _⟩⟩ := h
  unfold L4.v; omega
theorem v_lim {n : Int} (h0 : 0 ≤ n) (h1 : n < 115792089237316195423570985008687907853269984665640564039457584007913129639936) : (lim n).v = n := by
  simp only [L4.v, lim]; omega
theorem v_inj {x y : L4} (hx : x.ok) (hy : y.ok) (h : x.v = y.v) : x = y := by
  obtain ⟨⟨_, _⟩, ⟨_, _⟩, ⟨_, _⟩, ⟨_, _⟩⟩ := hx
  obtain ⟨⟨_, _⟩, ⟨_, _⟩, ⟨_, _⟩, ⟨_, _⟩⟩ := hy
  unfold L4.v at h
  obtain ⟨a, b, c, d⟩ := x
  obtain ⟨a', b', c', d'⟩ := y
  simp only at *
  simp only [L4.mk.injEq]
  omega
theorem eq_lim {x : L4} {n : Int} (hx : x.ok) (h : x.v = n) : x = lim n := by
  have hb := v_bd hx
  exact v_inj hx (lim_ok n) (by rw [v_lim (by omega) (by omega), h])

/-! ### Codes -/
structure Cod (α : Type) where
  n : Nat
  cells : α → List Value
  dec : List Value → Option α
def Cod.sound {α : Type} (C : Cod α) : Prop := ∀ l x, C.dec l = some x → l = C.cells x

def pop4 : List Value → Option (L4 × List Value)
  | .int .u64 a :: .int .u64 b :: .int .u64 c :: .int .u64 d :: r => some (⟨a, b, c, d⟩, r)
  | _ => none
def pop8 (l : List Value) : Option (L8 × List Value) :=
  match pop4 l with
  | some (x, l) => (match pop4 l with
    | some (y, l) => some (⟨x, y⟩, l)
    | none => none)
  | none => none
def pop24 (l : List Value) : Option (L24 × List Value) :=
  match pop8 l with
  | some (x, l) => (match pop8 l with
    | some (y, l) => (match pop8 l with
      | some (z, l) => some (⟨x, y, z⟩, l)
      | none => none)
    | none => none)
  | none => none
def pop48 (l : List Value) : Option (L48 × List Value) :=
  match pop24 l with
  | some (x, l) => (match pop24 l with
    | some (y, l) => some (⟨x, y⟩, l)
    | none => none)
  | none => none
def whole {α : Type} (p : List Value → Option (α × List Value)) (l : List Value) : Option α :=
  match p l with
  | some (x, []) => some x
  | _ => none
def L24.cells (x : L24) : List Value := x.p.cells ++ (x.q.cells ++ x.r.cells)
def L48.cells (x : L48) : List Value := x.p.cells ++ x.q.cells
def c4 : Cod L4 := ⟨4, L4.cells, whole pop4⟩
def c8 : Cod L8 := ⟨8, L8.cells, whole pop8⟩
def c24 : Cod L24 := ⟨24, L24.cells, whole pop24⟩
def c48 : Cod L48 := ⟨48, L48.cells, whole pop48⟩
/-- Handed over by value. -/
def Cod.agg {α : Type} (C : Cod α) : Cod α := ⟨1, fun x => [.agg (C.cells x).toArray], fun l => match l with
  | [.agg cs] => C.dec cs.toList
  | _ => none⟩
def cInt : Cod Int := ⟨1, fun n => [.int .i64 n], fun l => match l with
  | [.int .i64 n] => some n
  | _ => none⟩

theorem pop4_some {l r : List Value} {x : L4} (h : pop4 l = some (x, r)) : l = x.cells ++ r := by
  unfold pop4 at h
  split at h
  · simp only [Option.some.injEq, Prod.mk.injEq] at h; obtain ⟨rfl, rfl⟩ := h; rfl
  · cases h
theorem pop8_some {l r : List Value} {x : L8} (h : pop8 l = some (x, r)) : l = x.cells ++ r := by
  unfold pop8 at h
  split at h
  case h_2 => cases h
  rename_i a l1 h1
  split at h
  case h_2 => cases h
  rename_i b l2 h2
  simp only [Option.some.injEq, Prod.mk.injEq] at h
  obtain ⟨rfl, rfl⟩ := h
  rw [pop4_some h1, pop4_some h2]; rfl
theorem pop24_some {l r : List Value} {x : L24} (h : pop24 l = some (x, r)) : l = x.cells ++ r := by
  unfold pop24 at h
  split at h
  case h_2 => cases h
  rename_i a l1 h1
  split at h
  case h_2 => cases h
  rename_i b l2 h2
  split at h
  case h_2 => cases h
  rename_i c l3 h3
  simp only [Option.some.injEq, Prod.mk.injEq] at h
  obtain ⟨rfl, rfl⟩ := h
  rw [pop8_some h1, pop8_some h2, pop8_some h3]; simp [L24.cells]
theorem pop48_some {l r : List Value} {x : L48} (h : pop48 l = some (x, r)) : l = x.cells ++ r := by
  unfold pop48 at h
  split at h
  case h_2 => cases h
  rename_i a l1 h1
  split at h
  case h_2 => cases h
  rename_i b l2 h2
  simp only [Option.some.injEq, Prod.mk.injEq] at h
  obtain ⟨rfl, rfl⟩ := h
  rw [pop24_some h1, pop24_some h2]; simp [L48.cells]
theorem whole_some {α : Type} {p : List Value → Option (α × List Value)} {l : List Value} {x : α} (h : whole p l = some x) : p l = some (x, []) := by
  unfold whole at h
  split at h
  · rename_i hp; cases h; exact hp
  · cases h
theorem c4_sound : c4.sound := fun l x h => by simpa [c4] using pop4_some (whole_some h)
theorem c8_sound : c8.sound := fun l x h => by simpa [c8] using pop8_some (whole_some h)
theorem c24_sound : c24.sound := fun l x h => by simpa [c24] using pop24_some (whole_some h)
theorem c48_sound : c48.sound := fun l x h => by simpa [c48] using pop48_some (whole_some h)
theorem agg_sound {α : Type} {C : Cod α} (h : C.sound) : C.agg.sound := by
  intro l x hl
  simp only [Cod.agg] at hl
  split at hl
  · rename_i cs
    have := h _ _ hl
    simp only [Cod.agg, ← this]
  · cases hl
theorem cInt_sound : cInt.sound := by
  intro l x hl
  simp only [cInt] at hl
  split at hl
  · cases hl; rfl
  · cases hl

theorem ok4 {x : L4} : (∀ u ∈ x.cells, ok0 [] u) ↔ x.ok := by
  constructor
  · intro h
    exact ⟨u64_of (h _ (by simp [L4.cells])), u64_of (h _ (by simp [L4.cells])), u64_of (h _ (by simp [L4.cells])), u64_of (h _ (by simp [L4.cells]))⟩
  · intro ⟨h1, h2, h3, h4⟩ u hu
    simp only [L4.cells, List.mem_cons, List.not_mem_nil, or_false] at hu
    rcases hu with rfl | rfl | rfl | rfl
    · exact u64_ok h1.1 h1.2
    · exact u64_ok h2.1 h2.2
    · exact u64_ok h3.1 h3.2
    · exact u64_ok h4.1 h4.2
theorem cells8 (x : L8) : x.cells = x.p.cells ++ x.q.cells := rfl
theorem ok_app {l r : List Value} : (∀ u ∈ l ++ r, ok0 [] u) ↔ (∀ u ∈ l, ok0 [] u) ∧ ∀ u ∈ r, ok0 [] u := by
  simp only [List.mem_append, or_imp, forall_and]
theorem ok8 {x : L8} : (∀ u ∈ x.cells, ok0 [] u) ↔ x.ok := by
  rw [cells8, ok_app, ok4, ok4]; exact ⟨fun ⟨a, b⟩ => ⟨a, b⟩, fun ⟨a, b⟩ => ⟨a, b⟩⟩
theorem ok24 {x : L24} : (∀ u ∈ x.cells, ok0 [] u) ↔ x.ok := by
  rw [L24.cells, ok_app, ok_app, ok8, ok8, ok8]; exact ⟨fun ⟨a, b, c⟩ => ⟨a, b, c⟩, fun ⟨a, b, c⟩ => ⟨a, b, c⟩⟩
theorem ok48 {x : L48} : (∀ u ∈ x.cells, ok0 [] u) ↔ x.ok := by
  rw [L48.cells, ok_app, ok24, ok24]; exact ⟨fun ⟨a, b⟩ => ⟨a, b⟩, fun ⟨a, b⟩ => ⟨a, b⟩⟩
theorem ok2_int {k : IntKind} {n : Int} (h : ok2 [] (.int k n)) : ok0 [] (.int k n) := h
theorem in4 {x : L4} (h : ∀ u ∈ x.cells, ok2 [] u) : x.ok := ok4.1 fun u hu => by
  have := h u hu
  simp only [L4.cells, List.mem_cons, List.not_mem_nil, or_false] at hu
  rcases hu with rfl | rfl | rfl | rfl <;> exact this
theorem in8 {x : L8} (h : ∀ u ∈ x.cells, ok2 [] u) : x.ok := ⟨in4 fun u hu => h u (by rw [cells8]; exact List.mem_append_left _ hu), in4 fun u hu => h u (by rw [cells8]; exact List.mem_append_right _ hu)⟩
theorem in24 {x : L24} (h : ∀ u ∈ x.cells, ok2 [] u) : x.ok := by
  simp only [L24.cells, List.mem_append] at h
  exact ⟨in8 fun u hu => h u (.inl hu), in8 fun u hu => h u (.inr (.inl hu)), in8 fun u hu => h u (.inr (.inr hu))⟩
theorem in48 {x : L48} (h : ∀ u ∈ x.cells, ok2 [] u) : x.ok := by
  simp only [L48.cells, List.mem_append] at h
  exact ⟨in24 fun u hu => h u (.inl hu), in24 fun u hu => h u (.inr hu)⟩
theorem ok2_agg {cs : List Value} (h : ∀ u ∈ cs, ok0 [] u) : ok2 [] (.agg cs.toArray) := fun u hu => h u (by simpa using hu)
theorem agg4 {x : L4} (h : ∀ u ∈ c4.agg.cells x, ok2 [] u) : x.ok := ok4.1 fun u hu => h (.agg (c4.cells x).toArray) (by simp [Cod.agg]) u (by simpa [c4] using hu)
theorem agg8 {x : L8} (h : ∀ u ∈ c8.agg.cells x, ok2 [] u) : x.ok := ok8.1 fun u hu => h (.agg (c8.cells x).toArray) (by simp [Cod.agg]) u (by simpa [c8] using hu)
theorem agg24 {x : L24} (h : ∀ u ∈ c24.agg.cells x, ok2 [] u) : x.ok := ok24.1 fun u hu => h (.agg (c24.cells x).toArray) (by simp [Cod.agg]) u (by simpa [c24] using hu)
theorem agg48 {x : L48} (h : ∀ u ∈ c48.agg.cells x, ok2 [] u) : x.ok := ok48.1 fun u hu => h (.agg (c48.cells x).toArray) (by simp [Cod.agg]) u (by simpa [c48] using hu)

/-! ### Contracts by codes -/
abbrev Res := List (List Value) × RV × Option Prop
def g0 (F : Res) : Gf := fun cs => match cs with
  | [] => some F
  | _ => none
section
variable {α β γ δ : Type}
def g1 (A : Cod α) (F : α → Res) : Gf := fun cs => match cs with
  | [x] => (match A.dec x with
    | some x => some (F x)
    | none => none)
  | _ => none
def g2 (A : Cod α) (B : Cod β) (F : α → β → Res) : Gf := fun cs => match cs with
  | [x, y] => (match A.dec x with
    | some x => (match B.dec y with
      | some y => some (F x y)
      | none => none)
    | none => none)
  | _ => none
def g3 (A : Cod α) (B : Cod β) (C : Cod γ) (F : α → β → γ → Res) : Gf := fun cs => match cs with
  | [x, y, z] => (match A.dec x with
    | some x => (match B.dec y with
      | some y => (match C.dec z with
        | some z => some (F x y z)
        | none => none)
      | none => none)
    | none => none)
  | _ => none
def g4 (A : Cod α) (B : Cod β) (C : Cod γ) (D : Cod δ) (F : α → β → γ → δ → Res) : Gf := fun cs => match cs with
  | [x, y, z, u] => (match A.dec x with
    | some x => (match B.dec y with
      | some y => (match C.dec z with
        | some z => (match D.dec u with
          | some u => some (F x y z u)
          | none => none)
        | none => none)
      | none => none)
    | none => none)
  | _ => none
theorem g0_some {F : Res} {cs : List (List Value)} {r : Res} (h : g0 F cs = some r) : cs = [] ∧ r = F := by
  unfold g0 at h
  split at h
  · cases h; exact ⟨rfl, rfl⟩
  · cases h
theorem g1_some {A : Cod α} (hA : A.sound) {F : α → Res} {cs : List (List Value)} {r : Res} (h : g1 A F cs = some r) : ∃ x, cs = [A.cells x] ∧ r = F x := by
  unfold g1 at h
  split at h
  case h_2 => cases h
  rename_i l
  split at h
  case h_2 => cases h
  rename_i x hx
  cases h
  exact ⟨x, by rw [hA _ _ hx], rfl⟩
theorem g2_some {A : Cod α} {B : Cod β} (hA : A.sound) (hB : B.sound) {F : α → β → Res} {cs : List (List Value)} {r : Res} (h : g2 A B F cs = some r) : ∃ x y, cs = [A.cells x, B.cells y] ∧ r = F x y := by
  unfold g2 at h
  split at h
  case h_2 => cases h
  rename_i l m
  split at h
  case h_2 => cases h
  rename_i x hx
  split at h
  case h_2 => cases h
  rename_i y hy
  cases h
  exact ⟨x, y, by rw [hA _ _ hx, hB _ _ hy], rfl⟩
theorem g3_some {A : Cod α} {B : Cod β} {C : Cod γ} (hA : A.sound) (hB : B.sound) (hC : C.sound) {F : α → β → γ → Res} {cs : List (List Value)} {r : Res} (h : g3 A B C F cs = some r) :
    ∃ x y z, cs = [A.cells x, B.cells y, C.cells z] ∧ r = F x y z := by
  unfold g3 at h
  split at h
  case h_2 => cases h
  rename_i l m k
  split at h
  case h_2 => cases h
  rename_i x hx
  split at h
  case h_2 => cases h
  rename_i y hy
  split at h
  case h_2 => cases h
  rename_i z hz
  cases h
  exact ⟨x, y, z, by rw [hA _ _ hx, hB _ _ hy, hC _ _ hz], rfl⟩
theorem g4_some {A : Cod α} {B : Cod β} {C : Cod γ} {D : Cod δ} (hA : A.sound) (hB : B.sound) (hC : C.sound) (hD : D.sound) {F : α → β → γ → δ → Res} {cs : List (List Value)} {r : Res} (h : g4 A B C D F cs = some r) :
    ∃ x y z u, cs = [A.cells x, B.cells y, C.cells z, D.cells u] ∧ r = F x y z u := by
  unfold g4 at h
  split at h
  case h_2 => cases h
  rename_i l m k o
  split at h
  case h_2 => cases h
  rename_i x hx
  split at h
  case h_2 => cases h
  rename_i y hy
  split at h
  case h_2 => cases h
  rename_i z hz
  split at h
  case h_2 => cases h
  rename_i u hu
  cases h
  exact ⟨x, y, z, u, by rw [hA _ _ hx, hB _ _ hy, hC _ _ hz, hD _ _ hu], rfl⟩
end

/-! ### Environments -/
def lookF : List (Nat × Sm) → Nat → Option Sm
  | [], _ => none
  | (g, s) :: l, f => match Nat.beq g f with
    | true => some s
    | false => lookF l f
def byVal : Sm → Bool
  | .val _ => true
  | .mem _ => false
def onlyV : List (Nat × Sm) → Bool
  | [] => true
  | (_, s) :: l => byVal s && onlyV l
theorem only_spec : ∀ (l : List (Nat × Sm)), onlyV l = true → ∀ f s, lookF l f = some s → ∃ G, s = .val G
  | [], _, f, s, h => by cases h
  | (g, t) :: l, ho, f, s, h => by
    simp only [onlyV, Bool.and_eq_true] at ho
    simp only [lookF] at h
    split at h
    · cases h
      cases t with
      | val G => exact ⟨G, rfl⟩
      | mem F => cases ho.1
    · exact only_spec l ho.2 f s h
def look (l : List (Nat × Sm)) : Env := { fn := lookF l, only := onlyV l, ok := only_spec l }
theorem lookF_ok {P : Program} : ∀ (l : List (Nat × Sm)), (∀ p ∈ l, SmOK P p.1 p.2) → ∀ f s, lookF l f = some s → SmOK P f s
  | [], _, f, s, h => by cases h
  | (g, t) :: l, hl, f, s, h => by
    simp only [lookF] at h
    split at h
    · rename_i hg
      cases h
      have := Nat.eq_of_beq_eq_true hg
      subst this
      exact hl (g, t) (by simp)
    · exact lookF_ok l (fun p hp => hl p (by simp [hp])) f s h
theorem look_ok {P : Program} (l : List (Nat × Sm)) (hl : ∀ p ∈ l, SmOK P p.1 p.2) : EnvOK P (look l) := lookF_ok l hl
def eV (f : Nat) (ks : List PK) (g : Gf) : Nat × Sm := (f, .val (valG ks g))
def eM (f : Nat) (ks : List PK) (g : Gf) : Nat × Sm := (f, .mem (memF ks g))
theorem env_nil {P : Program} : ∀ p ∈ ([] : List (Nat × Sm)), SmOK P p.1 p.2 := fun p hp => by simp at hp
theorem env_V {P : Program} {f : Nat} {ks : List PK} {g : Gf} {l : List (Nat × Sm)} (h : AC P f ks g) (hl : ∀ p ∈ l, SmOK P p.1 p.2) : ∀ p ∈ eV f ks g :: l, SmOK P p.1 p.2 := fun p hp => by
  rcases List.mem_cons.1 hp with rfl | hp
  · exact val_ok h
  · exact hl p hp
theorem env_M {P : Program} {f : Nat} {ks : List PK} {g : Gf} {l : List (Nat × Sm)} (h : AC P f ks g) (hl : ∀ p ∈ l, SmOK P p.1 p.2) : ∀ p ∈ eM f ks g :: l, SmOK P p.1 p.2 := fun p hp => by
  rcases List.mem_cons.1 hp with rfl | hp
  · exact mem_ok h
  · exact hl p hp
end Go.Proofs.YtbbifiogcpcpfaaDoor
