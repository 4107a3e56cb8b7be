/-
  Contracts by the shape of the parameters: the kernel's runs for each way in which they share places.
-/
import Derived.Test.YtbbifiogcpcpfaaDoorAri
namespace Go.Proofs.YtbbifiogcpcpfaaDoor
open Vm
variable {P : Program} {E : Env} {fn : Func} {α β γ : Type} {A : Cod α} {B : Cod β} {C : Cod γ}

def Cod.inj (C : Cod α) : Prop := ∀ x y, C.cells x = C.cells y → x = y
theorem i4 : c4.inj := fun x y h => by
  obtain ⟨a, b, c, d⟩ := x; obtain ⟨a', b', c', d'⟩ := y
  simp only [c4, L4.cells, List.cons.injEq, Value.int.injEq, true_and, and_true] at h
  simp only [L4.mk.injEq]; exact h
theorem len4 (x : L4) : x.cells.length = 4 := rfl
theorem len8 (x : L8) : x.cells.length = 8 := rfl
theorem len24 (x : L24) : x.cells.length = 24 := rfl
theorem i8 : c8.inj := fun x y h => by
  have h : x.p.cells ++ x.q.cells = y.p.cells ++ y.q.cells := h
  obtain ⟨h1, h2⟩ := List.append_inj h (by rw [len4, len4])
  obtain ⟨p, q⟩ := x; obtain ⟨p', q'⟩ := y
  have e1 := i4 p p' h1
  have e2 := i4 q q' h2
  subst e1; subst e2; rfl
theorem i24 : c24.inj := fun x y h => by
  have h : x.p.cells ++ (x.q.cells ++ x.r.cells) = y.p.cells ++ (y.q.cells ++ y.r.cells) := h
  obtain ⟨h1, h2⟩ := List.append_inj h (by rw [len8, len8])
  obtain ⟨h2, h3⟩ := List.append_inj h2 (by rw [len8, len8])
  obtain ⟨p, q, r⟩ := x; obtain ⟨p', q', r'⟩ := y
  have e1 := i8 p p' h1
  have e2 := i8 q q' h2
  have e3 := i8 r r' h3
  subst e1; subst e2; subst e3; rfl
theorem i48 : c48.inj := fun x y h => by
  have h : x.p.cells ++ x.q.cells = y.p.cells ++ y.q.cells := h
  obtain ⟨h1, h2⟩ := List.append_inj h (by rw [len24, len24])
  obtain ⟨p, q⟩ := x; obtain ⟨p', q'⟩ := y
  have e1 := i24 p p' h1
  have e2 := i24 q q' h2
  subst e1; subst e2; rfl
theorem c4a : c4.agg.sound := agg_sound c4_sound
theorem c8a : c8.agg.sound := agg_sound c8_sound
theorem c24a : c24.agg.sound := agg_sound c24_sound
theorem c48a : c48.agg.sound := agg_sound c48_sound

/-- One parameter, only read. -/
def Run1 (P : Program) (E : Env) (m : Nat) (fn : Func) (k : PK) (A : Cod α) (T : α → Option Seen) : Prop :=
  ∀ x c1, runs P E m fn [k] [none] [A.cells x] [c1] = T x
theorem run1 {m : Nat} {k : PK} {T : α → Option Seen} {F : α → Res} (hA : A.sound) (hk : alsOf [k] [k] = [[none]]) (hr : Run1 P E m fn k A T)
    (h : ∀ x, inOK (A.cells x) → resOK (F x) ∧ (Vm.due (F x).2.2 → Sees (F x).1 (F x).2.1 (T x))) : RunOK P E fn [k] (g1 A F) :=
  runOK1 hA fun x hx => ⟨(h x hx).1, fun hd al has _ c1 => ⟨m, by
    rw [hk, List.mem_singleton] at has
    subst has
    exact sees_of (hr x c1) ((h x hx).2 hd)⟩⟩
/-- Two parameters, only read. -/
def Run2 (P : Program) (E : Env) (m : Nat) (fn : Func) (k l : PK) (A : Cod α) (B : Cod β) (T : α → β → Option Seen) : Prop :=
  ∀ x y c1 c2, runs P E m fn [k, l] [none, none] [A.cells x, B.cells y] [c1, c2] = T x y
theorem run2 {m : Nat} {k l : PK} {T : α → β → Option Seen} {F : α → β → Res} (hA : A.sound) (hB : B.sound) (hk : alsOf [k, l] [k, l] = [[none, none]]) (hr : Run2 P E m fn k l A B T)
    (h : ∀ x y, inOK (A.cells x) → inOK (B.cells y) → resOK (F x y) ∧ (Vm.due (F x y).2.2 → Sees (F x y).1 (F x y).2.1 (T x y))) : RunOK P E fn [k, l] (g2 A B F) :=
  runOK2 hA hB fun x y hx hy => ⟨(h x y hx hy).1, fun hd al has _ c1 c2 => ⟨m, by
    rw [hk, List.mem_singleton] at has
    subst has
    exact sees_of (hr x y c1 c2) ((h x y hx hy).2 hd)⟩⟩
def Run3 (P : Program) (E : Env) (m : Nat) (fn : Func) (k l o : PK) (A : Cod α) (B : Cod β) (C : Cod γ) (T : α → β → γ → Option Seen) : Prop :=
  ∀ x y z c1 c2 c3, runs P E m fn [k, l, o] [none, none, none] [A.cells x, B.cells y, C.cells z] [c1, c2, c3] = T x y z
theorem run3 {m : Nat} {k l o : PK} {T : α → β → γ → Option Seen} {F : α → β → γ → Res} (hA : A.sound) (hB : B.sound) (hC : C.sound) (hk : alsOf [k, l, o] [k, l, o] = [[none, none, none]]) (hr : Run3 P E m fn k l o A B C T)
    (h : ∀ x y z, inOK (A.cells x) → inOK (B.cells y) → inOK (C.cells z) → resOK (F x y z) ∧ (Vm.due (F x y z).2.2 → Sees (F x y z).1 (F x y z).2.1 (T x y z))) : RunOK P E fn [k, l, o] (g3 A B C F) :=
  runOK3 hA hB hC fun x y z hx hy hz => ⟨(h x y z hx hy hz).1, fun hd al has _ c1 c2 c3 => ⟨m, by
    rw [hk, List.mem_singleton] at has
    subst has
    exact sees_of (hr x y z c1 c2 c3) ((h x y z hx hy hz).2 hd)⟩⟩
/-- One written, one read. -/
structure RunWR (P : Program) (E : Env) (m : Nat) (fn : Func) (n : Nat) (A : Cod α) (T : α → Option Seen) : Prop where
  r1 : ∀ z x c1 c2, runs P E m fn [.W n, .R n] [none, none] [A.cells z, A.cells x] [c1, c2] = T x
  r2 : ∀ x c1 c2, runs P E m fn [.W n, .R n] [none, some 0] [A.cells x, A.cells x] [c1, c2] = T x
theorem runWR {m n : Nat} {T : α → Option Seen} {F : α → Res} (hA : A.sound) (hi : A.inj) (hr : RunWR P E m fn n A T)
    (h : ∀ x, inOK (A.cells x) → resOK (F x) ∧ (Vm.due (F x).2.2 → Sees (F x).1 (F x).2.1 (T x))) : RunOK P E fn [.W n, .R n] (g2 A A fun _ x => F x) :=
  runOK2 hA hA fun z x hz hx => ⟨(h x hx).1, fun hd al has hsame c1 c2 => ⟨m, by
    have has : al = [none, none] ∨ al = [none, some 0] := by
      simpa [alsOf, wsOf] using has
    rcases has with rfl | rfl
    · exact sees_of (hr.r1 z x c1 c2) ((h x hx).2 hd)
    · obtain rfl := hi _ _ (Option.some.inj hsame.1)
      exact sees_of (hr.r2 z c1 c2) ((h z hx).2 hd)⟩⟩
/-- One written, two read. -/
structure RunWRR (P : Program) (E : Env) (m : Nat) (fn : Func) (n : Nat) (A : Cod α) (T : α → α → Option Seen) : Prop where
  r1 : ∀ z x y c1 c2 c3, runs P E m fn [.W n, .R n, .R n] [none, none, none] [A.cells z, A.cells x, A.cells y] [c1, c2, c3] = T x y
  r2 : ∀ x y c1 c2 c3, runs P E m fn [.W n, .R n, .R n] [none, some 0, none] [A.cells x, A.cells x, A.cells y] [c1, c2, c3] = T x y
  r3 : ∀ x y c1 c2 c3, runs P E m fn [.W n, .R n, .R n] [none, none, some 0] [A.cells y, A.cells x, A.cells y] [c1, c2, c3] = T x y
  r4 : ∀ x c1 c2 c3, runs P E m fn [.W n, .R n, .R n] [none, some 0, some 0] [A.cells x, A.cells x, A.cells x] [c1, c2, c3] = T x x
theorem runWRR {m n : Nat} {T : α → α → Option Seen} {F : α → α → Res} (hA : A.sound) (hi : A.inj) (hr : RunWRR P E m fn n A T)
    (h : ∀ x y, inOK (A.cells x) → inOK (A.cells y) → resOK (F x y) ∧ (Vm.due (F x y).2.2 → Sees (F x y).1 (F x y).2.1 (T x y))) : RunOK P E fn [.W n, .R n, .R n] (g3 A A A fun _ x y => F x y) :=
  runOK3 hA hA hA fun z x y hz hx hy => ⟨(h x y hx hy).1, fun hd al has hsame c1 c2 c3 => ⟨m, by
    have has : al = [none, none, none] ∨ al = [none, none, some 0] ∨ al = [none, some 0, none] ∨ al = [none, some 0, some 0] := by
      simpa [alsOf, wsOf] using has
    rcases has with rfl | rfl | rfl | rfl
    · exact sees_of (hr.r1 z x y c1 c2 c3) ((h x y hx hy).2 hd)
    · obtain rfl := hi _ _ (Option.some.inj hsame.1)
      exact sees_of (hr.r3 x z c1 c2 c3) ((h x z hx hy).2 hd)
    · obtain rfl := hi _ _ (Option.some.inj hsame.1)
      exact sees_of (hr.r2 z y c1 c2 c3) ((h z y hx hy).2 hd)
    · obtain rfl := hi _ _ (Option.some.inj hsame.1)
      obtain rfl := hi _ _ (Option.some.inj hsame.2.1)
      exact sees_of (hr.r4 z c1 c2 c3) ((h z z hx hy).2 hd)⟩⟩
/-- One written, a plain value, two read. -/
structure RunWVRR (P : Program) (E : Env) (m : Nat) (fn : Func) (n : Nat) (B : Cod β) (A : Cod α) (T : β → α → α → Option Seen) : Prop where
  r1 : ∀ z v x y c1 c2 c3 c4, runs P E m fn [.W n, .V, .R n, .R n] [none, none, none, none] [A.cells z, B.cells v, A.cells x, A.cells y] [c1, c2, c3, c4] = T v x y
  r2 : ∀ v x y c1 c2 c3 c4, runs P E m fn [.W n, .V, .R n, .R n] [none, none, some 0, none] [A.cells x, B.cells v, A.cells x, A.cells y] [c1, c2, c3, c4] = T v x y
  r3 : ∀ v x y c1 c2 c3 c4, runs P E m fn [.W n, .V, .R n, .R n] [none, none, none, some 0] [A.cells y, B.cells v, A.cells x, A.cells y] [c1, c2, c3, c4] = T v x y
  r4 : ∀ v x c1 c2 c3 c4, runs P E m fn [.W n, .V, .R n, .R n] [none, none, some 0, some 0] [A.cells x, B.cells v, A.cells x, A.cells x] [c1, c2, c3, c4] = T v x x
theorem runWVRR {m n : Nat} {T : β → α → α → Option Seen} {F : β → α → α → Res} (hB : B.sound) (hA : A.sound) (hi : A.inj) (hr : RunWVRR P E m fn n B A T)
    (h : ∀ v x y, inOK (B.cells v) → inOK (A.cells x) → inOK (A.cells y) → resOK (F v x y) ∧ (Vm.due (F v x y).2.2 → Sees (F v x y).1 (F v x y).2.1 (T v x y))) :
    RunOK P E fn [.W n, .V, .R n, .R n] (g4 A B A A fun _ v x y => F v x y) :=
  runOK4 hA hB hA hA fun z v x y hz hv hx hy => ⟨(h v x y hv hx hy).1, fun hd al has hsame c1 c2 c3 c4 => ⟨m, by
    have has : al = [none, none, none, none] ∨ al = [none, none, none, some 0] ∨ al = [none, none, some 0, none] ∨ al = [none, none, some 0, some 0] := by
      simpa [alsOf, wsOf] using has
    rcases has with rfl | rfl | rfl | rfl
    · exact sees_of (hr.r1 z v x y c1 c2 c3 c4) ((h v x y hv hx hy).2 hd)
    · obtain rfl := hi _ _ (Option.some.inj hsame.1)
      exact sees_of (hr.r3 v x z c1 c2 c3 c4) ((h v x z hv hx hy).2 hd)
    · obtain rfl := hi _ _ (Option.some.inj hsame.1)
      exact sees_of (hr.r2 v z y c1 c2 c3 c4) ((h v z y hv hx hy).2 hd)
    · obtain rfl := hi _ _ (Option.some.inj hsame.1)
      obtain rfl := hi _ _ (Option.some.inj hsame.2.1)
      exact sees_of (hr.r4 v z c1 c2 c3 c4) ((h v z z hv hx hy).2 hd)⟩⟩
/-- One, written. -/
def RunW (P : Program) (E : Env) (m : Nat) (fn : Func) (n : Nat) (A : Cod α) (T : α → Option Seen) : Prop :=
  ∀ x c1, runs P E m fn [.W n] [none] [A.cells x] [c1] = T x
theorem runW {m n : Nat} {T : α → Option Seen} {F : α → Res} (hA : A.sound) (hr : RunW P E m fn n A T)
    (h : ∀ x, inOK (A.cells x) → resOK (F x) ∧ (Vm.due (F x).2.2 → Sees (F x).1 (F x).2.1 (T x))) : RunOK P E fn [.W n] (g1 A F) :=
  run1 hA rfl hr h
end Go.Proofs.YtbbifiogcpcpfaaDoor
