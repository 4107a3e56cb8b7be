/-
  The forms in which functions over words are told, and from a run in such a form to the contract.
-/
import Derived.Test.YtbbifiogcpcpfaaFpAdd
namespace Go.Proofs.Ytbbifiogcpcpfaa
open Vm

section
variable {α β γ : Type}
def avC (C : Cod α) (x : α) : Value := .agg (C.cells x).toArray
structure GoodC (C : Cod α) (K : α → Prop) : Prop where
  sound : C.sound
  inj : C.inj
  inn : ∀ x, inOK (C.cells x) → K x
  out : ∀ x, K x → ∀ u ∈ C.cells x, ok0 [] u
theorem G4 : GoodC c4 L4.ok := ⟨c4_sound, i4, fun _ h => in4 h, fun _ h => ok4.2 h⟩
theorem G8 : GoodC c8 L8.ok := ⟨c8_sound, i8, fun _ h => in8 h, fun _ h => ok8.2 h⟩
theorem G24 : GoodC c24 L24.ok := ⟨c24_sound, i24, fun _ h => in24 h, fun _ h => ok24.2 h⟩
theorem G48 : GoodC c48 L48.ok := ⟨c48_sound, i48, fun _ h => in48 h, fun _ h => ok48.2 h⟩
theorem GoodC.agg {C : Cod α} {K : α → Prop} (h : GoodC C K) {x : α} (hx : inOK (C.agg.cells x)) : K x :=
  h.inn x fun u hu => ok2_of_ok0 (hx (.agg (C.cells x).toArray) (by simp [Cod.agg]) u (by simpa using hu))
theorem GoodC.val {C : Cod α} {K : α → Prop} (h : GoodC C K) {x : α} (hx : K x) : ok2 [] (avC C x) := ok2_agg (h.out x hx)

def rWRR (C : Cod α) (o : α → α → α) (p : α → α → Prop) : Gf := g3 C C C fun _ x y => ([C.cells (o x y)], .same 0, some (p x y))
def rWRRu (C : Cod α) (o : α → α → α) (p : α → α → Prop) : Gf := g3 C C C fun _ x y => ([C.cells (o x y)], .val (.tuple #[]), some (p x y))
def rWR (C : Cod α) (o : α → α) (p : α → Prop) : Gf := g2 C C fun _ x => ([C.cells (o x)], .same 0, some (p x))
def rWRu (C : Cod α) (o : α → α) (p : α → Prop) : Gf := g2 C C fun _ x => ([C.cells (o x)], .val (.tuple #[]), some (p x))
def rWs (C : Cod α) (o : α → α) (p : α → Prop) : Gf := g1 C fun x => ([C.cells (o x)], .same 0, some (p x))
def rWu (C : Cod α) (o : α → α) (p : α → Prop) : Gf := g1 C fun x => ([C.cells (o x)], .val (.tuple #[]), some (p x))
def rRb (C : Cod α) (f : α → Bool) (p : α → Prop) : Gf := g1 C fun x => ([], .val (.bool (f x)), some (p x))
def rRRb (C : Cod α) (f : α → α → Bool) (p : α → α → Prop) : Gf := g2 C C fun x y => ([], .val (.bool (f x y)), some (p x y))
def rV (C : Cod α) (D : Cod β) (o : α → β) (p : α → Prop) : Gf := g1 C.agg fun x => ([], .val (avC D (o x)), some (p x))
def rVV2 (C : Cod α) (D : Cod β) (o : α → α → β) (p : α → α → Prop) : Gf := g2 C.agg C.agg fun x y => ([], .val (avC D (o x y)), some (p x y))
def rVb (C : Cod α) (f : α → Bool) (p : α → Prop) : Gf := g1 C.agg fun x => ([], .val (.bool (f x)), some (p x))
def rVVb (C : Cod α) (f : α → α → Bool) (p : α → α → Prop) : Gf := g2 C.agg C.agg fun x y => ([], .val (.bool (f x y)), some (p x y))
def sSame (C : Cod α) (z : α) (φ : Prop) : Option Seen := some ⟨[C.cells z], .same 0, φ⟩
def sUnit (C : Cod α) (z : α) (φ : Prop) : Option Seen := some ⟨[C.cells z], .val (.tuple #[]), φ⟩
def sVal (C : Cod α) (z : α) (φ : Prop) : Option Seen := some ⟨[], .val (avC C z), φ⟩
def sBool (b : Bool) (φ : Prop) : Option Seen := some ⟨[], .val (.bool b), φ⟩

variable {P : Program} {E : Env} {f : FuncId} {fn : Func} {m n : Nat} {C : Cod α} {D : Cod β} {K : α → Prop} {K' : β → Prop}
theorem mkWRR (hE : EnvOK P E) (hm : P.follows .mixedOrders = true) (hf : P.funcs[f]? = some fn) (hn : (fn.name == "runtime.NumGoroutine") = false) (hC : GoodC C K) {o : α → α → α} {p : α → α → Prop}
    (hk : ∀ x y, K x → K y → K (o x y)) (hr : RunWRR P E m fn n C fun x y => sSame C (o x y) (p x y)) (hal : E.al = [] := by rfl) : AC P f [.W n, .R n, .R n] (rWRR C o p) :=
  ac_of_run hE hm hf hn (runWRR hC.sound hC.inj hr fun x y hx hy => ⟨res_same (hC.out _ (hk x y (hC.inn x hx) (hC.inn y hy))), fun hd => .mk' hd rfl rfl⟩) hal
theorem mkWRRu (hE : EnvOK P E) (hm : P.follows .mixedOrders = true) (hf : P.funcs[f]? = some fn) (hn : (fn.name == "runtime.NumGoroutine") = false) (hC : GoodC C K) {o : α → α → α} {p : α → α → Prop}
    (hk : ∀ x y, K x → K y → K (o x y)) (hr : RunWRR P E m fn n C fun x y => sUnit C (o x y) (p x y)) (hal : E.al = [] := by rfl) : AC P f [.W n, .R n, .R n] (rWRRu C o p) :=
  ac_of_run hE hm hf hn (runWRR hC.sound hC.inj hr fun x y hx hy => ⟨res_upd (hC.out _ (hk x y (hC.inn x hx) (hC.inn y hy))) unit_ok, fun hd => .mk' hd rfl rfl⟩) hal
theorem mkWR (hE : EnvOK P E) (hm : P.follows .mixedOrders = true) (hf : P.funcs[f]? = some fn) (hn : (fn.name == "runtime.NumGoroutine") = false) (hC : GoodC C K) {o : α → α} {p : α → Prop}
    (hk : ∀ x, K x → K (o x)) (hr : RunWR P E m fn n C fun x => sSame C (o x) (p x)) (hal : E.al = [] := by rfl) : AC P f [.W n, .R n] (rWR C o p) :=
  ac_of_run hE hm hf hn (runWR hC.sound hC.inj hr fun x hx => ⟨res_same (hC.out _ (hk x (hC.inn x hx))), fun hd => .mk' hd rfl rfl⟩) hal
theorem mkWRu (hE : EnvOK P E) (hm : P.follows .mixedOrders = true) (hf : P.funcs[f]? = some fn) (hn : (fn.name == "runtime.NumGoroutine") = false) (hC : GoodC C K) {o : α → α} {p : α → Prop}
    (hk : ∀ x, K x → K (o x)) (hr : RunWR P E m fn n C fun x => sUnit C (o x) (p x)) (hal : E.al = [] := by rfl) : AC P f [.W n, .R n] (rWRu C o p) :=
  ac_of_run hE hm hf hn (runWR hC.sound hC.inj hr fun x hx => ⟨res_upd (hC.out _ (hk x (hC.inn x hx))) unit_ok, fun hd => .mk' hd rfl rfl⟩) hal
theorem mkWs (hE : EnvOK P E) (hm : P.follows .mixedOrders = true) (hf : P.funcs[f]? = some fn) (hn : (fn.name == "runtime.NumGoroutine") = false) (hC : GoodC C K) {o : α → α} {p : α → Prop}
    (hk : ∀ x, K x → K (o x)) (hr : RunW P E m fn n C fun x => sSame C (o x) (p x)) (hal : E.al = [] := by rfl) : AC P f [.W n] (rWs C o p) :=
  ac_of_run hE hm hf hn (runW hC.sound hr fun x hx => ⟨res_same (hC.out _ (hk x (hC.inn x hx))), fun hd => .mk' hd rfl rfl⟩) hal
theorem mkWu (hE : EnvOK P E) (hm : P.follows .mixedOrders = true) (hf : P.funcs[f]? = some fn) (hn : (fn.name == "runtime.NumGoroutine") = false) (hC : GoodC C K) {o : α → α} {p : α → Prop}
    (hk : ∀ x, K x → K (o x)) (hr : RunW P E m fn n C fun x => sUnit C (o x) (p x)) (hal : E.al = [] := by rfl) : AC P f [.W n] (rWu C o p) :=
  ac_of_run hE hm hf hn (runW hC.sound hr fun x hx => ⟨res_upd (hC.out _ (hk x (hC.inn x hx))) unit_ok, fun hd => .mk' hd rfl rfl⟩) hal
theorem mkRb (hE : EnvOK P E) (hm : P.follows .mixedOrders = true) (hf : P.funcs[f]? = some fn) (hn : (fn.name == "runtime.NumGoroutine") = false) (hC : GoodC C K) {o : α → Bool} {p : α → Prop}
    (hr : Run1 P E m fn (.R n) C fun x => sBool (o x) (p x)) (hal : E.al = [] := by rfl) : AC P f [.R n] (rRb C o p) :=
  ac_of_run hE hm hf hn (run1 hC.sound rfl hr fun _ _ => ⟨res_val trivial, fun hd => .mk' hd rfl rfl⟩) hal
theorem mkRRb (hE : EnvOK P E) (hm : P.follows .mixedOrders = true) (hf : P.funcs[f]? = some fn) (hn : (fn.name == "runtime.NumGoroutine") = false) (hC : GoodC C K) {o : α → α → Bool} {p : α → α → Prop}
    (hr : Run2 P E m fn (.R n) (.R n) C C fun x y => sBool (o x y) (p x y)) (hal : E.al = [] := by rfl) : AC P f [.R n, .R n] (rRRb C o p) :=
  ac_of_run hE hm hf hn (run2 hC.sound hC.sound rfl hr fun _ _ _ _ => ⟨res_val trivial, fun hd => .mk' hd rfl rfl⟩) hal
theorem mkV (hE : EnvOK P E) (hm : P.follows .mixedOrders = true) (hf : P.funcs[f]? = some fn) (hn : (fn.name == "runtime.NumGoroutine") = false) (hC : GoodC C K) (hD : GoodC D K') {o : α → β} {p : α → Prop}
    (hk : ∀ x, K x → K' (o x)) (hr : Run1 P E m fn .V C.agg fun x => sVal D (o x) (p x)) (hal : E.al = [] := by rfl) : AC P f [.V] (rV C D o p) :=
  ac_of_run hE hm hf hn (run1 (agg_sound hC.sound) rfl hr fun x hx => ⟨res_val (hD.val (hk x (hC.agg hx))), fun hd => .mk' hd rfl rfl⟩) hal
theorem mkVV (hE : EnvOK P E) (hm : P.follows .mixedOrders = true) (hf : P.funcs[f]? = some fn) (hn : (fn.name == "runtime.NumGoroutine") = false) (hC : GoodC C K) (hD : GoodC D K') {o : α → α → β} {p : α → α → Prop}
    (hk : ∀ x y, K x → K y → K' (o x y)) (hr : Run2 P E m fn .V .V C.agg C.agg fun x y => sVal D (o x y) (p x y)) (hal : E.al = [] := by rfl) : AC P f [.V, .V] (rVV2 C D o p) :=
  ac_of_run hE hm hf hn (run2 (agg_sound hC.sound) (agg_sound hC.sound) rfl hr fun x y hx hy => ⟨res_val (hD.val (hk x y (hC.agg hx) (hC.agg hy))), fun hd => .mk' hd rfl rfl⟩) hal
theorem mkVb (hE : EnvOK P E) (hm : P.follows .mixedOrders = true) (hf : P.funcs[f]? = some fn) (hn : (fn.name == "runtime.NumGoroutine") = false) (hC : GoodC C K) {o : α → Bool} {p : α → Prop} {T : α → Option Seen}
    (hr : Run1 P E m fn .V C.agg T) (hT : ∀ x, T x = sBool (o x) (p x)) (hal : E.al = [] := by rfl) : AC P f [.V] (rVb C o p) :=
  ac_of_run hE hm hf hn (run1 (agg_sound hC.sound) rfl hr fun x _ => ⟨res_val trivial, fun hd => by rw [hT x]; exact .mk' hd rfl rfl⟩) hal

end
end Go.Proofs.Ytbbifiogcpcpfaa
