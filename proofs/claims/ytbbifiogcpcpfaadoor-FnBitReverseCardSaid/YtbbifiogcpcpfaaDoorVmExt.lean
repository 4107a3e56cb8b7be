/-
  A small symbolic machine, part 18: the contracts of math/bits.Add64 and Sub64.
-/
import Derived.Test.YtbbifiogcpcpfaaDoorVmACr
namespace Go.Proofs.YtbbifiogcpcpfaaDoor
namespace Vm
section
variable {P : Program}

/-- Sum and carry, difference and what is owed, of words. -/
def sw (x y c : Int) : Int := (x + y + c) % 18446744073709551616
def kw (x y c : Int) : Int := (x + y + c) / 18446744073709551616
def bw (x y b : Int) : Int := (x - y - b) % 18446744073709551616
def ow (x y b : Int) : Int := if x < y + b then 1 else 0

def gW (s k : Int → Int → Int → Int) : Gf := fun cs => match cs with
  | [[.int .u64 x], [.int .u64 y], [.int .u64 c]] => some ([], .val (.tuple #[.int .u64 (s x y c), .int .u64 (k x y c)]), some (c ≤ 1))
  | _ => none

def subEntry : Array Value → Sem Value := fun args => do
  let (x, y, b) ← Extern.MathBitsCarry.three "Sub64" args
  pure (Extern.MathBitsCarry.pair ((x + Extern.MathBitsCarry.m64 - y - b) % Extern.MathBitsCarry.m64) (if x < y + b then 1 else 0))

theorem run_sub {P : Program} (x y c : Int) (hx : 0 ≤ x) (hy : 0 ≤ y) (hy2 : y ≤ 18446744073709551615) (hc0 : 0 ≤ c) (hc : c ≤ 1) (w : World) :
    (subEntry #[.int .u64 x, .int .u64 y, .int .u64 c]).run P w = .ok (.tuple #[.int .u64 (bw x y c), .int .u64 (ow x y c)]) w := by
  have key : ∀ k : Nat, k ≤ 1 → (subEntry #[.int .u64 x, .int .u64 y, .int .u64 (k : Int)]).run P w =
      .ok (Extern.MathBitsCarry.pair ((x.toNat + Extern.MathBitsCarry.m64 - y.toNat - k) % Extern.MathBitsCarry.m64) (if x.toNat < y.toNat + k then 1 else 0)) w := by
    intro k hk
    have : k = 0 ∨ k = 1 := by omega
    rcases this with rfl | rfl <;> rfl
  obtain ⟨k, rfl⟩ := Int.eq_ofNat_of_zero_le hc0
  rw [key k (by omega)]
  obtain ⟨X, rfl⟩ := Int.eq_ofNat_of_zero_le hx
  obtain ⟨Y, rfl⟩ := Int.eq_ofNat_of_zero_le hy
  have e1 : Int.ofNat ((X + Extern.MathBitsCarry.m64 - Y - k) % Extern.MathBitsCarry.m64) = bw X Y k := by
    simp only [Extern.MathBitsCarry.m64, bw, Int.ofNat_eq_natCast]; omega
  have e2 : Int.ofNat (if X < Y + k then 1 else 0) = ow X Y k := by
    simp only [ow, Int.ofNat_eq_natCast]; split <;> split <;> omega
  simp only [Extern.MathBitsCarry.pair, Int.toNat_natCast, e1, e2]

theorem calld_val {f : FuncId} {fn : Func} {e : Array Value → Sem Value} (hf : P.funcs[f]? = some fn) (hname : (fn.name == "runtime.NumGoroutine") = false)
    (hb : fn.body.isNone = true) (hn : Extern.findNext fn = none) (he : Extern.find fn = some e) {args : Array Value} {w : World} {v : Value} (h : (e args).run P w = .ok v w)
    {R : Value → World → Prop} (hR : R v w) : Calld P f args w R := by
  intro o a next Q hn'
  rw [run_callFunc_extern hf hname hb hn he args w, h]
  exact hn' v w hR

theorem three_V {ps : List AP} (hk : kindsOK ps [.V, .V, .V]) : ∃ a b c, ps = [.v a, .v b, .v c] := by
  cases ps with
  | nil => exact hk.elim
  | cons p ps => cases ps with
    | nil => exact hk.2.elim
    | cons q ps => cases ps with
      | nil => exact hk.2.2.elim
      | cons r ps => cases ps with
        | cons s ps => exact hk.2.2.2.elim
        | nil =>
          obtain ⟨h1, h2, h3, _⟩ := hk
          cases p <;> try exact h1.elim
          cases q <;> try exact h2.elim
          cases r <;> try exact h3.elim
          exact ⟨_, _, _, rfl⟩

theorem gW_some {s k : Int → Int → Int → Int} {a b c : Value} {news rv φ} (h : gW s k [[a], [b], [c]] = some (news, rv, φ)) :
    ∃ x y z, a = .int .u64 x ∧ b = .int .u64 y ∧ c = .int .u64 z ∧ news = [] ∧ rv = .val (.tuple #[.int .u64 (s x y z), .int .u64 (k x y z)]) ∧ φ = some (z ≤ 1) := by
  unfold gW at h
  split at h
  · rename_i x y z he
    simp only [List.cons.injEq, and_true] at he
    obtain ⟨rfl, rfl, rfl⟩ := he
    cases h
    exact ⟨x, y, z, rfl, rfl, rfl, rfl, rfl, rfl⟩
  · cases h

theorem u64_ok {hp : Hp} {n : Int} (h1 : 0 ≤ n) (h2 : n < 18446744073709551616) : ok0 hp (.int .u64 n) := ⟨h1, show n ≤ 18446744073709551615 by omega⟩
theorem u64_of {hp : Hp} {n : Int} (h : ok0 hp (.int .u64 n)) : 0 ≤ n ∧ n < 18446744073709551616 := ⟨h.1, by have : n ≤ 18446744073709551615 := h.2; omega⟩
theorem pair_ok {a b : Int} (h1 : 0 ≤ a) (h2 : a < 18446744073709551616) (h3 : 0 ≤ b) (h4 : b < 18446744073709551616) : ok2 [] (.tuple #[.int .u64 a, .int .u64 b]) := by
  intro u hu
  simp only [List.mem_toArray, List.mem_cons, List.not_mem_nil, or_false] at hu
  rcases hu with rfl | rfl
  · exact u64_ok (hp := []) h1 h2
  · exact u64_ok (hp := []) h3 h4

theorem ac_W {f : FuncId} {fn : Func} {e : Array Value → Sem Value} (hf : P.funcs[f]? = some fn) (hname : (fn.name == "runtime.NumGoroutine") = false)
    (hb : fn.body.isNone = true) (hn : Extern.findNext fn = none) (he : Extern.find fn = some e) {s k : Int → Int → Int → Int}
    (hrun : ∀ x y z w, 0 ≤ x → x < 18446744073709551616 → 0 ≤ y → y < 18446744073709551616 → 0 ≤ z → z ≤ 1 → (e #[.int .u64 x, .int .u64 y, .int .u64 z]).run P w = .ok (.tuple #[.int .u64 (s x y z), .int .u64 (k x y z)]) w)
    (hs : ∀ x y z, 0 ≤ s x y z ∧ s x y z < 18446744073709551616)
    (hkk : ∀ x y z, 0 ≤ x → x < 18446744073709551616 → 0 ≤ y → y < 18446744073709551616 → 0 ≤ z → z < 18446744073709551616 → 0 ≤ k x y z ∧ k x y z < 18446744073709551616) : AC P f [.V, .V, .V] (gW s k) := by
  intro ps news rv φ hk hg hok
  obtain ⟨a, b, c, rfl⟩ := three_V hk
  obtain ⟨x, y, z, rfl, rfl, rfl, rfl, rfl, rfl⟩ := gW_some hg
  have h1 := u64_of (hp := []) (hok (.v (.int .u64 x)) (by simp) (.int .u64 x) (by simp [AP.con]))
  have h2 := u64_of (hp := []) (hok (.v (.int .u64 y)) (by simp) (.int .u64 y) (by simp [AP.con]))
  have h3 := u64_of (hp := []) (hok (.v (.int .u64 z)) (by simp) (.int .u64 z) (by simp [AP.con]))
  have a1 := hs x y z
  have a2 := hkk x y z h1.1 h1.2 h2.1 h2.2 h3.1 h3.2
  refine ⟨⟨fun n hn => by simp at hn, pair_ok a1.1 a1.2 a2.1 a2.2⟩, fun w hl hd => ?_⟩
  exact calld_val hf hname hb hn he (hrun x y z w h1.1 h1.2 h2.1 h2.2 h3.1 hd) ⟨Fr.refl _ _, rfl, rfl⟩

theorem sw_bd (x y z : Int) : 0 ≤ sw x y z ∧ sw x y z < 18446744073709551616 := by unfold sw; omega
theorem bw_bd (x y z : Int) : 0 ≤ bw x y z ∧ bw x y z < 18446744073709551616 := by unfold bw; omega
theorem ow_bd (x y z : Int) : 0 ≤ ow x y z ∧ ow x y z < 18446744073709551616 := by unfold ow; split <;> omega

theorem ac_add64 {f : FuncId} {fn : Func} (hf : P.funcs[f]? = some fn) (hname : (fn.name == "runtime.NumGoroutine") = false)
    (hb : fn.body.isNone = true) (hn : Extern.findNext fn = none) (he : Extern.find fn = some add64Entry) : AC P f [.V, .V, .V] (gW sw kw) :=
  ac_W hf hname hb hn he (fun x y z w h1 _ h2 _ h3 h4 => run_add64 x y z h1 h2 h3 h4 w) sw_bd fun x y z _ _ _ _ _ _ => by unfold kw; omega
theorem ac_sub64 {f : FuncId} {fn : Func} (hf : P.funcs[f]? = some fn) (hname : (fn.name == "runtime.NumGoroutine") = false)
    (hb : fn.body.isNone = true) (hn : Extern.findNext fn = none) (he : Extern.find fn = some subEntry) : AC P f [.V, .V, .V] (gW bw ow) :=
  ac_W hf hname hb hn he (fun x y z w h1 _ h2 h2' h3 h4 => run_sub x y z h1 h2 (by omega) h3 h4 w) bw_bd fun x y z _ _ _ _ _ _ => ow_bd x y z

end
end Vm
end Go.Proofs.YtbbifiogcpcpfaaDoor
