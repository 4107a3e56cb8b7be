/-
  spec.Low6: whether all words are below the prime; what that says of the parts; zeros.
-/
import Derived.Test.YtbbifiogcpcpfaaFpSub
import Derived.Test.YtbbifiogcpcpfaaE2Bin
import Derived.Test.YtbbifiogcpcpfaaEq
namespace Go.Proofs.Ytbbifiogcpcpfaa
open Vm

def rVB24 (f : L24 → Bool) : Gf := g1 c24.agg fun x => ([], .val (.bool (f x)), none)
def low6T (f : L8 → Bool) (x : L24) : Option Seen :=
  match f x.p with
  | true => (match f x.q with
    | true => sBool (f x.r) True
    | false => sBool false True)
  | false => sBool false True
theorem low6_run (f : L8 → Bool) : Run1 Try.prog (look [eV 9 [.V] (rVB8 f)]) 1 Try.f17 .V c24.agg (low6T f) := fun _ _ => by kernel_rfl
def low6 (x : L24) : Bool := low2 x.p && (low2 x.q && low2 x.r)
theorem ac_Low6 : AC Try.prog 17 [.V] (rVB24 low6) :=
  ac_of_run (fn := Try.f17) (look_ok [eV 9 [.V] (rVB8 low2)] (env_V ac_Low2 env_nil)) follows (by kernel_rfl) rfl
    (run1 c24a rfl (low6_run _) fun x _ => ⟨res_val trivial, fun _ => by
      unfold low6T low6
      cases low2 x.p <;> cases low2 x.q <;> exact .mk' trivial rfl rfl⟩)
/-- Words below the prime. -/
def lt4 (x : L4) : Prop := x.v < qL.v
structure lt8 (x : L8) : Prop where
  p : lt4 x.p
  q : lt4 x.q
structure lt24 (x : L24) : Prop where
  p : lt8 x.p
  q : lt8 x.q
  r : lt8 x.r
theorem lt8_of {x : L8} (h : low2 x = true) : lt8 x := by
  obtain ⟨h1, h2⟩ := (low2_iff x).1 h
  exact ⟨show x.p.v < qL.v from of_decide_eq_true h1, show x.q.v < qL.v from of_decide_eq_true h2⟩
theorem lt24_of {x : L24} (h : low6 x = true) : lt24 x := by
  simp only [low6, Bool.and_eq_true] at h
  exact ⟨lt8_of h.1, lt8_of h.2.1, lt8_of h.2.2⟩
def z8 : L8 := ⟨z4, z4⟩
def z24 : L24 := ⟨z8, z8, z8⟩
theorem z4_lt : lt4 z4 := by unfold lt4; rw [z4_v, qL_v]; decide
theorem z8_lt : lt8 z8 := ⟨z4_lt, z4_lt⟩
theorem z24_lt : lt24 z24 := ⟨z8_lt, z8_lt, z8_lt⟩
theorem mod_lt (n : Int) : lt4 (lim (n % qL.v)) := by
  unfold lt4
  have h1 := Int.emod_nonneg n (b := qL.v) (by rw [qL_v]; decide)
  have h2 := Int.emod_lt_of_pos n (b := qL.v) (by rw [qL_v]; decide)
  rw [v_lim']
  rw [qL_v] at *
  omega

theorem open24 {w : World} {r : Reach} {base : Nat} {v : Value} (hv : Value.okWide Try.prog w r base 31 v) : ∃ x : L24, v = avC c24 x ∧ x.ok := by
  obtain ⟨cs, rfl, hl, hw⟩ := open_words (n := 24) (u := 22) (by kernel_rfl) (by kernel_rfl) (by kernel_rfl) (by kernel_rfl) hv
  obtain ⟨x, hx, hok⟩ := of24 hl hw
  exact ⟨x, by rw [hx]; rfl, hok⟩
theorem open8 {w : World} {r : Reach} {base : Nat} {v : Value} (hv : Value.okWide Try.prog w r base 25 v) : ∃ x : L8, v = avC c8 x ∧ x.ok := by
  obtain ⟨cs, rfl, hl, hw⟩ := open_words (n := 8) (u := 22) (by kernel_rfl) (by kernel_rfl) (by kernel_rfl) (by kernel_rfl) hv
  obtain ⟨x, hx, hok⟩ := of8 hl hw
  exact ⟨x, by rw [hx]; rfl, hok⟩
end Go.Proofs.Ytbbifiogcpcpfaa
