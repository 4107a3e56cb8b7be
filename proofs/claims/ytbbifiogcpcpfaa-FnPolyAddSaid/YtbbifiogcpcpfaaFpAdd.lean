/-
  fp.Element.Add: the sum modulo the prime, of numbers below it; smallerThanModulus.
-/
import Derived.Test.YtbbifiogcpcpfaaWAdd
namespace Go.Proofs.Ytbbifiogcpcpfaa
open Vm

def boolS (b : Bool) : Option Seen := some ⟨[], .val (.bool b), True⟩
def smallT (x : L4) : Option Seen :=
  match decide (x.d < 3486998266802970665) with
  | true => boolS true
  | false => match x.d == 3486998266802970665 with
    | false => boolS false
    | true => match decide (x.c < 13281191951274694749) with
      | true => boolS true
      | false => match x.c == 13281191951274694749 with
        | false => boolS false
        | true => match decide (x.b < 10917124144477883021) with
          | true => boolS true
          | false => match x.b == 10917124144477883021 with
            | false => boolS false
            | true => boolS (decide (x.a < 4332616871279656263))
theorem small_run (x : L4) (c1 : Nat) :
    runs Try.prog (look []) 1 Try.f70 [.R 4] [none] [x.cells] [c1] = smallT x := by kernel_rfl
theorem low_iff (x : L4) : low x = true ↔ x.v < 21888242871839275222246405745257275088696311157297823662689037894645226208583 := by
  unfold low ltB
  rw [qL_v]
  exact decide_eq_true_iff
theorem smallT_eq {x : L4} (hx : x.ok) : smallT x = boolS (low x) := by
  have hl := low_iff x
  obtain ⟨⟨_, _⟩, ⟨_, _⟩, ⟨_, _⟩, ⟨_, _⟩⟩ := hx
  unfold L4.v at hl
  have tt : ∀ b : Bool, b = true → boolS true = boolS b := fun b h => by rw [h]
  have ff : ∀ b : Bool, ¬ b = true → boolS false = boolS b := fun b h => by cases b <;> simp_all
  unfold smallT
  split
  · rename_i h; simp only [decide_eq_true_eq] at h; exact tt _ (hl.2 (by omega))
  rename_i h; simp only [decide_eq_false_iff_not] at h
  split
  · rename_i h2; simp only [beq_eq_false_iff_ne, ne_eq] at h2; exact ff _ fun hh => by have := hl.1 hh; omega
  rename_i h2; simp only [beq_iff_eq] at h2
  split
  · rename_i h; simp only [decide_eq_true_eq] at h; exact tt _ (hl.2 (by omega))
  rename_i h; simp only [decide_eq_false_iff_not] at h
  split
  · rename_i h2; simp only [beq_eq_false_iff_ne, ne_eq] at h2; exact ff _ fun hh => by have := hl.1 hh; omega
  rename_i h2; simp only [beq_iff_eq] at h2
  split
  · rename_i h; simp only [decide_eq_true_eq] at h; exact tt _ (hl.2 (by omega))
  rename_i h; simp only [decide_eq_false_iff_not] at h
  split
  · rename_i h2; simp only [beq_eq_false_iff_ne, ne_eq] at h2; exact ff _ fun hh => by have := hl.1 hh; omega
  rename_i h2; simp only [beq_iff_eq] at h2
  by_cases h3 : x.a < 4332616871279656263
  · rw [decide_eq_true h3]; exact tt _ (hl.2 (by omega))
  · rw [decide_eq_false h3]; exact ff _ fun hh => by have := hl.1 hh; omega
def rB (f : L4 → Bool) : Gf := g1 c4 fun x => ([], .val (.bool (f x)), none)
theorem ac_small : AC Try.prog 70 [.R 4] (rB low) := by
  refine ac_of_run (fn := Try.f70) (look_ok [] env_nil) follows (by kernel_rfl) rfl
    (runOK1 c4_sound fun x hx => ⟨res_val trivial, fun _ al has _ c1 => ⟨1, ?_⟩⟩)
  rw [show alsOf [PK.R 4] [PK.R 4] = [[none]] from rfl, List.mem_singleton] at has
  subst has
  show Sees [] _ (runs _ _ _ _ _ _ [x.cells] _)
  rw [small_run, smallT_eq (in4 hx)]
  exact .mk' trivial rfl rfl

def kVVV : List PK := [.V, .V, .V]
theorem ac_Add64 : AC Try.prog 69 kVVV (gW sw kw) := ac_add64 (fn := Try.f69) (by kernel_rfl) rfl rfl (by kernel_rfl) (by kernel_rfl)
theorem ac_Sub64 : AC Try.prog 71 kVVV (gW bw ow) := ac_sub64 (fn := Try.f71) (by kernel_rfl) rfl rfl (by kernel_rfl) (by kernel_rfl)

/-- Four words by a chain of carries, what is to be known of these, and what follows. -/
def chain (s k : Int → Int → Int → Int) (x y : L4) (φ : Prop) (K : L4 → Int → Prop → Option Seen) : Option Seen :=
  K ⟨s x.a y.a 0, s x.b y.b (k x.a y.a 0), s x.c y.c (k x.b y.b (k x.a y.a 0)), s x.d y.d (k x.c y.c (k x.b y.b (k x.a y.a 0)))⟩
    (k x.d y.d (k x.c y.c (k x.b y.b (k x.a y.a 0))))
    ((((φ ∧ (0 : Int) ≤ 1) ∧ k x.a y.a 0 ≤ 1) ∧ k x.b y.b (k x.a y.a 0) ≤ 1) ∧ k x.c y.c (k x.b y.b (k x.a y.a 0)) ≤ 1)
def upS (z : L4) (φ : Prop) : Option Seen := some ⟨[z.cells], .same 0, φ⟩
def fpAddT (s k b o : Int → Int → Int → Int) (sm : L4 → Bool) (x y : L4) : Option Seen :=
  chain s k x y True fun z _ φ => match !(sm z) with
    | true => chain b o z qL φ fun z _ φ => upS z φ
    | false => upS z φ
abbrev eFpAdd (s k b o : Int → Int → Int → Int) (sm : L4 → Bool) : List (Nat × Sm) :=
  [eV 69 kVVV (gW s k), eV 71 kVVV (gW b o), eM 70 [.R 4] (rB sm)]
abbrev kWRR : List PK := [.W 4, .R 4, .R 4]
section
variable (s k b o : Int → Int → Int → Int) (sm : L4 → Bool) (x y z : L4) (c1 c2 c3 : Nat)
theorem fpAdd_run1 : runs Try.prog (look (eFpAdd s k b o sm)) 1 Try.f60 kWRR [none, none, none] [z.cells, x.cells, y.cells] [c1, c2, c3] = fpAddT s k b o sm x y := by kernel_rfl
theorem fpAdd_run2 : runs Try.prog (look (eFpAdd s k b o sm)) 1 Try.f60 kWRR [none, some 0, none] [x.cells, x.cells, y.cells] [c1, c2, c3] = fpAddT s k b o sm x y := by kernel_rfl
theorem fpAdd_run3 : runs Try.prog (look (eFpAdd s k b o sm)) 1 Try.f60 kWRR [none, none, some 0] [y.cells, x.cells, y.cells] [c1, c2, c3] = fpAddT s k b o sm x y := by kernel_rfl
theorem fpAdd_run4 : runs Try.prog (look (eFpAdd s k b o sm)) 1 Try.f60 kWRR [none, some 0, some 0] [x.cells, x.cells, x.cells] [c1, c2, c3] = fpAddT s k b o sm x x := by kernel_rfl
end

theorem chain_add {x y : L4} (hx : x.ok) (hy : y.ok) {φ : Prop} (K : L4 → Int → Prop → Option Seen) (hφ : φ) :
    ∃ z k ψ, chain sw kw x y φ K = K z k ψ ∧ z.ok ∧ ψ ∧ z.v + 115792089237316195423570985008687907853269984665640564039457584007913129639936 * k = x.v + y.v ∧ 0 ≤ k ∧ k ≤ 1 := by
  obtain ⟨⟨_, _⟩, ⟨_, _⟩, ⟨_, _⟩, ⟨_, _⟩⟩ := hx
  obtain ⟨⟨_, _⟩, ⟨_, _⟩, ⟨_, _⟩, ⟨_, _⟩⟩ := hy
  have step : ∀ a b c : Int, 0 ≤ a → a < 18446744073709551616 → 0 ≤ b → b < 18446744073709551616 → 0 ≤ c → c ≤ 1 →
      0 ≤ sw a b c ∧ sw a b c < 18446744073709551616 ∧ 0 ≤ kw a b c ∧ kw a b c ≤ 1 ∧ sw a b c + 18446744073709551616 * kw a b c = a + b + c := by
    intro a b c _ _ _ _ _ _; unfold sw kw; omega
  have h0 := step x.a y.a 0 (by omega) (by omega) (by omega) (by omega) (by omega) (by omega)
  have h1 := step x.b y.b _ (by omega) (by omega) (by omega) (by omega) h0.2.2.1 h0.2.2.2.1
  have h2 := step x.c y.c _ (by omega) (by omega) (by omega) (by omega) h1.2.2.1 h1.2.2.2.1
  have h3 := step x.d y.d _ (by omega) (by omega) (by omega) (by omega) h2.2.2.1 h2.2.2.2.1
  refine ⟨_, _, _, rfl, ⟨⟨h0.1, h0.2.1⟩, ⟨h1.1, h1.2.1⟩, ⟨h2.1, h2.2.1⟩, ⟨h3.1, h3.2.1⟩⟩, ⟨⟨⟨⟨hφ, by omega⟩, h0.2.2.2.1⟩, h1.2.2.2.1⟩, h2.2.2.2.1⟩, ?_, h3.2.2.1, h3.2.2.2.1⟩
  have e0 := h0.2.2.2.2; have e1 := h1.2.2.2.2; have e2 := h2.2.2.2.2; have e3 := h3.2.2.2.2
  simp only [L4.v]; omega
theorem chain_sub {x y : L4} (hx : x.ok) (hy : y.ok) {φ : Prop} (K : L4 → Int → Prop → Option Seen) (hφ : φ) :
    ∃ z k ψ, chain bw ow x y φ K = K z k ψ ∧ z.ok ∧ ψ ∧ z.v - 115792089237316195423570985008687907853269984665640564039457584007913129639936 * k = x.v - y.v ∧ 0 ≤ k ∧ k ≤ 1 := by
  obtain ⟨⟨_, _⟩, ⟨_, _⟩, ⟨_, _⟩, ⟨_, _⟩⟩ := hx
  obtain ⟨⟨_, _⟩, ⟨_, _⟩, ⟨_, _⟩, ⟨_, _⟩⟩ := hy
  have step : ∀ a b c : Int, 0 ≤ a → a < 18446744073709551616 → 0 ≤ b → b < 18446744073709551616 → 0 ≤ c → c ≤ 1 →
      0 ≤ bw a b c ∧ bw a b c < 18446744073709551616 ∧ 0 ≤ ow a b c ∧ ow a b c ≤ 1 ∧ bw a b c - 18446744073709551616 * ow a b c = a - b - c := by
    intro a b c _ _ _ _ _ _; unfold bw ow; split <;> omega
  have h0 := step x.a y.a 0 (by omega) (by omega) (by omega) (by omega) (by omega) (by omega)
  have h1 := step x.b y.b _ (by omega) (by omega) (by omega) (by omega) h0.2.2.1 h0.2.2.2.1
  have h2 := step x.c y.c _ (by omega) (by omega) (by omega) (by omega) h1.2.2.1 h1.2.2.2.1
  have h3 := step x.d y.d _ (by omega) (by omega) (by omega) (by omega) h2.2.2.1 h2.2.2.2.1
  refine ⟨_, _, _, rfl, ⟨⟨h0.1, h0.2.1⟩, ⟨h1.1, h1.2.1⟩, ⟨h2.1, h2.2.1⟩, ⟨h3.1, h3.2.1⟩⟩, ⟨⟨⟨⟨hφ, by omega⟩, h0.2.2.2.1⟩, h1.2.2.2.1⟩, h2.2.2.2.1⟩, ?_, h3.2.2.1, h3.2.2.2.1⟩
  have e0 := h0.2.2.2.2; have e1 := h1.2.2.2.2; have e2 := h2.2.2.2.2; have e3 := h3.2.2.2.2
  simp only [L4.v]; omega

theorem addm_v {x y : L4} (hx : x.ok) (hy : y.ok) (h : lowm qL x y) : (addm qL x y).v = if x.v + y.v < qL.v then x.v + y.v else x.v + y.v - qL.v := by
  obtain ⟨h1, h2⟩ := h
  have bx := v_bd hx
  have by' := v_bd hy
  have bq := qL_v
  unfold addm
  rw [v_lim']
  split
  · have e : (x.v + y.v) % qL.v = x.v + y.v := Int.emod_eq_of_lt (by omega) (by omega)
    rw [e]; omega
  · rw [show (x.v + y.v) % qL.v = x.v + y.v - qL.v by rw [← Int.sub_emod_right]; exact Int.emod_eq_of_lt (by omega) (by omega)]; omega
theorem fpAddT_eq {x y : L4} (hx : x.ok) (hy : y.ok) (h : lowm qL x y) : Sees [(addm qL x y).cells] (.same 0) (fpAddT sw kw bw ow low x y) := by
  have hv := addm_v hx hy h
  obtain ⟨h1, h2⟩ := h
  have bx := v_bd hx
  have by' := v_bd hy
  have bq := qL_v
  unfold fpAddT
  obtain ⟨z, k, ψ, e, hz, hψ, hs, k0, k1⟩ := chain_add hx hy (φ := True) (fun z _ φ => match !(low z) with
    | true => chain bw ow z qL φ fun z _ φ => upS z φ
    | false => upS z φ) trivial
  rw [e]
  have bz := v_bd hz
  have hlow := low_iff z
  split
  · rename_i hl
    simp only [Bool.not_eq_eq_eq_not, Bool.not_true] at hl
    have hl' : ¬ z.v < 21888242871839275222246405745257275088696311157297823662689037894645226208583 := fun hh => by rw [hlow.2 hh] at hl; cases hl
    obtain ⟨u, j, χ, e2, hu, hχ, hs2, j0, j1⟩ := chain_sub hz qL_ok (fun z _ φ => upS z φ) hψ
    rw [e2]
    have bu := v_bd hu
    refine .mk' hχ ?_ rfl
    rw [show u = addm qL x y from v_inj hu (lim_ok _) (by rw [hv]; split <;> omega)]
  · rename_i hl
    simp only [Bool.not_eq_eq_eq_not, Bool.not_false] at hl
    have hl' := hlow.1 hl
    refine .mk' hψ ?_ rfl
    rw [show z = addm qL x y from v_inj hz (lim_ok _) (by rw [hv]; split <;> omega)]

theorem cells4_inj {x y : L4} (h : x.cells = y.cells) : x = y := by
  obtain ⟨a, b, c, d⟩ := x; obtain ⟨a', b', c', d'⟩ := y
  simp only [L4.cells, List.cons.injEq, Value.int.injEq, true_and, and_true] at h
  simp only [L4.mk.injEq]; exact h
def rOp (op : L4 → L4 → L4) (φ : L4 → L4 → Prop) : Gf := g3 c4 c4 c4 fun _ x y => ([(op x y).cells], .same 0, some (φ x y))
theorem als_wrr4 {al : Al} (h : al ∈ alsOf [PK.W 4, .R 4, .R 4] [PK.W 4, .R 4, .R 4]) : al = [none, none, none] ∨ al = [none, none, some 0] ∨ al = [none, some 0, none] ∨ al = [none, some 0, some 0] := by
  rw [show alsOf [PK.W 4, .R 4, .R 4] [PK.W 4, .R 4, .R 4] = [[none, none, none], [none, none, some 0], [none, some 0, none], [none, some 0, some 0]] from rfl] at h
  simpa using h
theorem ac_fpAdd : AC Try.prog 60 kWRR (rOp (addm qL) (lowm qL)) := by
  refine ac_of_run (fn := Try.f60) (look_ok (eFpAdd sw kw bw ow low) (env_V ac_Add64 (env_V ac_Sub64 (env_M ac_small env_nil)))) follows (by kernel_rfl) rfl
    (runOK3 c4_sound c4_sound c4_sound fun z x y hz hx hy => ⟨res_same (ok4.2 (lim_ok _)), fun hd al has hsame c1 c2 c3 => ⟨1, ?_⟩⟩)
  have key := fpAddT_eq (in4 hx) (in4 hy) hd
  show Sees [(addm qL x y).cells] (.same 0) (runs Try.prog (look (eFpAdd sw kw bw ow low)) 1 Try.f60 kWRR al [z.cells, x.cells, y.cells] [c1, c2, c3])
  have hsame : alSame [z.cells, x.cells, y.cells] al [z.cells, x.cells, y.cells] := hsame
  rcases als_wrr4 has with rfl | rfl | rfl | rfl
  · exact sees_of (fpAdd_run1 sw kw bw ow low x y z c1 c2 c3) key
  · obtain rfl := cells4_inj (Option.some.inj hsame.1)
    exact sees_of (fpAdd_run3 sw kw bw ow low x z c1 c2 c3) key
  · obtain rfl := cells4_inj (Option.some.inj hsame.1)
    exact sees_of (fpAdd_run2 sw kw bw ow low z y c1 c2 c3) key
  · obtain rfl := cells4_inj (Option.some.inj hsame.1)
    obtain rfl := cells4_inj (Option.some.inj hsame.2.1)
    exact sees_of (fpAdd_run4 sw kw bw ow low z c1 c2 c3) key
end Go.Proofs.Ytbbifiogcpcpfaa
