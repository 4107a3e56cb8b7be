/-
  spec.AddWords, spec.Prime, spec.word, spec.plusW, spec.Low, spec.Low2.
-/
import Derived.Test.YtbbifiogcpcpfaaWPlus
namespace Go.Proofs.Ytbbifiogcpcpfaa
open Vm

def fr4 (z : L4) (φ : Prop) : Option Seen := some ⟨[], .fresh z.cells [], φ⟩
def av4 (z : L4) : Value := .agg z.cells.toArray
def addT (add sub : L4 → L4 → L4) (ac lt : L4 → L4 → Bool) (x y m : L4) : Option Seen :=
  match ac x y with
  | true => fr4 (sub (add x y) m) True
  | false => match !(lt (add x y) m) with
    | true => fr4 (sub (add x y) m) True
    | false => fr4 (add x y) True
abbrev eAdd (add sub : L4 → L4 → L4) (ac sc lt : L4 → L4 → Bool) : List (Nat × Sm) :=
  [eM 66 kSS (rWB add ac), eM 65 kSS (rWB sub sc), eM 45 kLess (rLess lt)]
theorem add_run (add sub : L4 → L4 → L4) (ac sc lt : L4 → L4 → Bool) (x y m : L4) (c1 c2 c3 : Nat) :
    runs Try.prog (look (eAdd add sub ac sc lt)) 8 Try.f54 [.S 4, .S 4, .S 4] [none, none, none] [x.cells, y.cells, m.cells] [c1, c2, c3] = addT add sub ac lt x y m := by kernel_rfl

/-- The sum modulo m. -/
def addm (m x y : L4) : L4 := lim ((x.v + y.v) % m.v)
def lowm (m x y : L4) : Prop := x.v < m.v ∧ y.v < m.v
theorem addT_eq {x y m : L4} (hx : x.ok) (hy : y.ok) (hm : m.ok) (h : lowm m x y) : addT addw subw addc ltB x y m = fr4 (addm m x y) True := by
  obtain ⟨h1, h2⟩ := h
  have bx := v_bd hx
  have by' := v_bd hy
  have bm := v_bd hm
  have e : (x.v + y.v) % m.v = if x.v + y.v < m.v then x.v + y.v else x.v + y.v - m.v := by
    split
    · exact Int.emod_eq_of_lt (by omega) (by omega)
    · rw [← Int.sub_emod_right]; exact Int.emod_eq_of_lt (by omega) (by omega)
  have key : ∀ z : L4, z.ok → z.v % 115792089237316195423570985008687907853269984665640564039457584007913129639936 = (if x.v + y.v < m.v then x.v + y.v else x.v + y.v - m.v) → z = addm m x y := by
    intro z hz hv
    have bz := v_bd hz
    refine v_inj hz (lim_ok _) ?_
    unfold addm
    rw [v_lim', e, ← hv]; omega
  unfold addT
  split
  · rename_i h
    rw [show (addc x y = true) = (_ ≤ _) from propext decide_eq_true_iff] at h
    rw [key (subw (addw x y) m) (lim_ok _)]
    simp only [subw, addw, v_lim']
    split <;> omega
  · rename_i h
    have h : ¬ _ := decide_eq_false_iff_not.1 h
    split
    · rename_i h3
      simp only [Bool.not_eq_eq_eq_not, Bool.not_true] at h3
      have h3 : ¬ _ := decide_eq_false_iff_not.1 h3
      simp only [addw, v_lim'] at h3
      rw [key (subw (addw x y) m) (lim_ok _)]
      simp only [subw, addw, v_lim']
      split <;> omega
    · rename_i h3
      simp only [Bool.not_eq_eq_eq_not, Bool.not_false] at h3
      have h3 := of_decide_eq_true h3
      simp only [addw, v_lim'] at h3
      rw [key (addw x y) (lim_ok _)]
      simp only [addw, v_lim']
      split <;> omega
def kSSS : List PK := [.S 4, .S 4, .S 4]
def rMod (op : L4 → L4 → L4 → L4) (φ : L4 → L4 → L4 → Prop) : Gf := g3 c4 c4 c4 fun x y m => ([], .fresh (op m x y).cells [], some (φ m x y))
theorem ac_AddWords : AC Try.prog 54 kSSS (rMod addm lowm) := by
  refine ac_of_run (fn := Try.f54) (look_ok (eAdd addw subw addc subc ltB) (env_M ac_plus (env_M ac_lessen (env_M ac_less env_nil)))) follows (by kernel_rfl) rfl
    (runOK3 c4_sound c4_sound c4_sound fun x y m hx hy hm => ⟨res_fresh (ok4.2 (lim_ok _)) (fun u hu => by simp at hu), fun hd al has _ c1 c2 c3 => ⟨8, ?_⟩⟩)
  rw [show alsOf [PK.S 4, PK.S 4, PK.S 4] [PK.S 4, PK.S 4, PK.S 4] = [[none, none, none]] from rfl, List.mem_singleton] at has
  subst has
  show Sees [] _ (runs _ _ _ _ _ _ [x.cells, y.cells, m.cells] _)
  rw [add_run, addT_eq (in4 hx) (in4 hy) (in4 hm) hd]
  exact .mk' trivial rfl rfl

/-- The prime of the base field. -/
def qL : L4 := ⟨4332616871279656263, 10917124144477883021, 13281191951274694749, 3486998266802970665⟩
theorem qL_ok : qL.ok := ⟨⟨by decide, by decide⟩, ⟨by decide, by decide⟩, ⟨by decide, by decide⟩, ⟨by decide, by decide⟩⟩
theorem qL_v : qL.v = 21888242871839275222246405745257275088696311157297823662689037894645226208583 := by decide
def rPrime : Gf := g0 ([], .fresh qL.cells [], none)
theorem prime_run : runs Try.prog (look []) 8 Try.f39 [] [] [] [] = fr4 qL True := by kernel_rfl
theorem ac_Prime : AC Try.prog 39 [] rPrime := by
  refine ac_of_run (fn := Try.f39) (look_ok [] env_nil) follows (by kernel_rfl) rfl (runOK0 (res_fresh (ok4.2 qL_ok) (fun u hu => by simp at hu)) fun _ => ⟨8, ?_⟩)
  rw [prime_run]
  exact .mk' trivial rfl rfl

def rWord : Gf := g1 c4 fun x => ([], .val (av4 x), none)
theorem word_run (x : L4) (c1 : Nat) : runs Try.prog (look []) 8 Try.f37 [.S 4] [none] [x.cells] [c1] = some ⟨[], .val (av4 x), True⟩ := by kernel_rfl
theorem av4_ok {x : L4} (h : x.ok) : ok2 [] (av4 x) := ok2_agg (ok4.2 h)
theorem ac_word : AC Try.prog 37 [.S 4] rWord := by
  refine ac_of_run (fn := Try.f37) (look_ok [] env_nil) follows (by kernel_rfl) rfl (runOK1 c4_sound fun x hx => ⟨res_val (av4_ok (in4 hx)), fun _ al has _ c1 => ⟨8, ?_⟩⟩)
  rw [show alsOf [PK.S 4] [PK.S 4] = [[none]] from rfl, List.mem_singleton] at has
  subst has
  show Sees [] _ (runs _ _ _ _ _ _ [x.cells] _)
  rw [word_run]
  exact .mk' trivial rfl rfl

abbrev ePlusW (op : L4 → L4 → L4 → L4) (φ : L4 → L4 → L4 → Prop) : List (Nat × Sm) :=
  [eM 54 kSSS (rMod op φ), eM 39 [] rPrime, eM 37 [.S 4] rWord]
theorem plusW_run (op : L4 → L4 → L4 → L4) (φ : L4 → L4 → L4 → Prop) (x y : L4) (c1 c2 : Nat) :
    runs Try.prog (look (ePlusW op φ)) 8 Try.f41 [.V, .V] [none, none] [[av4 x], [av4 y]] [c1, c2] = some ⟨[], .val (av4 (op qL x y)), True ∧ φ qL x y⟩ := by kernel_rfl
def rVV (op : L4 → L4 → L4) (φ : L4 → L4 → Prop) : Gf := g2 c4.agg c4.agg fun x y => ([], .val (av4 (op x y)), some (φ x y))
theorem ac_plusW : AC Try.prog 41 [.V, .V] (rVV (addm qL) (lowm qL)) := by
  refine ac_of_run (fn := Try.f41) (look_ok (ePlusW addm lowm) (env_M ac_AddWords (env_M ac_Prime (env_M ac_word env_nil)))) follows (by kernel_rfl) rfl
    (runOK2 c4a c4a fun x y hx hy => ⟨res_val (av4_ok (lim_ok _)), fun hd al has _ c1 c2 => ⟨8, ?_⟩⟩)
  rw [show alsOf [PK.V, PK.V] [PK.V, PK.V] = [[none, none]] from rfl, List.mem_singleton] at has
  subst has
  show Sees [] _ (runs _ _ _ _ _ _ [[av4 x], [av4 y]] _)
  rw [plusW_run]
  exact .mk' ⟨trivial, hd⟩ rfl rfl

abbrev eLow (lt : L4 → L4 → Bool) : List (Nat × Sm) := [eM 45 kLess (rLess lt), eM 39 [] rPrime]
theorem low_run (lt : L4 → L4 → Bool) (x : L4) (c1 : Nat) :
    runs Try.prog (look (eLow lt)) 8 Try.f28 [.V] [none] [[av4 x]] [c1] = some ⟨[], .val (.bool (lt x qL)), True⟩ := by kernel_rfl
def low (x : L4) : Bool := ltB x qL
def rVB (f : L4 → Bool) : Gf := g1 c4.agg fun x => ([], .val (.bool (f x)), none)
theorem ac_Low : AC Try.prog 28 [.V] (rVB low) := by
  refine ac_of_run (fn := Try.f28) (look_ok (eLow ltB) (env_M ac_less (env_M ac_Prime env_nil))) follows (by kernel_rfl) rfl
    (runOK1 c4a fun x hx => ⟨res_val trivial, fun _ al has _ c1 => ⟨8, ?_⟩⟩)
  rw [show alsOf [PK.V] [PK.V] = [[none]] from rfl, List.mem_singleton] at has
  subst has
  show Sees [] _ (runs _ _ _ _ _ _ [[av4 x]] _)
  rw [low_run]
  exact .mk' trivial rfl rfl

def av8 (z : L8) : Value := .agg z.cells.toArray
def low2T (f : L4 → Bool) (x : L8) : Option Seen :=
  match f x.p with
  | true => some ⟨[], .val (.bool (f x.q)), True⟩
  | false => some ⟨[], .val (.bool false), True⟩
theorem low2_run (f : L4 → Bool) (x : L8) (c1 : Nat) :
    runs Try.prog (look [eV 28 [.V] (rVB f)]) 8 Try.f9 [.V] [none] [[av8 x]] [c1] = low2T f x := by kernel_rfl
def low2 (x : L8) : Bool := low x.p && low x.q
def rVB8 (f : L8 → Bool) : Gf := g1 c8.agg fun x => ([], .val (.bool (f x)), none)
theorem ac_Low2 : AC Try.prog 9 [.V] (rVB8 low2) := by
  refine ac_of_run (fn := Try.f9) (look_ok [eV 28 [.V] (rVB low)] (env_V ac_Low env_nil)) follows (by kernel_rfl) rfl
    (runOK1 c8a fun x hx => ⟨res_val trivial, fun _ al has _ c1 => ⟨8, ?_⟩⟩)
  rw [show alsOf [PK.V] [PK.V] = [[none]] from rfl, List.mem_singleton] at has
  subst has
  show Sees [] _ (runs _ _ _ _ _ _ [[av8 x]] _)
  rw [low2_run]
  unfold low2T low2
  cases h : low x.p <;> exact .mk' trivial rfl (by simp)
end Go.Proofs.Ytbbifiogcpcpfaa
