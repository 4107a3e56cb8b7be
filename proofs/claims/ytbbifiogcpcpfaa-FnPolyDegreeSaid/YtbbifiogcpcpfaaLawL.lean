/-
  Laws whose arguments are lists of numbers of four words: what such an argument is, and how the law's call begins.
-/
import Derived.Test.YtbbifiogcpcpfaaLaw
import Derived.Test.YtbbifiogcpcpfaaListSame
import Derived.Deep.Slices
import Derived.OpenShut
namespace Go.Proofs.Ytbbifiogcpcpfaa
open Vm
open Go.ChangeShapes Go.WideShapes Go.ChangeAt Go.RowKit

section
variable {H : Type} {enc : TypeId × Value → H} {P : Program} {w : World} {base : Nat} {spare : Nat → Bool} {held : Bool} {fuel : Nat}

/-- Four words, read. -/
theorem open_four {e u : TypeId} {cs : List Value} {x : DataW H × List MemPlace} (he : P.underlying e = some (.array 4 u)) (hu : P.underlying u = some (.int .u64)) (hcu : P.cellsOf u = 1) (hlen : cs.length = 4) (h : DataW.trod enc P w base spare held fuel e cs = some x) :
    ∃ z : L4, cs = z.cells ∧ z.ok := by
  match cs, hlen with
  | [c0, c1, c2, c3], _ =>
    obtain ⟨xs, m, _, _, _, hl, hel⟩ := DataW.trod_array he h
    have one : ∀ i c, i < 4 → [c0, c1, c2, c3][i]? = some c → ∃ n, c = .int .u64 n ∧ wordOK n := by
      intro i c hi hc
      have h1 := hel i hi
      rw [hcu, Nat.mul_one] at h1
      have h2 : ([c0, c1, c2, c3].drop i).take 1 = [c] := by
        obtain ⟨hk, hk'⟩ := List.getElem?_eq_some_iff.1 hc
        rw [List.drop_eq_getElem_cons hk, hk']
        rfl
      rw [h2, List.getElem?_eq_getElem (by omega)] at h1
      obtain ⟨n, h3, _, h4⟩ := DataW.trod_int hu h1
      simp only [List.cons.injEq, and_true] at h3
      exact ⟨n, h3, (bounds_u64 h4).1, by have := (bounds_u64 h4).2; omega⟩
    obtain ⟨n0, rfl, k0⟩ := one 0 c0 (by decide) rfl
    obtain ⟨n1, rfl, k1⟩ := one 1 c1 (by decide) rfl
    obtain ⟨n2, rfl, k2⟩ := one 2 c2 (by decide) rfl
    obtain ⟨n3, rfl, k3⟩ := one 3 c3 (by decide) rfl
    exact ⟨⟨n0, n1, n2, n3⟩, rfl, k0, k1, k2, k3⟩

/-- A list's cells, by the index of its numbers. -/
theorem flatL_get : ∀ (xs : List L4) (k : Nat) (x : L4), xs[k]? = some x → ∀ j v, x.cells[j]? = some v → (flatL xs)[4 * k + j]? = some v
  | [], k, x, h, j, v, hv => by simp at h
  | y :: ys, 0, x, h, j, v, hv => by
    simp only [List.getElem?_cons_zero, Option.some.injEq] at h
    subst h
    simp only [flatL, Nat.mul_zero, Nat.zero_add]
    rw [List.getElem?_append_left (by
      rcases Nat.lt_or_ge j y.cells.length with h' | h'
      · exact h'
      · rw [List.getElem?_eq_none h'] at hv; cases hv)]
    exact hv
  | y :: ys, k + 1, x, h, j, v, hv => by
    simp only [List.getElem?_cons_succ] at h
    simp only [flatL]
    rw [List.getElem?_append_right (by show 4 ≤ _; omega)]
    have := flatL_get ys k x h j v hv
    rw [show 4 * (k + 1) + j - y.cells.length = 4 * k + j by show 4 * (k + 1) + j - 4 = _; omega]
    exact this
theorem listIn_by {b o : Nat} {xs : List L4} (h : ∀ (k : Nat) (x : L4), xs[k]? = some x → ∀ (j : Nat) v, x.cells[j]? = some v → w.cell? ⟨b, o + (4 * k + j), none⟩ = some v) : ListIn w b o xs := by
  intro i v hi
  have hlt : i < 4 * xs.length := by
    rw [← flatL_length]
    rcases Nat.lt_or_ge i (flatL xs).length with h' | h'
    · exact h'
    · rw [List.getElem?_eq_none h'] at hi; cases hi
  have hk : i / 4 < xs.length := by omega
  have hx := List.getElem?_eq_getElem hk
  have hj : i % 4 < xs[i / 4].cells.length := by show _ < 4; omega
  have h1 := flatL_get xs (i / 4) _ hx (i % 4) _ (List.getElem?_eq_getElem hj)
  rw [show 4 * (i / 4) + i % 4 = i by omega, hi] at h1
  have h2 := h (i / 4) _ hx (i % 4) _ (List.getElem?_eq_getElem hj)
  rw [show 4 * (i / 4) + i % 4 = i by omega] at h2
  rw [h2, h1]

/-- **An argument that is a list of numbers.** -/
theorem open_list {t e u : TypeId} {r : Reach} {b0 : Nat} {v : Value} {d : DataW H} {p : List MemPlace} (ht : P.underlying t = some (.slice e)) (he : P.underlying e = some (.array 4 u)) (hu : P.underlying u = some (.int .u64)) (hcu : P.cellsOf u = 1) (hce : P.cellsOf e = 4)
    (hval : Value.okWide P w r b0 t v) (hd : DataW.Trod enc P w base spare held t v d p) :
    ∃ (xs : List L4) (b o : Nat), okL xs ∧ xs.length ≤ 9223372036854775807 ∧ ListIn w b o xs ∧ ((v = .slice none 0 0 ∧ xs.length = 0) ∨ ∃ c, v = .slice (some ⟨b, o, none⟩) xs.length c) := by
  obtain ⟨n, hf⟩ := hd
  have hv2 : Cell.ok P w r b0 t v := by
    unfold Value.okWide at hval
    rw [ht] at hval
    simp only at hval
    unfold Cell.okWide at hval
    rw [ht] at hval
    cases v <;> exact hval
  have hcs : v.cells.toList = [v] := by
    unfold Cell.ok at hv2
    rw [ht] at hv2
    cases v <;> first | rfl | exact False.elim hv2
  rcases Go.Deep.open_slice ht hf with ⟨h1, _⟩ | ⟨a, len, cap, m, n', D, Pl, h1, hb, hl, hm, hmm, _, hx⟩
  · rw [hcs] at h1
    simp only [List.cons.injEq, and_true] at h1
    subst h1
    exact ⟨[], 0, 0, fun x hx => by simp at hx, by simp, fun i v hi => by simp [flatL] at hi, .inl ⟨rfl, rfl⟩⟩
  · rw [hcs] at h1
    simp only [List.cons.injEq, and_true] at h1
    subst h1
    have hsp : a.spot = none := by
      unfold Cell.ok at hv2
      rw [ht] at hv2
      exact hv2.2.2.2.1
    have hle : len ≤ m := by rw [hmm]; split <;> omega
    have el : ∀ i, i < len → ∃ z : L4, z.ok ∧ ∀ (j : Nat) v, z.cells[j]? = some v → w.cell? ⟨a.block, a.off + (4 * i + j), none⟩ = some v := by
      intro i hi
      obtain ⟨cs, h2, h3⟩ := hx i (by omega)
      rw [hce] at h2
      obtain ⟨_, hlen, hget⟩ := World.cells?_some h2
      obtain ⟨z, rfl, hz⟩ := open_four he hu hcu hlen h3
      refine ⟨z, hz, fun j v hj => ?_⟩
      have hj4 : j < 4 := by
        rcases Nat.lt_or_ge j 4 with h' | h'
        · exact h'
        · rw [List.getElem?_eq_none (show z.cells.length ≤ j from h')] at hj; cases hj
      have := hget j hj4
      rw [hj, Go.Deep.add_add] at this
      rw [← this]
      congr 1
      obtain ⟨ab, ao, asp⟩ := a
      simp only at hsp
      subst hsp
      unfold Addr.add
      split
      · rename_i h0
        simp only [Addr.mk.injEq, true_and, and_true]; omega
      · simp only [Addr.mk.injEq, true_and, and_true]; omega
    haveI : Inhabited L4 := ⟨⟨0, 0, 0, 0⟩⟩
    obtain ⟨f, hf'⟩ := Go.Deep.choose_lt (α := L4) (p := fun i z => z.ok ∧ ∀ (j : Nat) v, z.cells[j]? = some v → w.cell? ⟨a.block, a.off + (4 * i + j), none⟩ = some v) el
    have hlen : ((List.range len).map f).length = len := by simp
    refine ⟨(List.range len).map f, a.block, a.off, fun x hx => ?_, by rw [hlen]; have : maxLen = 9223372036854775807 := rfl; omega, listIn_by fun k x hk j v hj => ?_, .inr ⟨cap, ?_⟩⟩
    · obtain ⟨i, hi, rfl⟩ := List.mem_map.1 hx
      exact (hf' i (List.mem_range.1 hi)).1
    · have hk' : k < len := by
        rcases Nat.lt_or_ge k len with h' | h'
        · exact h'
        · rw [List.getElem?_eq_none (by simpa using h')] at hk; cases hk
      simp only [List.getElem?_map, List.getElem?_range hk', Option.map_some, Option.some.injEq] at hk
      subst hk
      exact (hf' k hk').2 j v hj
    · rw [hlen]
      obtain ⟨ab, ao, asp⟩ := a
      simp only at hsp
      subst hsp
      rfl
end

theorem rd_all {hp : Hp} {q : Nat} {b : Bool} {cs : List Value} {n : Nat} (h : hp[q]? = some (some (b, cs))) (hn : cs.length = n) : rd hp q 0 n = some cs := by
  unfold rd
  rw [h]
  simp only
  rw [if_pos (by omega), List.drop_zero, List.take_of_length_le (by omega)]
theorem len_ne {n : Nat} (h : n ≤ 9223372036854775807) (hp : 0 < n) : (lenI n == 0) = false := by
  rw [lenI_eq h]; exact beq_false_of_ne (by omega)
/-- What a list's value is: none, or a row that holds it. -/
def SV (nt : Nat) (v : Value) (n : Nat) : Prop := (v = .slice none 0 0 ∧ n = 0) ∨ ∃ c, v = slc nt n c
theorem sv_mk {nt b o n : Nat} {v : Value} {ρ : Emb} (hρ : ρ nt = (b, o)) (h : (v = .slice none 0 0 ∧ n = 0) ∨ ∃ c, v = .slice (some ⟨b, o, none⟩) n c) : ∃ u, SV nt u n ∧ ren ρ u = v := by
  rcases h with ⟨rfl, h⟩ | ⟨c, rfl⟩
  · exact ⟨_, .inl ⟨rfl, h⟩, rfl⟩
  · exact ⟨_, .inr ⟨c, rfl⟩, by simp [ren, ren1, ren0, rena, hρ]⟩
theorem sv_ok {nt n : Nat} {u : Value} {hp : Hp} (h : SV nt u n) (hp' : pres hp nt) : ok2 hp u := by
  rcases h with ⟨rfl, _⟩ | ⟨c, rfl⟩
  · trivial
  · exact ⟨rfl, hp'⟩

/-- How a law of two lists begins. -/
theorem start_VV {nt : Nat} {xs ys : List L4} (hx : okL xs) (hy : okL ys) {va vb : Value} {n n' : Nat} (ha : SV nt va n) (hb : SV (nt + 1) vb n') {b o b' o' : Nat} {w : World} (h1 : ListIn w b o xs) (h2 : ListIn w b' o' ys) :
    TSim w (fun _ _ => False) ⟨[va, vb].map some ++ List.replicate (nt - 2) none, hpA nt [(b, o, false, flatL xs), (b', o', false, flatL ys)], [(nt, b, o), (nt + 1, b', o')]⟩
      { tmps := ([va, vb].map (ren (rhoA nt [(b, o, false, flatL xs), (b', o', false, flatL ys)]))).toArray ++ Array.replicate (nt - 2) undef, defers := [] } w := by
  have inv2 : ∀ {j : Nat} {x : Nat × Nat × Bool × List Value}, [(b, o, false, flatL xs), (b', o', false, flatL ys)][j]? = some x → x = (b, o, false, flatL xs) ∧ j = 0 ∨ x = (b', o', false, flatL ys) ∧ j = 1 := by
    intro j x h
    cases j with
    | zero => simp only [List.getElem?_cons_zero, Option.some.injEq] at h; exact .inl ⟨h.symm, rfl⟩
    | succ j => cases j with
      | zero => simp only [List.getElem?_cons_succ, List.getElem?_cons_zero, Option.some.injEq] at h; exact .inr ⟨h.symm, rfl⟩
      | succ j => simp at h
  exact start_gen (vs := [va, vb]) (rs := [(b, o, false, flatL xs), (b', o', false, flatL ys)])
    (fun v hv => by
      simp only [List.mem_cons, List.not_mem_nil, or_false] at hv
      rcases hv with rfl | rfl
      · exact sv_ok ha (hpA_pres (j := 0) (by simp))
      · exact sv_ok hb (hpA_pres (j := 1) (by simp)))
    (fun j c d f cs hj => by
      rcases inv2 hj with ⟨he, _⟩ | ⟨he, _⟩ <;> simp only [Prod.mk.injEq] at he <;> obtain ⟨rfl, rfl, rfl, rfl⟩ := he
      · exact ⟨flatL_ok0 hx _, fun i v hi => by rw [flatL_flat xs v (List.mem_of_getElem? hi)]; exact h1 i v hi⟩
      · exact ⟨flatL_ok0 hy _, fun i v hi => by rw [flatL_flat ys v (List.mem_of_getElem? hi)]; exact h2 i v hi⟩)
    (fun j c d cs hj => by rcases inv2 hj with ⟨he, _⟩ | ⟨he, _⟩ <;> simp at he)
    (fun j j' b1 o1 b2 o2 f f' c1 c2 hne e1 e2 hf => by
      rcases inv2 e1 with ⟨h3, _⟩ | ⟨h3, _⟩ <;> rcases inv2 e2 with ⟨h4, _⟩ | ⟨h4, _⟩ <;> simp only [Prod.mk.injEq] at h3 h4 <;> rw [h3.2.2.1, h4.2.2.1] at hf <;> cases hf)
    (fun q c d hq => by
      simp only [List.mem_cons, Prod.mk.injEq, List.not_mem_nil, or_false] at hq
      rcases hq with ⟨rfl, rfl, rfl⟩ | ⟨rfl, rfl, rfl⟩
      · exact ⟨0, _, _, rfl, rfl⟩
      · exact ⟨1, _, _, rfl, rfl⟩)

/-- **A law of two lists: out of its walk.** -/
theorem law_LL {f : FuncId} {fn : Func} {c : Code} {nt : Nat} (hf : Try.prog.funcs[f]? = some fn) (hb : fn.body = some c) (hnt : fn.ntmps = nt) {xs ys : List L4} (hx : okL xs) (hy : okL ys) {va vb : Value} {b o b' o' : Nat}
    (ha : (va = .slice none 0 0 ∧ xs.length = 0) ∨ ∃ c, va = .slice (some ⟨b, o, none⟩) xs.length c) (hb' : (vb = .slice none 0 0 ∧ ys.length = 0) ∨ ∃ c, vb = .slice (some ⟨b', o', none⟩) ys.length c)
    {w : World} (h1 : ListIn w b o xs) (h2 : ListIn w b' o' ys)
    (ht : ∀ ua ub, SV nt ua xs.length → SV (nt + 1) ub ys.length → Tri Try.prog c ⟨[ua, ub].map some ++ List.replicate (nt - 2) none, hpA nt [(b, o, false, flatL xs), (b', o', false, flatL ys)], [(nt, b, o), (nt + 1, b', o')]⟩ fun e τ' => e = .ret ∧ ∃ tm, τ'.tm = tm ∧ ∀ g hp, vres Try.prog fn ⟨fillT g 0 tm, hp, True, 0⟩ = some (.bool true)) :
    Calls Try.prog f #[va, vb] w fun e w' => e = .returned (.bool true) ∧ Below w.heap.size w w' := by
  have hr0 : rhoA nt [(b, o, false, flatL xs), (b', o', false, flatL ys)] nt = (b, o) := by simp [rhoA]
  have hr1 : rhoA nt [(b, o, false, flatL xs), (b', o', false, flatL ys)] (nt + 1) = (b', o') := by simp [rhoA, show ¬ nt + 1 < nt by omega]
  obtain ⟨ua, sa, ea⟩ := sv_mk hr0 ha
  obtain ⟨ub, sb, eb⟩ := sv_mk hr1 hb'
  have h0 := start_VV (nt := nt) hx hy sa sb h1 h2
  simp only [List.map_cons, List.map_nil, ea, eb] at h0
  refine calls_of_tri (args := #[va, vb]) hf hb (by rw [hnt]; exact h0) (ht ua ub sa sb) ?_
  rintro e τ' ⟨rfl, tm, htm, hv⟩
  refine ⟨by simp, fun a' w' hs => ?_⟩
  obtain ⟨g, T, ρ, k1, k2, k3, k4⟩ := results_of (P := Try.prog) (fn := fn) (v := .bool true) (fun g T => by
    show vres _ _ ⟨fillT g 0 τ'.tm, τ'.hp ++ T, True, 0⟩ = _
    rw [htm]; exact hv g _) hs
  exact ⟨_, k4, rfl, k1.inv.fr.below⟩
end Go.Proofs.Ytbbifiogcpcpfaa
