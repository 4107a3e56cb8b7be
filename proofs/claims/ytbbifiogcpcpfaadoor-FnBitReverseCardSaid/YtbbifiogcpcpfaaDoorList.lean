/-
  Lists of numbers of four words: their cells; a part of a region as a region of its own; how a call begins.
-/
import Derived.Test.YtbbifiogcpcpfaaDoorFrm
namespace Go.Proofs.YtbbifiogcpcpfaaDoor
open Vm

def flatL : List L4 → List Value
  | [] => []
  | x :: xs => x.cells ++ flatL xs
theorem flatL_length : ∀ xs : List L4, (flatL xs).length = 4 * xs.length
  | [] => rfl
  | x :: xs => by simp only [flatL, List.length_append, flatL_length xs, List.length_cons, show x.cells.length = 4 from rfl]; omega
theorem flatL_append : ∀ xs ys : List L4, flatL (xs ++ ys) = flatL xs ++ flatL ys
  | [], ys => rfl
  | x :: xs, ys => by simp only [List.cons_append, flatL, flatL_append xs ys, List.append_assoc]
theorem flatL_flat : ∀ xs : List L4, Flat (flatL xs)
  | [] => fun v hv => by simp [flatL] at hv
  | x :: xs => fun v hv => by
    simp only [flatL, List.mem_append] at hv
    rcases hv with hv | hv
    · exact flat4 x v hv
    · exact flatL_flat xs v hv
def okL (xs : List L4) : Prop := ∀ x ∈ xs, x.ok
theorem cells_ok0 {x : L4} (h : x.ok) (hp : Hp) : ∀ v ∈ x.cells, ok0 hp v := by
  have w : ∀ n, wordOK n → ok0 hp (.int .u64 n) := fun n hn => ⟨hn.1, show n ≤ 18446744073709551615 by have := hn.2; omega⟩
  intro v hv
  simp only [L4.cells, List.mem_cons, List.not_mem_nil, or_false] at hv
  rcases hv with rfl | rfl | rfl | rfl
  · exact w _ h.a
  · exact w _ h.b
  · exact w _ h.c
  · exact w _ h.d
theorem flatL_ok0 : ∀ {xs : List L4}, okL xs → ∀ (hp : Hp), ∀ v ∈ flatL xs, ok0 hp v
  | [], _, _ => fun v hv => by simp [flatL] at hv
  | x :: xs, h, hp => fun v hv => by
    simp only [flatL, List.mem_append] at hv
    rcases hv with hv | hv
    · exact cells_ok0 (h x (by simp)) hp v hv
    · exact flatL_ok0 (fun y hy => h y (by simp [hy])) hp v hv
theorem flatL_at {xs : List L4} {i : Nat} (h : i < xs.length) : flatL xs = flatL (xs.take i) ++ (xs[i].cells ++ flatL (xs.drop (i + 1))) := by
  conv => lhs; rw [← List.take_append_drop i xs, flatL_append, List.drop_eq_getElem_cons h]
  rfl
theorem take_len {xs : List L4} {i : Nat} (h : i ≤ xs.length) : (flatL (xs.take i)).length = 4 * i := by
  rw [flatL_length, List.length_take, Nat.min_eq_left h]

namespace Vm
section
variable {P : Program}

theorem set_append {hp T : Hp} {q : Nat} {x y : Option (Bool × List Value)} (h : hp[q]? = some y) : (hp.set q x) ++ T = (hp ++ T).set q x := by
  have : q < hp.length := by
    rcases Nat.lt_or_ge q hp.length with h' | h'
    · exact h'
    · rw [List.getElem?_eq_none h'] at h; cases h
  rw [List.set_append_left _ _ this]
theorem get_append {hp T : Hp} {q : Nat} {x : Option (Bool × List Value)} (h : hp[q]? = some x) : (hp ++ T)[q]? = some x := by
  have : q < hp.length := by
    rcases Nat.lt_or_ge q hp.length with h' | h'
    · exact h'
    · rw [List.getElem?_eq_none h'] at h; cases h
  rw [List.getElem?_append_left this, h]
theorem pres_set {hp : Hp} {r q : Nat} {x : Bool × List Value} (h : pres hp r) : pres (hp.set q (some x)) r := mono_set r h

/-- A part of a region that is only read, as a region of its own. -/
theorem turn_peek {τ : TS} {r q : Nat} {A B C : List Value} {b o : Nat} (hr : τ.hp[r]? = some (some (false, A ++ (B ++ C)))) (hq : τ.hp[q]? = some none) (hl : (r, b, o) ∈ τ.loc) :
    Turns τ ⟨τ.tm, τ.hp.set q (some (false, B)), (q, b, o + A.length) :: τ.loc⟩ := by
  rintro w0 W a w ⟨g, T, ρ, hs, hloc⟩
  have hr' : (τ.fill g T).hp[r]? = some (some (false, A ++ (B ++ C))) := get_append hr
  have hq' : (τ.fill g T).hp[q]? = some none := get_append hq
  have hρ := (hloc r b o hl).1
  have hag := agree_upd ρ (b, o + A.length) (not_pres hq')
  have hB : ∀ v ∈ B, ok0 (τ.fill g T).hp v := fun v hv => hs.ok.hp r _ _ hr' v (by simp [hv])
  have hne : r ≠ q := fun e => by subst e; rw [hr] at hq; cases hq
  have hBi : ∀ {i v}, B[i]? = some v → (A ++ (B ++ C))[A.length + i]? = some v := fun {i v} hi => by
    rw [List.getElem?_append_right (by omega), Nat.add_sub_cancel_left]
    rw [List.getElem?_append_left (by
      rcases Nat.lt_or_ge i B.length with h' | h'
      · exact h'
      · rw [List.getElem?_eq_none h'] at hi; cases hi)]
    exact hi
  have hhp : (⟨τ.tm, τ.hp.set q (some (false, B)), (q, b, o + A.length) :: τ.loc⟩ : TS).fill g T = ⟨(τ.fill g T).tm, (τ.fill g T).hp.set q (some (false, B)), True, 0⟩ := by
    simp only [TS.fill]; rw [set_append hq]
  refine ⟨g, T, upd ρ q (b, o + A.length), ?_, ?_⟩
  · rw [hhp]
    refine ⟨⟨fun v hv => (hs.ok.tm v hv).mono mono_set, fun k f cs hk v hv => ?_⟩, hs.tm.agree hag hs.ok.tm, ?_⟩
    · by_cases hkq : k = q
      · subst hkq
        rw [get_set_same hq'] at hk
        simp only [Option.some.injEq, Prod.mk.injEq] at hk
        obtain ⟨rfl, rfl⟩ := hk
        exact (hB v hv).mono mono_set
      · rw [get_set_other hkq] at hk
        exact (hs.ok.hp k f cs hk v hv).mono mono_set
    · refine ⟨fun k f cs hk i v hi => ?_, fun k cs hk i hi => ?_, fun k k' f c1 f' c2 hkk hk hk' hb i i' hi hi' => ?_, hs.inv.fr⟩
      · by_cases hkq : k = q
        · subst hkq
          simp only at hk
          rw [get_set_same hq'] at hk
          simp only [Option.some.injEq, Prod.mk.injEq] at hk
          obtain ⟨rfl, rfl⟩ := hk
          rw [upd_same, ren0_agree hag (hB v (List.mem_of_getElem? hi))]
          have := hs.inv.cell r _ _ hr' (A.length + i) v (hBi hi)
          rw [hρ] at this
          rw [Nat.add_assoc]; exact this
        · simp only at hk
          rw [get_set_other hkq] at hk
          rw [upd_other ρ _ hkq, ren0_agree hag (hs.ok.hp k f cs hk v (List.mem_of_getElem? hi))]
          exact hs.inv.cell k f cs hk i v hi
      · by_cases hkq : k = q
        · subst hkq
          simp only at hk
          rw [get_set_same hq'] at hk
          simp at hk
        · simp only at hk
          rw [get_set_other hkq] at hk
          rw [upd_other ρ _ hkq]
          exact hs.inv.own k cs hk i hi
      · have half : ∀ {k' : Nat} {c2 : List Value} {i i' : Nat}, k' ≠ q → (τ.fill g T).hp[k']? = some (some (true, c2)) → i < B.length → i' < c2.length → b ≠ (ρ k').1 ∨ o + A.length + i ≠ (ρ k').2 + i' := by
          intro k' c2 i i' h1 h2 h3 h4
          have hrk : r ≠ k' := fun e => by subst e; rw [hr'] at h2; simp at h2
          have := hs.inv.dis r k' false _ true c2 hrk hr' h2 rfl (A.length + i) i' (by simp; omega) h4
          rw [hρ] at this
          rw [Nat.add_assoc]; exact this
        simp only at hk hk'
        by_cases hkq : k = q
        · subst hkq
          rw [get_set_same hq'] at hk
          simp only [Option.some.injEq, Prod.mk.injEq] at hk
          obtain ⟨rfl, rfl⟩ := hk
          rw [get_set_other (Ne.symm hkk)] at hk'
          rw [upd_same, upd_other ρ _ (Ne.symm hkk)]
          have hf' : f' = true := by simpa using hb
          subst hf'
          exact half (Ne.symm hkk) hk' hi hi'
        · rw [get_set_other hkq] at hk
          rw [upd_other ρ _ hkq]
          by_cases hkq' : k' = q
          · subst hkq'
            rw [get_set_same hq'] at hk'
            simp only [Option.some.injEq, Prod.mk.injEq] at hk'
            obtain ⟨rfl, rfl⟩ := hk'
            rw [upd_same]
            have hf' : f = true := by simpa using hb
            subst hf'
            have := half hkq hk hi' hi
            rcases this with h | h
            · exact .inl (Ne.symm h)
            · exact .inr (Ne.symm h)
          · rw [get_set_other hkq'] at hk'
            rw [upd_other ρ _ hkq']
            exact hs.inv.dis k k' f c1 f' c2 hkk hk hk' hb i i' hi hi'
  · intro k b' o' hk
    simp only [List.mem_cons, Prod.mk.injEq] at hk
    rcases hk with ⟨rfl, rfl, rfl⟩ | hk
    · exact ⟨upd_same _ _ _, ⟨_, get_set_same hq⟩⟩
    · obtain ⟨h1, h2⟩ := hloc k b' o' hk
      refine ⟨?_, pres_set h2⟩
      rw [upd_other ρ _ (fun e => by subst e; obtain ⟨x, hx⟩ := h2; rw [hq] at hx; cases hx)]
      exact h1

/-- Where a region lies may be given a name. -/
theorem tri_loc {c : Code} {τ : TS} {K : Xt → TS → Prop} {r : Nat} {x : Bool × List Value} (hr : τ.hp[r]? = some (some x)) (h : ∀ b o, Tri P c ⟨τ.tm, τ.hp, (r, b, o) :: τ.loc⟩ K) : Tri P c τ K := by
  rintro w0 W a w ⟨g, T, ρ, hs, hloc⟩ Q hQ
  refine h (ρ r).1 (ρ r).2 w0 W a w ⟨g, T, ρ, hs, fun k b o hk => ?_⟩ Q hQ
  simp only [List.mem_cons, Prod.mk.injEq] at hk
  rcases hk with ⟨rfl, rfl, rfl⟩ | hk
  · exact ⟨rfl, ⟨_, hr⟩⟩
  · exact hloc k b o hk

/-- Where the regions of a call's arguments lie. -/
def rhoA (nt : Nat) (rs : List (Nat × Nat × Bool × List Value)) : Emb := fun r => if r < nt then (0, 0) else match rs[r - nt]? with
  | some (b, o, _) => (b, o)
  | none => (0, 0)
def hpA (nt : Nat) (rs : List (Nat × Nat × Bool × List Value)) : Hp := List.replicate nt none ++ rs.map fun x => some x.2.2
theorem hpA_get {nt : Nat} {rs : List (Nat × Nat × Bool × List Value)} {r : Nat} {x : Bool × List Value} (h : (hpA nt rs)[r]? = some (some x)) : ∃ b o, nt ≤ r ∧ rs[r - nt]? = some (b, o, x) := by
  unfold hpA at h
  by_cases hr : r < nt
  · rw [List.getElem?_append_left (by simpa using hr), List.getElem?_replicate] at h
    split at h <;> cases h
  · rw [List.getElem?_append_right (by simpa using Nat.le_of_not_lt hr), List.length_replicate, List.getElem?_map, Option.map_eq_some_iff] at h
    obtain ⟨⟨b, o, y⟩, h1, h2⟩ := h
    simp only [Option.some.injEq] at h2
    subst h2
    exact ⟨b, o, Nat.le_of_not_lt hr, h1⟩
theorem hpA_pres {nt : Nat} {rs : List (Nat × Nat × Bool × List Value)} {j : Nat} (h : j < rs.length) : pres (hpA nt rs) (nt + j) :=
  ⟨rs[j].2.2, by unfold hpA; rw [List.getElem?_append_right (by simp), List.length_replicate, Nat.add_sub_cancel_left, List.getElem?_map, List.getElem?_eq_getElem h]; rfl⟩

/-- **How a call begins.** -/
theorem start_gen {nt : Nat} {vs : List Value} {rs : List (Nat × Nat × Bool × List Value)} {w : World} {W : Nat → Nat → Prop} {loc : List (Nat × Nat × Nat)}
    (hv : ∀ v ∈ vs, ok2 (hpA nt rs) v) (hc : ∀ (j b o : Nat) (f : Bool) (cs : List Value), rs[j]? = some (b, o, f, cs) → (∀ v ∈ cs, ok0 (hpA nt rs) v) ∧ ∀ (i : Nat) v, cs[i]? = some v → w.cell? ⟨b, o + i, none⟩ = some (ren0 (rhoA nt rs) v))
    (hw : ∀ (j b o : Nat) (cs : List Value), rs[j]? = some (b, o, true, cs) → ∀ i, i < cs.length → w.frozen? ⟨b, o + i, none⟩ = false ∧ W b (o + i))
    (hd : ∀ (j j' b o b' o' : Nat) (f f' : Bool) (cs cs' : List Value), j ≠ j' → rs[j]? = some (b, o, f, cs) → rs[j']? = some (b', o', f', cs') → (f || f') = true → ∀ i i', i < cs.length → i' < cs'.length → b ≠ b' ∨ o + i ≠ o' + i')
    (hl : ∀ q b o, (q, b, o) ∈ loc → ∃ j f cs, q = nt + j ∧ rs[j]? = some (b, o, f, cs)) :
    TSim w W ⟨vs.map some ++ List.replicate (nt - vs.length) none, hpA nt rs, loc⟩ { tmps := (vs.map (ren (rhoA nt rs))).toArray ++ Array.replicate (nt - vs.length) undef, defers := [] } w := by
  have hg : ∀ (k i : Nat), fillT (fun _ => undef) i (List.replicate k (none : Option Value)) = List.replicate k undef := by
    intro k
    induction k with
    | zero => intro i; rfl
    | succ k ih => intro i; simp only [List.replicate_succ, fillT, ih]
  have hg2 : ∀ (l : List Value) (k i : Nat), fillT (fun _ => undef) i (l.map some ++ List.replicate k none) = l ++ List.replicate k undef := by
    intro l
    induction l with
    | nil => intro k i; exact hg k i
    | cons v l ih => intro k i; simp only [List.map_cons, List.cons_append, fillT, ih]
  have loc1 : ∀ {r b o x}, nt ≤ r → rs[r - nt]? = some (b, o, x) → rhoA nt rs r = (b, o) := by
    intro r b o x h1 h2
    simp only [rhoA, if_neg (Nat.not_lt.2 h1), h2]
  refine ⟨fun _ => undef, [], rhoA nt rs, ⟨⟨fun v hv' => ?_, fun r f cs hr v hv' => ?_⟩, ⟨?_, rfl⟩, ?_⟩, fun q b o hq => ?_⟩
  · simp only [TS.fill, List.append_nil, hg2, List.mem_append] at hv' ⊢
    rcases hv' with h | h
    · exact hv v h
    · rw [List.eq_of_mem_replicate h]; exact ok_undef _
  · simp only [TS.fill, List.append_nil] at hr ⊢
    obtain ⟨b, o, h1, h2⟩ := hpA_get hr
    exact (hc _ b o f cs h2).1 v hv'
  · simp only [TS.fill, hg2, List.map_append, List.map_replicate, ren_undef]
    simp
  · simp only [TS.fill, List.append_nil]
    refine ⟨fun r f cs hr i v hi => ?_, fun r cs hr i hi => ?_, fun r r' f c1 f' c2 hne hr hr' hb i i' hi hi' => ?_, Fr.refl _ _⟩
    · obtain ⟨b, o, h1, h2⟩ := hpA_get hr
      rw [loc1 h1 h2]
      exact (hc _ b o f cs h2).2 i v hi
    · obtain ⟨b, o, h1, h2⟩ := hpA_get hr
      rw [loc1 h1 h2]
      obtain ⟨k1, k2⟩ := hw _ b o cs h2 i hi
      exact ⟨k1, .inr k2⟩
    · obtain ⟨b, o, h1, h2⟩ := hpA_get hr
      obtain ⟨b', o', h1', h2'⟩ := hpA_get hr'
      rw [loc1 h1 h2, loc1 h1' h2']
      exact hd _ _ b o b' o' f f' c1 c2 (by omega) h2 h2' hb i i' hi hi'
  · obtain ⟨j, f, cs, rfl, h⟩ := hl q b o hq
    have hj : j < rs.length := by
      rcases Nat.lt_or_ge j rs.length with h' | h'
      · exact h'
      · rw [List.getElem?_eq_none h'] at h; cases h
    exact ⟨loc1 (Nat.le_add_right _ _) (by rw [Nat.add_sub_cancel_left]; exact h), hpA_pres hj⟩

end
end Vm
end Go.Proofs.YtbbifiogcpcpfaaDoor
