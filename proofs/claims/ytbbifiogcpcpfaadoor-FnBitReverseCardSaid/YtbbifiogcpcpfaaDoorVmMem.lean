/-
  A small symbolic machine, part 2: loads and stores of rows of cells.
-/
import Derived.Test.YtbbifiogcpcpfaaDoorVmBase
namespace Go.Proofs.YtbbifiogcpcpfaaDoor
namespace Vm

/-- Cells written over others. -/
def splice {α : Type} : List α → Nat → List α → List α
  | cs, _, [] => cs
  | [], _, _ :: _ => []
  | _ :: cs, 0, v :: vs => v :: splice cs 0 vs
  | c :: cs, o + 1, v :: vs => c :: splice cs o (v :: vs)

theorem splice_nil {α : Type} (cs : List α) (o : Nat) : splice cs o [] = cs := by cases cs <;> simp [splice]
theorem splice_cons {α : Type} : ∀ (cs : List α) (o : Nat) (v : α) (vs : List α), splice cs o (v :: vs) = splice (cs.set o v) (o + 1) vs
  | [], o, v, vs => by cases vs <;> simp [splice]
  | c :: cs, 0, v, vs => by
    cases vs with
    | nil => simp [splice, splice_nil]
    | cons u vs => simp [splice]
  | c :: cs, o + 1, v, vs => by
    rw [splice, splice_cons cs o v vs]
    cases vs with
    | nil => simp [splice_nil]
    | cons u vs => simp [splice]
theorem splice_length {α : Type} : ∀ (vs : List α) (cs : List α) (o : Nat), (splice cs o vs).length = cs.length
  | [], cs, o => by rw [splice_nil]
  | v :: vs, cs, o => by rw [splice_cons, splice_length vs]; simp
theorem splice_mem {α : Type} : ∀ (vs : List α) (cs : List α) (o : Nat) (u : α), u ∈ splice cs o vs → u ∈ cs ∨ u ∈ vs
  | [], cs, o, u, h => by rw [splice_nil] at h; exact .inl h
  | v :: vs, cs, o, u, h => by
    rw [splice_cons] at h
    rcases splice_mem vs _ _ u h with h | h
    · rcases List.mem_or_eq_of_mem_set h with h | h
      · exact .inl h
      · exact .inr (by simp [h])
    · exact .inr (by simp [h])

def rd (hp : Hp) (r o n : Nat) : Option (List Value) :=
  match hp[r]? with
  | some (some (_, cs)) => if o + n ≤ cs.length then some ((cs.drop o).take n) else none
  | _ => none
def wr (hp : Hp) (r o : Nat) (vs : List Value) : Option Hp :=
  match hp[r]? with
  | some (some (true, cs)) => if o + vs.length ≤ cs.length then some (hp.set r (some (true, splice cs o vs))) else none
  | _ => none

theorem rd_spec {hp : Hp} {r o n : Nat} {vs : List Value} (h : rd hp r o n = some vs) :
    ∃ b cs, hp[r]? = some (some (b, cs)) ∧ o + n ≤ cs.length ∧ vs = (cs.drop o).take n := by
  unfold rd at h
  split at h
  · rename_i b cs hr
    split at h
    · rename_i hle; exact ⟨b, cs, hr, hle, by simpa using h.symm⟩
    · cases h
  · cases h
theorem wr_spec {hp hp' : Hp} {r o : Nat} {vs : List Value} (h : wr hp r o vs = some hp') :
    ∃ cs, hp[r]? = some (some (true, cs)) ∧ o + vs.length ≤ cs.length ∧ hp' = hp.set r (some (true, splice cs o vs)) := by
  unfold wr at h
  split at h
  · rename_i cs hr
    split at h
    · rename_i hle; exact ⟨cs, hr, hle, by simpa using h.symm⟩
    · cases h
  · cases h

theorem rd_ok {hp : Hp} (hok : okH hp) {r o n : Nat} {vs : List Value} (h : rd hp r o n = some vs) : ∀ v ∈ vs, ok0 hp v := by
  obtain ⟨b, cs, hr, _, rfl⟩ := rd_spec h
  intro v hv
  exact hok r b cs hr v (List.mem_of_mem_drop (List.mem_of_mem_take hv))
theorem rd_length {hp : Hp} {r o n : Nat} {vs : List Value} (h : rd hp r o n = some vs) : vs.length = n := by
  obtain ⟨b, cs, hr, hl, rfl⟩ := rd_spec h
  simp; omega
theorem wr_mono {hp hp' : Hp} {r o : Nat} {vs : List Value} (h : wr hp r o vs = some hp') : mono hp hp' := by
  obtain ⟨cs, hr, _, rfl⟩ := wr_spec h
  exact mono_set
theorem wr_back {hp hp' : Hp} {r o : Nat} {vs : List Value} (h : wr hp r o vs = some hp') : mono hp' hp := by
  obtain ⟨cs, hr, _, rfl⟩ := wr_spec h
  rintro q ⟨x, hx⟩
  by_cases hq : q = r
  · subst hq; exact ⟨_, hr⟩
  · rw [get_set_other hq] at hx; exact ⟨x, hx⟩
theorem wr_ok {hp hp' : Hp} (hok : okH hp) {r o : Nat} {vs : List Value} (hvs : ∀ v ∈ vs, ok0 hp v) (h : wr hp r o vs = some hp') : okH hp' := by
  have hm := wr_mono h
  obtain ⟨cs, hr, _, rfl⟩ := wr_spec h
  intro q b cs' hq v hv
  by_cases hqr : q = r
  · subst hqr
    rw [get_set_same hr] at hq
    simp only [Option.some.injEq, Prod.mk.injEq] at hq
    obtain ⟨rfl, rfl⟩ := hq
    rcases splice_mem _ _ _ _ hv with h | h
    · exact (hok q _ cs hr v h).mono hm
    · exact (hvs v h).mono hm
  · rw [get_set_other hqr] at hq
    exact (hok q b cs' hq v hv).mono hm

theorem add_plain (b o j : Nat) : (⟨b, o, none⟩ : Addr).add j = ⟨b, o + j, none⟩ := by
  unfold Addr.add
  split
  · subst_vars; rfl
  · rfl

section
variable {P : Program} {w0 w : World} {W : Nat → Nat → Prop} {ρ : Emb} {hp : Hp}

theorem Inv.loads (h : Inv w0 W ρ hp w) {r o n : Nat} {vs : List Value} (hr : rd hp r o n = some vs) :
    (loadCells ⟨(ρ r).1, (ρ r).2 + o, none⟩ n).run P w = .ok (vs.map (ren0 ρ)).toArray w := by
  have hl := rd_length hr
  obtain ⟨b, cs, hc, hle, rfl⟩ := rd_spec hr
  have := run_loadCells_list (P := P) w ⟨(ρ r).1, (ρ r).2 + o, none⟩ (((cs.drop o).take n).map (ren0 ρ)) (fun j v hj => by
    rw [add_plain]
    simp only [List.getElem?_map, Option.map_eq_some_iff] at hj
    obtain ⟨u, hu, rfl⟩ := hj
    have hjn : j < n := by
      rcases Nat.lt_or_ge j n with h' | h'
      · exact h'
      · rw [List.getElem?_eq_none (by rw [hl]; exact h')] at hu; cases hu
    rw [List.getElem?_take_of_lt hjn, List.getElem?_drop] at hu
    have := h.cell r b cs hc (o + j) u hu
    rw [Nat.add_assoc]; exact this)
  rw [List.length_map, hl] at this
  exact this

theorem Inv.load1 (h : Inv w0 W ρ hp w) {r o : Nat} {v : Value} (hr : rd hp r o 1 = some [v]) :
    (load ⟨(ρ r).1, (ρ r).2 + o, none⟩ .plain).run P w = .ok (ren0 ρ v) w := by
  obtain ⟨b, cs, hc, hle, he⟩ := rd_spec hr
  have hv : cs[o]? = some v := by
    have : ((cs.drop o).take 1)[0]? = some v := by rw [← he]; rfl
    rw [List.getElem?_take_of_lt (by omega), List.getElem?_drop] at this
    simpa using this
  have := h.cell r b cs hc o v hv
  simp [this]

theorem Inv.store1 (h : Inv w0 W ρ hp w) {r j : Nat} {cs : List Value} (hr : hp[r]? = some (some (true, cs))) (hj : j < cs.length) {v : Value} :
    Inv w0 W ρ (hp.set r (some (true, cs.set j v))) (w.setCell ⟨(ρ r).1, (ρ r).2 + j, none⟩ (ren0 ρ v)) := by
  have new : (hp.set r (some (true, cs.set j v)))[r]? = some (some (true, cs.set j v)) := get_set_same hr
  have hold := h.cell r true cs hr j _ (List.getElem?_eq_getElem hj)
  refine ⟨fun q b cs' hq i u hi => ?_, fun q cs' hq i hi => ?_, fun q q' b c1 b' c2 hne hq hq' hb i i' hi hi' => ?_, h.fr.setCell _ (h.own r cs hr j hj).2 rfl⟩
  · by_cases hqr : q = r
    · subst hqr
      rw [new] at hq
      simp only [Option.some.injEq, Prod.mk.injEq] at hq
      obtain ⟨rfl, rfl⟩ := hq
      by_cases hij : i = j
      · subst hij
        rw [World.cell?_setCell_same _ _ _ hold]
        rw [List.getElem?_set_self hj] at hi
        cases hi; rfl
      · rw [List.getElem?_set_ne (Ne.symm hij)] at hi
        rw [World.cell?_setCell_other _ _ _ _ (fun e => hij (by have := congrArg Addr.off e; simp only at this; omega))]
        exact h.cell q true cs hr i u hi
    · rw [get_set_other hqr] at hq
      have hlt : i < cs'.length := by
        rcases Nat.lt_or_ge i cs'.length with h' | h'
        · exact h'
        · rw [List.getElem?_eq_none h'] at hi; cases hi
      have hd := h.dis r q true cs b cs' (Ne.symm hqr) hr hq rfl j i hj hlt
      rw [World.cell?_setCell_other _ _ _ _ (fun e => by have e1 := congrArg Addr.block e; have e2 := congrArg Addr.off e; simp only at e1 e2; omega)]
      exact h.cell q b cs' hq i u hi
  · rw [World.frozen?_setCell]
    by_cases hqr : q = r
    · subst hqr
      rw [new] at hq
      simp only [Option.some.injEq, Prod.mk.injEq, true_and] at hq
      subst hq
      exact h.own q cs hr i (by simpa using hi)
    · rw [get_set_other hqr] at hq
      exact h.own q cs' hq i hi
  · by_cases hqr : q = r
    · subst hqr
      rw [new] at hq
      simp only [Option.some.injEq, Prod.mk.injEq] at hq
      obtain ⟨rfl, rfl⟩ := hq
      rw [get_set_other (Ne.symm hne)] at hq'
      exact h.dis q q' true cs b' c2 hne hr hq' hb i i' (by simpa using hi) hi'
    · rw [get_set_other hqr] at hq
      by_cases hqr' : q' = r
      · subst hqr'
        rw [new] at hq'
        simp only [Option.some.injEq, Prod.mk.injEq] at hq'
        obtain ⟨rfl, rfl⟩ := hq'
        exact h.dis q q' b c1 true cs hne hq hr (by simp) i i' hi (by simpa using hi')
      · rw [get_set_other hqr'] at hq'
        exact h.dis q q' b c1 b' c2 hne hq hq' hb i i' hi hi'

theorem set_set {α : Type} (l : List α) (i : Nat) (x y : α) : (l.set i x).set i y = l.set i y := List.set_set ..

theorem Inv.stores_from (r o : Nat) : ∀ (vs : List Value) (i : Nat) (hp : Hp) (w : World) (cs : List Value), Inv w0 W ρ hp w → hp[r]? = some (some (true, cs)) → o + i + vs.length ≤ cs.length →
    (∀ v ∈ vs, (ren0 ρ v).oneCell' = true) →
    ∃ w', (storeCells ⟨(ρ r).1, (ρ r).2 + o, none⟩ (vs.map (ren0 ρ)) i).run P w = .ok () w' ∧ Inv w0 W ρ (hp.set r (some (true, splice cs (o + i) vs))) w'
  | [], i, hp, w, cs, h, hr, hl, hv => ⟨w, rfl, by
      rw [splice_nil]
      have : hp.set r (some (true, cs)) = hp := by
        apply List.ext_getElem?
        intro q
        by_cases hq : q = r
        · subst hq; rw [get_set_same hr, hr]
        · rw [get_set_other hq]
      rw [this]; exact h⟩
  | v :: vs, i, hp, w, cs, h, hr, hl, hv => by
    simp only [List.length_cons] at hl
    have hj : o + i < cs.length := by omega
    have h1 := h.store1 hr hj (v := v)
    have hold := h.cell r true cs hr (o + i) _ (List.getElem?_eq_getElem hj)
    have hfz := (h.own r cs hr (o + i) hj).1
    have hr1 : (hp.set r (some (true, cs.set (o + i) v)))[r]? = some (some (true, cs.set (o + i) v)) := get_set_same hr
    obtain ⟨w', hrun, hI⟩ := Inv.stores_from r o vs (i + 1) _ _ _ h1 hr1 (by simp; omega) (fun u hu => hv u (by simp [hu]))
    refine ⟨w', ?_, ?_⟩
    · simp only [List.map_cons, storeCells, add_plain, Sem.run_bind]
      rw [run_store _ _ _ _ _ (hv v (by simp))]
      rw [show (ρ r).2 + o + i = (ρ r).2 + (o + i) by omega, hold]
      simp only [hfz, Bool.false_eq_true, if_false, Result.andThen_ok]
      exact hrun
    · rw [splice_cons, ← Nat.add_assoc] at *
      rw [List.set_set] at hI
      exact hI

theorem Inv.stores (h : Inv w0 W ρ hp w) {r o : Nat} {vs : List Value} {hp' : Hp} (hw : wr hp r o vs = some hp') (hv : ∀ v ∈ vs, (ren0 ρ v).oneCell' = true) :
    ∃ w', (storeCells ⟨(ρ r).1, (ρ r).2 + o, none⟩ (vs.map (ren0 ρ)) 0).run P w = .ok () w' ∧ Inv w0 W ρ hp' w' := by
  obtain ⟨cs, hr, hl, rfl⟩ := wr_spec hw
  exact Inv.stores_from r o vs 0 hp w cs h hr (by omega) hv
end

end Vm
end Go.Proofs.YtbbifiogcpcpfaaDoor
