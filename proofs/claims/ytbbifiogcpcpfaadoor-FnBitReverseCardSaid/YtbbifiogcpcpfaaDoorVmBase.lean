/-
  A small symbolic machine over the model's values: virtual memory regions, their embedding into a world. Base: values, regions, worlds.
-/
import Derived.WalkKit
namespace Go.Proofs.YtbbifiogcpcpfaaDoor
namespace Vm

/-! ### Values and regions -/

/-- The virtual memory: region r, if it is there: may it be written, and its cells. -/
abbrev Hp := List (Option (Bool × List Value))
/-- Where a region lies: block and first cell. -/
abbrev Emb := Nat → Nat × Nat

def rena (ρ : Emb) (a : Addr) : Addr := ⟨(ρ a.block).1, (ρ a.block).2 + a.off, none⟩
def ren0 (ρ : Emb) : Value → Value
  | .pointer (some a) => .pointer (some (rena ρ a))
  | .slice (some a) l c => .slice (some (rena ρ a)) l c
  | v => v
def ren1 (ρ : Emb) : Value → Value
  | .agg cs => .agg (cs.map (ren0 ρ))
  | .func f x c => .func f (x.map (ren0 ρ)) (c.map (ren0 ρ))
  | v => ren0 ρ v
def ren (ρ : Emb) : Value → Value
  | .tuple vs => .tuple (vs.map (ren1 ρ))
  | v => ren1 ρ v

def pres (hp : Hp) (r : Nat) : Prop := ∃ x, hp[r]? = some (some x)

def ok0 (hp : Hp) : Value → Prop
  | .pointer (some a) => a.spot = none ∧ pres hp a.block
  | .slice (some a) _ _ => a.spot = none ∧ pres hp a.block
  | .int k n => k.min ≤ n ∧ n ≤ k.max
  | .bool _ => True
  | .string _ => True
  | .pointer none => True
  | .slice none _ _ => True
  | .nilFunc => True
  | .nilIface => True
  | .func _ x c => x = #[] ∧ c = #[]
  | _ => False
def ok1 (hp : Hp) : Value → Prop
  | .agg cs => ∀ v ∈ cs, ok0 hp v
  | .func _ x c => (∀ v ∈ x, ok0 hp v) ∧ ∀ v ∈ c, ok0 hp v
  | v => ok0 hp v
def ok2 (hp : Hp) : Value → Prop
  | .tuple vs => ∀ v ∈ vs, ok1 hp v
  | v => ok1 hp v

def okH (hp : Hp) : Prop := ∀ (r : Nat) (b : Bool) (cs : List Value), hp[r]? = some (some (b, cs)) → ∀ v ∈ cs, ok0 hp v

def mono (hp hp' : Hp) : Prop := ∀ r, pres hp r → pres hp' r
theorem mono.refl (hp : Hp) : mono hp hp := fun _ h => h
theorem mono.trans {a b c : Hp} (h : mono a b) (k : mono b c) : mono a c := fun r hr => k r (h r hr)

theorem ok0.mono {hp hp' : Hp} (hm : mono hp hp') {v : Value} (h : ok0 hp v) : ok0 hp' v := by
  cases v with
  | pointer a => cases a with
    | none => trivial
    | some a => exact ⟨h.1, hm _ h.2⟩
  | slice a l c => cases a with
    | none => trivial
    | some a => exact ⟨h.1, hm _ h.2⟩
  | _ => exact h
theorem ok1.mono {hp hp' : Hp} (hm : Vm.mono hp hp') {v : Value} (h : ok1 hp v) : ok1 hp' v := by
  cases v with
  | agg cs => exact fun u hu => (h u hu).mono hm
  | func f x c => exact ⟨fun u hu => (h.1 u hu).mono hm, fun u hu => (h.2 u hu).mono hm⟩
  | _ => simp only [ok1] at h ⊢; exact h.mono hm
theorem ok2.mono {hp hp' : Hp} (hm : Vm.mono hp hp') {v : Value} (h : ok2 hp v) : ok2 hp' v := by
  cases v with
  | tuple vs => exact fun u hu => (h u hu).mono hm
  | _ => simp only [ok2] at h ⊢; exact h.mono hm

theorem ok1_of_ok0 {hp : Hp} {v : Value} (h : ok0 hp v) : ok1 hp v := by
  cases v with
  | agg cs => exact h.elim
  | func f x c => obtain ⟨rfl, rfl⟩ := h; exact ⟨fun _ h => by simp at h, fun _ h => by simp at h⟩
  | _ => simp only [ok1]; exact h
theorem ok2_of_ok1 {hp : Hp} {v : Value} (h : ok1 hp v) : ok2 hp v := by
  cases v with
  | tuple vs => exact h.elim
  | _ => simp only [ok2]; exact h
theorem ok2_of_ok0 {hp : Hp} {v : Value} (h : ok0 hp v) : ok2 hp v := ok2_of_ok1 (ok1_of_ok0 h)

/-- Two embeddings that agree on what is there. -/
def Agree (hp : Hp) (ρ ρ' : Emb) : Prop := ∀ r, pres hp r → ρ' r = ρ r
theorem Agree.refl (hp : Hp) (ρ : Emb) : Agree hp ρ ρ := fun _ _ => rfl
theorem Agree.trans {hp hp' : Hp} {a b c : Emb} (hm : mono hp hp') (h : Agree hp a b) (k : Agree hp' b c) : Agree hp a c :=
  fun r hr => (k r (hm r hr)).trans (h r hr)

theorem rena_agree {hp : Hp} {ρ ρ' : Emb} (h : Agree hp ρ ρ') {a : Addr} (ha : pres hp a.block) : rena ρ' a = rena ρ a := by
  simp [rena, h _ ha]
theorem ren0_agree {hp : Hp} {ρ ρ' : Emb} (h : Agree hp ρ ρ') {v : Value} (hv : ok0 hp v) : ren0 ρ' v = ren0 ρ v := by
  cases v with
  | pointer a => cases a with
    | none => rfl
    | some a => simp [ren0, rena_agree h hv.2]
  | slice a l c => cases a with
    | none => rfl
    | some a => simp [ren0, rena_agree h hv.2]
  | _ => rfl
theorem ren1_agree {hp : Hp} {ρ ρ' : Emb} (h : Agree hp ρ ρ') {v : Value} (hv : ok1 hp v) : ren1 ρ' v = ren1 ρ v := by
  cases v with
  | agg cs => exact congrArg Value.agg (Array.map_congr_left fun u hu => ren0_agree h (hv u hu))
  | func f x c =>
    have e1 : x.map (ren0 ρ') = x.map (ren0 ρ) := Array.map_congr_left fun u hu => ren0_agree h (hv.1 u hu)
    have e2 : c.map (ren0 ρ') = c.map (ren0 ρ) := Array.map_congr_left fun u hu => ren0_agree h (hv.2 u hu)
    simp only [ren1, e1, e2]
  | _ => simp only [ok1] at hv; simp only [ren1]; exact ren0_agree h hv
theorem ren_agree {hp : Hp} {ρ ρ' : Emb} (h : Agree hp ρ ρ') {v : Value} (hv : ok2 hp v) : ren ρ' v = ren ρ v := by
  cases v with
  | tuple vs => exact congrArg Value.tuple (Array.map_congr_left fun u hu => ren1_agree h (hv u hu))
  | _ => simp only [ok2] at hv; simp only [ren]; exact ren1_agree h hv

theorem ren1_of_ok0 {hp : Hp} (ρ : Emb) {v : Value} (h : ok0 hp v) : ren1 ρ v = ren0 ρ v := by
  cases v with
  | agg cs => exact h.elim
  | func f x c => obtain ⟨rfl, rfl⟩ := h; simp [ren1, ren0]
  | _ => rfl
theorem ren_of_ok1 {hp : Hp} (ρ : Emb) {v : Value} (h : ok1 hp v) : ren ρ v = ren1 ρ v := by
  cases v with
  | tuple vs => exact h.elim
  | _ => rfl
theorem ren_of_ok0 {hp : Hp} (ρ : Emb) {v : Value} (h : ok0 hp v) : ren ρ v = ren0 ρ v := by
  rw [ren_of_ok1 ρ (ok1_of_ok0 h), ren1_of_ok0 ρ h]
theorem ren0_oneCell {hp : Hp} (ρ : Emb) {v : Value} (h : ok0 hp v) : (ren0 ρ v).oneCell' = true := by
  cases v with
  | agg cs => exact h.elim
  | tuple cs => exact h.elim
  | pointer a => cases a <;> rfl
  | slice a l c => cases a <;> rfl
  | _ => rfl

/-- The cells of a value that may be stored. -/
def storable : Value → Bool
  | .tuple _ => false
  | .func _ x c => x.size == 0 && c.size == 0
  | _ => true
theorem cells_ok {hp : Hp} {v : Value} (h : ok2 hp v) (hs : storable v = true) : ∀ u ∈ v.cells.toList, ok0 hp u := by
  cases v with
  | tuple vs => simp [storable] at hs
  | func f x c =>
    simp [storable] at hs
    intro u hu
    simp [Value.cells] at hu
    subst hu
    exact hs
  | agg cs => intro u hu; exact h u (by simpa [Value.cells] using hu)
  | _ => intro u hu; simp [Value.cells] at hu; subst hu; exact h
theorem cells_ren {hp : Hp} (ρ : Emb) {v : Value} (h : ok2 hp v) (hs : storable v = true) : (ren ρ v).cells.toList = v.cells.toList.map (ren0 ρ) := by
  cases v with
  | tuple vs => simp [storable] at hs
  | func f x c => simp [storable] at hs; obtain ⟨rfl, rfl⟩ := hs; simp [ren, ren1, ren0, Value.cells]
  | agg cs => simp [ren, ren1, Value.cells]
  | pointer a => cases a <;> simp [ren, ren1, ren0, Value.cells]
  | slice a l c => cases a <;> simp [ren, ren1, ren0, Value.cells]
  | _ => simp [ren, ren1, ren0, Value.cells]

/-! ### Worlds -/

/-- What may have turned between two worlds: the cells of W, in blocks that were there; new blocks. -/
structure Fr (W : Nat → Nat → Prop) (w w' : World) : Prop where
  os : w'.os = w.os
  tape : w'.tape = w.tape
  output : w'.output = w.output
  size : w.heap.size ≤ w'.heap.size
  blk : ∀ k, k < w.heap.size → w'.heap[k]? = w.heap[k]? ∨ ∃ c c' e f, w.heap[k]? = some (.cells c e f) ∧ w'.heap[k]? = some (.cells c' e f) ∧ c'.size = c.size ∧ ∀ j, ¬ W k j → c'[j]? = c[j]?

theorem Fr.refl (W : Nat → Nat → Prop) (w : World) : Fr W w w := ⟨rfl, rfl, rfl, Nat.le_refl _, fun _ _ => .inl rfl⟩

theorem Fr.trans {W : Nat → Nat → Prop} {a b c : World} (h : Fr W a b) (k : Fr W b c) : Fr W a c := by
  refine ⟨k.os.trans h.os, k.tape.trans h.tape, k.output.trans h.output, Nat.le_trans h.size k.size, fun i hi => ?_⟩
  have hi' := Nat.lt_of_lt_of_le hi h.size
  rcases h.blk i hi with h1 | ⟨c1, c2, e, f, h1, h2, h3, h4⟩ <;> rcases k.blk i hi' with k1 | ⟨d1, d2, e', f', k1, k2, k3, k4⟩
  · exact .inl (k1.trans h1)
  · exact .inr ⟨d1, d2, e', f', h1 ▸ k1, k2, k3, k4⟩
  · exact .inr ⟨c1, c2, e, f, h1, k1.trans h2, h3, h4⟩
  · rw [h2] at k1
    simp only [Option.some.injEq, Obj.cells.injEq] at k1
    obtain ⟨rfl, rfl, rfl⟩ := k1
    exact .inr ⟨c1, d2, e, f, h1, k2, k3.trans h3, fun j hj => (k4 j hj).trans (h4 j hj)⟩

theorem Fr.weaken {W W' : Nat → Nat → Prop} {a b : World} (h : Fr W a b) (hw : ∀ k j, W k j → W' k j) : Fr W' a b :=
  ⟨h.os, h.tape, h.output, h.size, fun k hk => (h.blk k hk).imp id fun ⟨c, c', e, f, h1, h2, h3, h4⟩ => ⟨c, c', e, f, h1, h2, h3, fun j hj => h4 j fun hh => hj (hw k j hh)⟩⟩

theorem Fr.below {a b : World} (h : Fr (fun _ _ => False) a b) : RowKit.Below a.heap.size a b := by
  refine ⟨h.os, h.tape, h.output, h.size, fun k hk => ?_⟩
  rcases h.blk k hk with h1 | ⟨c, c', e, f, h1, h2, h3, h4⟩
  · exact h1
  · rw [h1, h2, show c' = c from Array.ext_getElem? fun j => h4 j id]

theorem Fr.drew (W : Nat → Nat → Prop) (w : World) : Fr W w w.drew := ⟨rfl, rfl, rfl, Nat.le_refl _, fun _ _ => .inl rfl⟩

theorem Fr.alloc (W : Nat → Nat → Prop) (w : World) (o : Obj) : Fr W w (w.alloc o) :=
  ⟨rfl, rfl, rfl, by simp, fun k hk => .inl (RowKit.Below.heap_alloc w o k hk)⟩

theorem Fr.setCell {W : Nat → Nat → Prop} {w0 w : World} (h : Fr W w0 w) {a : Addr} (v : Value) (ha : w0.heap.size ≤ a.block ∨ W a.block a.off) (hs : a.spot = none) : Fr W w0 (w.setCell a v) := by
  refine ⟨h.os, h.tape, h.output, by simpa using h.size, fun k hk => ?_⟩
  by_cases hka : k = a.block
  · subst hka
    have hW := ha.resolve_left (by omega)
    rcases h.blk _ hk with h1 | ⟨c, c', e, f, h1, h2, h3, h4⟩
    · cases hh : w0.heap[a.block]? with
      | none => left; simp [World.setCell, Array.getElem?_modify, h1, hh]
      | some o =>
        rw [hh] at h1
        cases o with
        | cells c e f =>
          right
          refine ⟨c, c.setIfInBounds a.off v, e, f, rfl, by simp [World.setCell, Array.getElem?_modify, h1, hs], by simp, fun j hj => ?_⟩
          have : a.off ≠ j := fun e => hj (e ▸ hW)
          simp [Array.getElem?_setIfInBounds_ne this]
        | _ => left; simp [World.setCell, Array.getElem?_modify, h1]
    · right
      refine ⟨c, c'.setIfInBounds a.off v, e, f, h1, by simp [World.setCell, Array.getElem?_modify, h2, hs], by simp [h3], fun j hj => ?_⟩
      have : a.off ≠ j := fun e => hj (e ▸ hW)
      simp [Array.getElem?_setIfInBounds_ne this, h4 j hj]
  · rw [RowKit.Below.heap_setCell w a v k hka]
    exact h.blk k hk

/-- A cell that was there and may not have turned reads as it did. -/
theorem Fr.cell {W : Nat → Nat → Prop} {w w' : World} (h : Fr W w w') {a : Addr} {v : Value} (hc : w.cell? a = some v) (hW : ¬ W a.block a.off) : w'.cell? a = some v := by
  have hlt := World.block_lt_of_cell? _ _ hc
  rcases h.blk _ hlt with h1 | ⟨c, c', e, f, h1, h2, h3, h4⟩
  · rw [World.cell?_of_block (w := w) h1]; exact hc
  · simp only [World.cell?, h1] at hc
    simp only [World.cell?, h2]
    by_cases hs : a.spot.isSome = true
    · simp [hs] at hc
    · simp only [hs] at hc ⊢
      rw [← hc]; simpa using h4 _ hW
/-- A cell that was there is there. -/
theorem Fr.some_cell {W : Nat → Nat → Prop} {w w' : World} (h : Fr W w w') {a : Addr} {v : Value} (hc : w.cell? a = some v) : ∃ v', w'.cell? a = some v' := by
  have hlt := World.block_lt_of_cell? _ _ hc
  rcases h.blk _ hlt with h1 | ⟨c, c', e, f, h1, h2, h3, h4⟩
  · exact ⟨v, by rw [World.cell?_of_block (w := w) h1]; exact hc⟩
  · simp only [World.cell?, h1] at hc
    simp only [World.cell?, h2]
    by_cases hs : a.spot.isSome = true
    · simp [hs] at hc
    · simp only [hs] at hc ⊢
      have : a.off < c.size := by
        rcases Nat.lt_or_ge a.off c.size with h' | h'
        · exact h'
        · simp [Array.getElem?_eq_none h'] at hc
      exact ⟨c'[a.off]'(h3 ▸ this), by simp⟩
theorem Fr.frozen {W : Nat → Nat → Prop} {w w' : World} (h : Fr W w w') {a : Addr} (hlt : a.block < w.heap.size) : w'.frozen? a = w.frozen? a := by
  rcases h.blk _ hlt with h1 | ⟨c, c', e, f, h1, h2, h3, h4⟩
  · exact World.frozen?_of_block (w := w) h1
  · simp [World.frozen?, h1, h2]

/-- The virtual memory lies in the world; what else was there at w0 has not turned but for W. -/
structure Inv (w0 : World) (W : Nat → Nat → Prop) (ρ : Emb) (hp : Hp) (w : World) : Prop where
  cell : ∀ (r : Nat) (b : Bool) (cs : List Value), hp[r]? = some (some (b, cs)) → ∀ (i : Nat) (v : Value), cs[i]? = some v → w.cell? ⟨(ρ r).1, (ρ r).2 + i, none⟩ = some (ren0 ρ v)
  own : ∀ (r : Nat) (cs : List Value), hp[r]? = some (some (true, cs)) → ∀ i, i < cs.length → w.frozen? ⟨(ρ r).1, (ρ r).2 + i, none⟩ = false ∧ (w0.heap.size ≤ (ρ r).1 ∨ W (ρ r).1 ((ρ r).2 + i))
  dis : ∀ (r r' : Nat) (b : Bool) (cs : List Value) (b' : Bool) (cs' : List Value), r ≠ r' → hp[r]? = some (some (b, cs)) → hp[r']? = some (some (b', cs')) → (b || b') = true →
    ∀ i i', i < cs.length → i' < cs'.length → (ρ r).1 ≠ (ρ r').1 ∨ (ρ r).2 + i ≠ (ρ r').2 + i'
  fr : Fr W w0 w

theorem Inv.drew {w0 : World} {W : Nat → Nat → Prop} {ρ : Emb} {hp : Hp} {w : World} (h : Inv w0 W ρ hp w) : Inv w0 W ρ hp w.drew :=
  ⟨h.cell, h.own, h.dis, h.fr.trans (Fr.drew W w)⟩

theorem Inv.alloc {w0 : World} {W : Nat → Nat → Prop} {ρ : Emb} {hp : Hp} {w : World} (h : Inv w0 W ρ hp w) (o : Obj) : Inv w0 W ρ hp (w.alloc o) := by
  have lt : ∀ (r : Nat) (b : Bool) (cs : List Value), hp[r]? = some (some (b, cs)) → ∀ i, i < cs.length → (ρ r).1 < w.heap.size := fun r b cs hr i hi =>
    World.block_lt_of_cell? _ ⟨(ρ r).1, (ρ r).2 + i, none⟩ (h.cell r b cs hr i _ (List.getElem?_eq_getElem hi))
  refine ⟨fun r b cs hr i v hi => ?_, fun r cs hr i hi => ?_, h.dis, h.fr.trans (Fr.alloc W w o)⟩
  · have := lt r b cs hr i (by rcases Nat.lt_or_ge i cs.length with h' | h'; exact h'; simp [List.getElem?_eq_none h'] at hi)
    rw [World.cell?_alloc_lt _ _ _ this]; exact h.cell r b cs hr i v hi
  · have hl := lt r true cs hr i hi
    rw [World.frozen?_alloc_old _ _ _ (Nat.ne_of_lt hl)]
    exact h.own r cs hr i hi

/-- One more region, in a new block. -/
def upd (ρ : Emb) (d : Nat) (x : Nat × Nat) : Emb := fun r => if r = d then x else ρ r
theorem upd_same (ρ : Emb) (d : Nat) (x : Nat × Nat) : upd ρ d x d = x := by simp [upd]
theorem upd_other (ρ : Emb) {d r : Nat} (x : Nat × Nat) (h : r ≠ d) : upd ρ d x r = ρ r := by simp [upd, h]
theorem agree_upd {hp : Hp} (ρ : Emb) {d : Nat} (x : Nat × Nat) (h : ¬ pres hp d) : Agree hp ρ (upd ρ d x) :=
  fun _ hr => upd_other ρ x fun e => h (e ▸ hr)

theorem not_pres {hp : Hp} {d : Nat} (h : hp[d]? = some none) : ¬ pres hp d := fun ⟨x, hx⟩ => by rw [h] at hx; cases hx
theorem get_set_same {hp : Hp} {d : Nat} {x y : Option (Bool × List Value)} (h : hp[d]? = some x) : (hp.set d y)[d]? = some y := by
  have : d < hp.length := by
    rcases Nat.lt_or_ge d hp.length with h' | h'
    · exact h'
    · simp [List.getElem?_eq_none h'] at h
  simp [this]
theorem get_set_other {hp : Hp} {d r : Nat} {y : Option (Bool × List Value)} (h : r ≠ d) : (hp.set d y)[r]? = hp[r]? := by
  rw [List.getElem?_set_ne (Ne.symm h)]
theorem mono_set {hp : Hp} {d : Nat} {y : Bool × List Value} : mono hp (hp.set d (some y)) := by
  intro r ⟨x, hx⟩
  by_cases hr : r = d
  · subst hr; exact ⟨y, get_set_same hx⟩
  · exact ⟨x, by rw [get_set_other hr]; exact hx⟩

theorem Inv.new {w0 : World} {W : Nat → Nat → Prop} {ρ : Emb} {hp : Hp} {w : World} (h : Inv w0 W ρ hp w) (hok : okH hp) {d : Nat} (hd : hp[d]? = some none)
    (cs : List Value) (hcs : ∀ v ∈ cs, ok0 hp v) (t : TypeId) :
    Inv w0 W (upd ρ d (w.heap.size, 0)) (hp.set d (some (true, cs))) (w.alloc (.cells (cs.map (ren0 ρ)).toArray t)) := by
  have ha := agree_upd ρ (w.heap.size, 0) (not_pres hd)
  have h1 := h.alloc (.cells (cs.map (ren0 ρ)).toArray t)
  have lt : ∀ (r : Nat) (b : Bool) (cs : List Value), hp[r]? = some (some (b, cs)) → ∀ i, i < cs.length → (ρ r).1 < w.heap.size := fun r b cs hr i hi =>
    World.block_lt_of_cell? _ ⟨(ρ r).1, (ρ r).2 + i, none⟩ (h.cell r b cs hr i _ (List.getElem?_eq_getElem hi))
  have new : (hp.set d (some (true, cs)))[d]? = some (some (true, cs)) := get_set_same hd
  refine ⟨fun r b cs' hr i v hi => ?_, fun r cs' hr i hi => ?_, fun r r' b c1 b' c2 hne hr hr' hb i i' hi hi' => ?_, h1.fr⟩
  · by_cases hrd : r = d
    · subst hrd
      rw [new] at hr
      simp only [Option.some.injEq, Prod.mk.injEq] at hr
      obtain ⟨rfl, rfl⟩ := hr
      rw [upd_same, ren0_agree ha (hcs v (List.mem_of_getElem? hi))]
      simp [hi]
    · rw [get_set_other hrd] at hr
      rw [upd_other ρ _ hrd, ren0_agree ha (hok r b cs' hr v (List.mem_of_getElem? hi))]
      exact h1.cell r b cs' hr i v hi
  · by_cases hrd : r = d
    · subst hrd
      rw [upd_same]
      exact ⟨by simp, .inl h.fr.size⟩
    · rw [get_set_other hrd] at hr
      rw [upd_other ρ _ hrd]
      exact h1.own r cs' hr i hi
  · by_cases hrd : r = d
    · subst hrd
      have hne' : r' ≠ r := Ne.symm hne
      rw [get_set_other hne'] at hr'
      rw [upd_same, upd_other ρ _ hne']
      left; have := lt r' b' c2 hr' i' hi'; simp; omega
    · rw [get_set_other hrd] at hr
      rw [upd_other ρ _ hrd]
      by_cases hrd' : r' = d
      · subst hrd'
        rw [upd_same]
        left; have := lt r b c1 hr i hi; simp; omega
      · rw [get_set_other hrd'] at hr'
        rw [upd_other ρ _ hrd']
        exact h.dis r r' b c1 b' c2 hne hr hr' hb i i' hi hi'

end Vm
end Go.Proofs.YtbbifiogcpcpfaaDoor
