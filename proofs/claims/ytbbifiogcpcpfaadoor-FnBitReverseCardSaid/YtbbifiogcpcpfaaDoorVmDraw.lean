/-
  A small symbolic machine, part 10: a region that draws its order: the order of the text serves every order, where a check says so.
-/
import Derived.Test.YtbbifiogcpcpfaaDoorVmRun
namespace Go.Proofs.YtbbifiogcpcpfaaDoor
namespace Vm

/-! ### The check -/
def preds (o : Oper) : List Nat := (o.after.toList.filter (Region.binds .any)).map (·.on)
/-- What must lie behind each operation: a number's bits. -/
def orAll (acc : List Nat) : List Nat → Nat → Nat
  | [], s => s
  | p :: ps, s => orAll acc ps (s ||| 2 ^ p ||| (acc[p]?).getD 0)
def bfs : List Oper → List Nat → List Nat
  | [], acc => acc
  | o :: os, acc => bfs os (acc ++ [orAll acc (preds o) 0])
def predsLow : List Oper → Nat → Bool
  | [], _ => true
  | o :: os, k => (preds o).all (fun p => Nat.blt p k) && predsLow os (k + 1)
def clsOK (a b : Nat) : Bool :=
  Nat.beq a 0 || Nat.beq b 0 || (Nat.ble a 3 && Nat.ble b 3)
def noSel (o : Oper) : Bool :=
  match o.op with
  | .select _ _ => false
  | _ => true
def dstOK (E : Env) (o : Oper) : Bool := !Nat.beq (cls E o.op) 2 || o.dst.isSome
/-- Every pair (i, j), i ahead of j in the text: j waits for i, or they do not meddle. -/
def pairOK (E : Env) (ops : Array Oper) (bj : Nat) (oj : Oper) : List Oper → Nat → Bool
  | [], _ => true
  | oi :: os, i => (bj.testBit i || (oi.apart ops oj && clsOK (cls E oi.op) (cls E oj.op))) && pairOK E ops bj oj os (i + 1)
def pairsOK (E : Env) (ops : Array Oper) (bf : List Nat) (all : List Oper) : List Oper → Nat → Bool
  | [], _ => true
  | oj :: os, j => pairOK E ops ((bf[j]?).getD 0) oj (all.take j) 0 && pairsOK E ops bf all os (j + 1)
def drawOK (E : Env) (ops : Array Oper) : Bool :=
  ops.toList.all noSel && ops.toList.all (dstOK E) && predsLow ops.toList 0 && pairsOK E ops (bfs ops.toList []) ops.toList ops.toList 0

/-! ### Bits -/
theorem orAll_bit (acc : List Nat) : ∀ (ps : List Nat) (s i : Nat), (orAll acc ps s).testBit i = true → s.testBit i = true ∨ ∃ p ∈ ps, i = p ∨ ((acc[p]?).getD 0).testBit i = true
  | [], s, i, h => .inl h
  | p :: ps, s, i, h => by
    rcases orAll_bit acc ps _ i h with h | ⟨q, hq, h⟩
    · rw [Nat.testBit_or, Nat.testBit_or, Bool.or_eq_true, Bool.or_eq_true] at h
      rcases h with (h | h) | h
      · exact .inl h
      · rw [Nat.testBit_two_pow] at h
        exact .inr ⟨p, by simp, .inl (by have := of_decide_eq_true h; omega)⟩
      · exact .inr ⟨p, by simp, .inr h⟩
    · exact .inr ⟨q, by simp [hq], h⟩

/-- Closed under what must lie behind. -/
def Closed (ops : Array Oper) (L : Nat → Prop) : Prop := ∀ k o, ops[k]? = some o → L k → ∀ p ∈ preds o, L p

theorem bfs_spec (ops : Array Oper) (L : Nat → Prop) (hL : Closed ops L) : ∀ (l : List Oper) (acc : List Nat), (∀ j, l[j]? = ops[acc.length + j]?) →
    (∀ (j : Nat) o, j < acc.length → ops[j]? = some o → (∀ p ∈ preds o, L p) → ∀ i, ((acc[j]?).getD 0).testBit i = true → L i) →
    ∀ (j : Nat) o, ops[j]? = some o → j < (bfs l acc).length → (∀ p ∈ preds o, L p) → ∀ i, (((bfs l acc)[j]?).getD 0).testBit i = true → L i
  | [], acc, _, ha, j, o, ho, hj, hp, i, hi => ha j o hj ho hp i hi
  | x :: l, acc, hl, ha, j, o, ho, hj, hp, i, hi => by
    have hx : ops[acc.length]? = some x := by simpa using (hl 0).symm
    refine bfs_spec ops L hL l (acc ++ [orAll acc (preds x) 0]) (fun j => by have := hl (j + 1); simp only [List.getElem?_cons_succ] at this; rw [this, List.length_append]; congr 1; simp; omega) ?_ j o ho hj hp i hi
    intro j o hj ho hp i hi
    simp only [List.length_append, List.length_cons, List.length_nil] at hj
    by_cases hlt : j < acc.length
    · rw [List.getElem?_append_left hlt] at hi
      exact ha j o hlt ho hp i hi
    · have hje : j = acc.length := by omega
      subst hje
      rw [hx] at ho; cases ho
      rw [List.getElem?_append_right (Nat.le_refl _)] at hi
      simp only [Nat.sub_self, List.getElem?_cons_zero, Option.getD_some] at hi
      rcases orAll_bit acc _ _ i hi with h | ⟨p, hpm, h | h⟩
      · simp at h
      · rw [h]; exact hp p hpm
      · by_cases hpl : p < acc.length
        · have hpL := hp p hpm
          have hps : p < ops.size := by
            have : acc.length < ops.size := by
              rcases Nat.lt_or_ge acc.length ops.size with h' | h'
              · exact h'
              · simp [Array.getElem?_eq_none h'] at hx
            omega
          exact ha p ops[p] hpl (Array.getElem?_eq_getElem hps) (hL p _ (Array.getElem?_eq_getElem hps) hpL) i h
        · rw [List.getElem?_eq_none (Nat.le_of_not_lt hpl)] at h; simp at h

theorem bfs_length : ∀ (l : List Oper) (acc : List Nat), (bfs l acc).length = acc.length + l.length
  | [], acc => by simp [bfs]
  | x :: l, acc => by rw [bfs, bfs_length l]; simp; omega

theorem predsLow_spec : ∀ (l : List Oper) (k : Nat), predsLow l k = true → ∀ (j : Nat) o, l[j]? = some o → ∀ p ∈ preds o, p < k + j
  | [], k, _, j, o, ho => by simp at ho
  | x :: l, k, h, j, o, ho => by
    simp only [predsLow, Bool.and_eq_true, List.all_eq_true] at h
    cases j with
    | zero => simp only [List.getElem?_cons_zero, Option.some.injEq] at ho; subst ho; intro p hp; have := h.1 p hp; simp [Nat.blt] at this; omega
    | succ j => intro p hp; have := predsLow_spec l (k + 1) h.2 j o (by simpa using ho) p hp; omega

theorem pairOK_spec {E : Env} {ops : Array Oper} {bj : Nat} {oj : Oper} : ∀ (l : List Oper) (i0 : Nat), pairOK E ops bj oj l i0 = true → ∀ (i : Nat) oi, l[i]? = some oi →
    bj.testBit (i0 + i) = true ∨ (oi.apart ops oj = true ∧ clsOK (cls E oi.op) (cls E oj.op) = true)
  | [], _, _, i, oi, h => by simp at h
  | x :: l, i0, h, i, oi, ho => by
    simp only [pairOK, Bool.and_eq_true, Bool.or_eq_true] at h
    cases i with
    | zero => simp only [List.getElem?_cons_zero, Option.some.injEq] at ho; subst ho; exact h.1
    | succ i => have := pairOK_spec l (i0 + 1) h.2 i oi (by simpa using ho); rw [show i0 + (i + 1) = i0 + 1 + i by omega]; exact this

theorem pairsOK_spec {E : Env} {ops : Array Oper} {bf : List Nat} {all : List Oper} : ∀ (l : List Oper) (j0 : Nat), pairsOK E ops bf all l j0 = true → ∀ (j : Nat) oj, l[j]? = some oj →
    ∀ (i : Nat) oi, i < j0 + j → all[i]? = some oi → ((bf[j0 + j]?).getD 0).testBit i = true ∨ (oi.apart ops oj = true ∧ clsOK (cls E oi.op) (cls E oj.op) = true)
  | [], _, _, j, oj, h, _, _, _, _ => by simp at h
  | x :: l, j0, h, j, oj, ho, i, oi, hi, hoi => by
    simp only [pairsOK, Bool.and_eq_true] at h
    cases j with
    | zero =>
      simp only [List.getElem?_cons_zero, Option.some.injEq] at ho; subst ho
      have := pairOK_spec _ 0 h.1 i oi (by rw [List.getElem?_take_of_lt (by omega)]; exact hoi)
      simpa using this
    | succ j => have := pairsOK_spec l (j0 + 1) h.2 j oj (by simpa using ho) i oi (by omega) hoi; rw [show j0 + (j + 1) = j0 + 1 + j by omega]; exact this

/-! ### Two operations that do not meddle -/
section
variable {P : Program} {E : Env}

theorem load_keep {t : TypeId} {vs : List Value} {hp : Hp} {d : Nat} {x : Bool × List Value} (hd : hp[d]? = some none) (hok : ∀ u ∈ vs, ok2 hp u) : loadSem P t vs (hp.set d (some x)) = loadSem P t vs hp := by
  unfold loadSem
  split
  · rename_i a
    have ha := hok _ (List.mem_singleton.2 rfl)
    have hne : a.block ≠ d := fun e => not_pres hd (e ▸ ha.2)
    have hr : ∀ n, rd (hp.set d (some x)) a.block a.off n = rd hp a.block a.off n := fun n => by unfold rd; rw [get_set_other hne]
    simp only [hr]
  · rfl

/-- What an operation of each kind is. -/
def Kind0 (P : Program) (E : Env) (op : Op) (d : Nat) (vs : List Value) : Prop := ∃ r : Option (Value × Option Prop), ∀ hp, vsem P E op d vs hp = r.map fun x => (x.1, hp, x.2)
def Kind1 (P : Program) (E : Env) (op : Op) (d : Nat) (vs : List Value) : Prop := ∃ t, ∀ hp, vsem P E op d vs hp = (loadSem P t vs hp).map fun v => (v, hp, none)
def Kind2 (P : Program) (E : Env) (op : Op) (d : Nat) (vs : List Value) : Prop := ∃ r : Option (List Value × Value), ∀ hp, vsem P E op d vs hp = r.bind fun x => newR d x.1 x.2 hp

/-- A call of what a slot holds, where all that is known is by value. -/
def slotCall (E : Env) (vs : List Value) : Option (Value × Option Prop) :=
  match vs with
  | .func (.func f) x c :: args => if x.toList.isEmpty then (match E f with
    | some (.val G) => G (args ++ c.toList)
    | _ => none) else none
  | _ => none
theorem slotCall_eq {E : Env} (ho : E.only = true) (d : Nat) (vs : List Value) (hp : Hp) : callSem E d vs hp = (slotCall E vs).map fun x => (x.1, hp, x.2) := by
  unfold callSem
  split
  · rename_i f x c args
    by_cases hx : x.toList.isEmpty = true
    · rw [if_pos hx]
      simp only [slotCall]
      rw [if_pos hx]
      cases hs : E.fn f with
      | none => rfl
      | some s =>
        obtain ⟨G, rfl⟩ := E.ok ho f s hs
        simp only [Sm.run]
        cases G (args ++ c.toList) <;> rfl
    · rw [if_neg hx]
      simp only [slotCall]
      rw [if_neg hx]; rfl
  · rename_i h
    unfold slotCall
    split
    · rename_i f x c args; exact absurd rfl (h f x c args)
    · rfl

theorem kind_of {op : Op} {d : Nat} {vs : List Value} (hf : ∀ c f, op = .call c → c.callee = .value (.func f) → ∃ args, vs = .func (.func f) #[] #[] :: args) :
    (cls E op = 0 → Kind0 P E op d vs) ∧ (cls E op = 1 → Kind1 P E op d vs) ∧ (cls E op = 2 → Kind2 P E op d vs) ∧ (cls E op = 3 → Kind0 P E op d vs) := by
  have k0 : ∀ r : Option (Value × Option Prop), (∀ hp, vsem P E op d vs hp = (match r with | some (v, φ) => some (v, hp, φ) | none => none)) → Kind0 P E op d vs := by
    intro r hr
    refine ⟨r, fun hp => ?_⟩
    rw [hr]; cases r <;> rfl
  have k2 : ∀ r : Option (List Value × Value), (∀ hp, vsem P E op d vs hp = (match r with | some (cs, mk) => newR d cs mk hp | none => none)) → Kind2 P E op d vs := by
    intro r hr
    refine ⟨r, fun hp => ?_⟩
    rw [hr]; cases r <;> rfl
  have kp : (∀ hp, vsem P E op d vs hp = (match pureE P E op d vs with | some (v, φ) => some (v, hp, φ) | none => none)) → Kind0 P E op d vs := k0 _
  cases op
  case load t x => exact ⟨fun h => (by cases h), fun _ => ⟨t, fun hp => by simp only [vsem]; cases loadSem P t vs hp <;> rfl⟩, fun h => (by cases h), fun h => (by cases h)⟩
  case alloc t => exact ⟨fun h => (by cases h), fun h => (by cases h), fun _ => k2 _ fun hp => rfl, fun h => (by cases h)⟩
  case box t x => exact ⟨fun h => (by cases h), fun h => (by cases h), fun _ => k2 _ fun hp => rfl, fun h => (by cases h)⟩
  case buildSlice t n ps => exact ⟨fun h => (by cases h), fun h => (by cases h), fun _ => k2 _ fun hp => rfl, fun h => (by cases h)⟩
  case makeSlice t l c => exact ⟨fun h => (by cases h), fun h => (by cases h), fun _ => k2 _ fun hp => rfl, fun h => (by cases h)⟩
  case store t x y => exact ⟨fun h => (by cases h), fun h => (by cases h), fun h => (by cases h), fun h => (by cases h)⟩
  case call c =>
    cases hc : c.callee with
    | builtin b =>
      have h0 : cls E (.call c) = 0 := by simp [cls, hc]
      exact ⟨fun _ => k0 _ fun hp => (by simp only [vsem, hc]; rfl), fun h => (by rw [h0] at h; cases h), fun h => (by rw [h0] at h; cases h), fun h => (by rw [h0] at h; cases h)⟩
    | invoke r m =>
      have h0 : cls E (.call c) = 0 := by simp [cls, hc]
      exact ⟨fun _ => k0 _ fun hp => (by simp only [vsem, hc]; rfl), fun h => (by rw [h0] at h; cases h), fun h => (by rw [h0] at h; cases h), fun h => (by rw [h0] at h; cases h)⟩
    | value x =>
      have h4 : (∀ f, x = .func f → ∀ G, E f ≠ some (.val G)) → E.only = false → cls E (.call c) = 4 := by
        intro h ho
        simp only [cls, hc]
        split
        · rename_i f heq
          simp only [Callee.value.injEq] at heq
          split
          · rename_i G hG; exact absurd hG (h f heq G)
          · rfl
        · simp [ho]
        · rename_i h1 h2; exact absurd rfl (h2 x)
      by_cases hv : ∃ f G, x = .func f ∧ E f = some (.val G)
      · obtain ⟨f, G, rfl, hG⟩ := hv
        have h3 : cls E (.call c) = 3 := by simp [cls, hc, hG]
        obtain ⟨args, rfl⟩ := hf c f rfl hc
        refine ⟨fun h => (by rw [h3] at h; cases h), fun h => (by rw [h3] at h; cases h), fun h => (by rw [h3] at h; cases h), fun _ => ?_⟩
        refine ⟨G (args ++ []), fun hp => ?_⟩
        simp only [vsem, hc, callSem, List.isEmpty_nil, if_true, hG, Sm.run]
        cases G (args ++ []) <;> rfl
      · by_cases hx : ∃ f, x = .func f
        · obtain ⟨f, rfl⟩ := hx
          have h : cls E (.call c) = 4 := by
            simp only [cls, hc]
            split
            · rename_i G hG; exact absurd ⟨f, G, rfl, hG⟩ hv
            · rfl
          exact ⟨fun h' => (by rw [h] at h'; cases h'), fun h' => (by rw [h] at h'; cases h'), fun h' => (by rw [h] at h'; cases h'), fun h' => (by rw [h] at h'; cases h')⟩
        · cases ho : E.only with
          | false =>
            have h := h4 (fun f hf G hG => hv ⟨f, G, hf, hG⟩) ho
            exact ⟨fun h' => (by rw [h] at h'; cases h'), fun h' => (by rw [h] at h'; cases h'), fun h' => (by rw [h] at h'; cases h'), fun h' => (by rw [h] at h'; cases h')⟩
          | true =>
            have h3 : cls E (.call c) = 3 := by
              simp only [cls, hc]
              split
              · rename_i f heq; simp only [Callee.value.injEq] at heq; exact absurd ⟨f, heq⟩ hx
              · simp [ho]
              · rename_i h1 h2; exact absurd rfl (h2 x)
            refine ⟨fun h => (by rw [h3] at h; cases h), fun h => (by rw [h3] at h; cases h), fun h => (by rw [h3] at h; cases h), fun _ => ?_⟩
            refine ⟨slotCall E vs, fun hp => ?_⟩
            simp only [vsem, hc]
            exact slotCall_eq ho d vs hp
  all_goals exact ⟨fun _ => kp fun hp => rfl, fun h => (by cases h), fun h => (by cases h), fun h => (by cases h)⟩

theorem set_comm {hp : Hp} {d e : Nat} {x y : Option (Bool × List Value)} (h : d ≠ e) : (hp.set d x).set e y = (hp.set e y).set d x := List.set_comm _ _ h

/-- Two operations that do not meddle may change places. -/
theorem vsem_comm {opi opj : Op} {di dj : Nat} {vi vj : List Value} {hp hp1 hp2 : Hp} {x y : Value} {φi φj : Option Prop}
    (hfi : ∀ c f, opi = .call c → c.callee = .value (.func f) → ∃ args, vi = .func (.func f) #[] #[] :: args)
    (hfj : ∀ c f, opj = .call c → c.callee = .value (.func f) → ∃ args, vj = .func (.func f) #[] #[] :: args)
    (hc : clsOK (cls E opi) (cls E opj) = true) (hd : cls E opi = 2 → cls E opj = 2 → di ≠ dj)
    (hi : vsem P E opi di vi hp = some (x, hp1, φi)) (hj : vsem P E opj dj vj hp1 = some (y, hp2, φj)) (hokj : ∀ u ∈ vj, ok2 hp u) (hoki : ∀ u ∈ vi, ok2 hp u) :
    ∃ hp1', vsem P E opj dj vj hp = some (y, hp1', φj) ∧ vsem P E opi di vi hp1' = some (x, hp2, φi) := by
  have ki := kind_of (P := P) (E := E) (d := di) hfi
  have kj := kind_of (P := P) (E := E) (d := dj) hfj
  -- the kinds that leave memory alone
  have quiet0 : ∀ {op d vs}, Kind0 P E op d vs → ∀ {hp v hp' φ}, vsem P E op d vs hp = some (v, hp', φ) → hp' = hp ∧ ∀ hq, vsem P E op d vs hq = some (v, hq, φ) := by
    intro op d vs ⟨r, hr⟩ hp v hp' φ h
    rw [hr] at h
    cases r with
    | none => cases h
    | some z => simp only [Option.map_some, Option.some.injEq, Prod.mk.injEq] at h; obtain ⟨rfl, rfl, rfl⟩ := h; exact ⟨rfl, fun hq => by rw [hr]; rfl⟩
  have k1 : ∀ {op d vs}, Kind1 P E op d vs → ∀ {hp v hp' φ}, vsem P E op d vs hp = some (v, hp', φ) → hp' = hp ∧ φ = none ∧
      ∀ (e : Nat) (z : Bool × List Value), (∀ u ∈ vs, ok2 hp u) → hp[e]? = some none → vsem P E op d vs (hp.set e (some z)) = some (v, hp.set e (some z), none) := by
    intro op d vs ⟨t, ht⟩ hp v hp' φ h
    rw [ht] at h
    cases hl : loadSem P t vs hp with
    | none => rw [hl] at h; cases h
    | some z =>
      rw [hl] at h
      simp only [Option.map_some, Option.some.injEq, Prod.mk.injEq] at h
      obtain ⟨rfl, rfl, rfl⟩ := h
      exact ⟨rfl, rfl, fun e y hok he => by rw [ht, load_keep he hok, hl]; rfl⟩
  have k2 : ∀ {op d vs}, Kind2 P E op d vs → ∀ {hp v hp' φ}, vsem P E op d vs hp = some (v, hp', φ) → ∃ cs, hp[d]? = some none ∧ hp' = hp.set d (some (true, cs)) ∧ φ = none ∧
      ∀ hq : Hp, hq[d]? = some none → vsem P E op d vs hq = some (v, hq.set d (some (true, cs)), none) := by
    intro op d vs ⟨r, hr⟩ hp v hp' φ h
    rw [hr] at h
    cases r with
    | none => cases h
    | some z =>
      obtain ⟨cs, mk⟩ := z
      obtain ⟨h1, rfl, h3, h4⟩ := newR_spec h
      refine ⟨cs, h1, h3, h4, fun hq hh => ?_⟩
      rw [hr]
      simp only [Option.bind_some, newR, hh]
  simp only [clsOK, Bool.or_eq_true, Bool.and_eq_true, Nat.beq_eq, Nat.ble_eq] at hc
  have sw0i : Kind0 P E opi di vi → ∃ hp1', vsem P E opj dj vj hp = some (y, hp1', φj) ∧ vsem P E opi di vi hp1' = some (x, hp2, φi) := by
    intro k
    obtain ⟨rfl, hq⟩ := quiet0 k hi
    exact ⟨hp2, hj, hq _⟩
  have sw0j : Kind0 P E opj dj vj → ∃ hp1', vsem P E opj dj vj hp = some (y, hp1', φj) ∧ vsem P E opi di vi hp1' = some (x, hp2, φi) := by
    intro k
    obtain ⟨rfl, hq⟩ := quiet0 k hj
    exact ⟨hp, hq _, hi⟩
  rcases hc with (h0 | h0) | ⟨ha, hb⟩
  · exact sw0i (ki.1 h0)
  · exact sw0j (kj.1 h0)
  · have cases4 : ∀ n, n ≤ 3 → n = 0 ∨ n = 1 ∨ n = 2 ∨ n = 3 := fun n h => by omega
    rcases cases4 _ ha with h | h | h | h
    · exact sw0i (ki.1 h)
    · obtain ⟨rfl, rfl, hk⟩ := k1 (ki.2.1 h) hi
      rcases cases4 _ hb with h' | h' | h' | h'
      · exact sw0j (kj.1 h')
      · obtain ⟨rfl, rfl, _⟩ := k1 (kj.2.1 h') hj
        exact ⟨_, hj, hi⟩
      · obtain ⟨cs, h1, rfl, rfl, h4⟩ := k2 (kj.2.2.1 h') hj
        exact ⟨_, hj, hk dj (true, cs) hoki h1⟩
      · exact sw0j (kj.2.2.2 h')
    · obtain ⟨cs, h1, rfl, rfl, h4⟩ := k2 (ki.2.2.1 h) hi
      rcases cases4 _ hb with h' | h' | h' | h'
      · exact sw0j (kj.1 h')
      · obtain ⟨t, ht⟩ := kj.2.1 h'
        rw [ht, load_keep h1 hokj] at hj
        cases hl : loadSem P t vj hp with
        | none => rw [hl] at hj; cases hj
        | some z =>
          rw [hl] at hj
          simp only [Option.map_some, Option.some.injEq, Prod.mk.injEq] at hj
          obtain ⟨rfl, rfl, rfl⟩ := hj
          exact ⟨hp, by rw [ht, hl]; rfl, hi⟩
      · obtain ⟨cs', h1', rfl, rfl, h4'⟩ := k2 (kj.2.2.1 h') hj
        have hne := hd h h'
        rw [get_set_other (Ne.symm hne)] at h1'
        refine ⟨hp.set dj (some (true, cs')), h4' hp h1', ?_⟩
        rw [h4 _ (by rw [get_set_other hne]; exact h1), set_comm (Ne.symm hne)]
      · exact sw0j (kj.2.2.2 h')
    · exact sw0i (ki.2.2.2 h)

end
end Vm
end Go.Proofs.YtbbifiogcpcpfaaDoor
