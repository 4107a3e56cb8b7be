/-
  A small symbolic machine, part 7: operations that read, write and make memory, and calls: one step.
-/
import Derived.Test.YtbbifiogcpcpfaaVmPureAll
namespace Go.Proofs.Ytbbifiogcpcpfaa
namespace Vm

/-- What is known of a function that is called: by value alone (its value and what is to be proved of it), or with memory. -/
inductive Sm where
  | val (G : List Value → Option (Value × Option Prop))
  | mem (F : Nat → List Value → Hp → Option (Value × Hp × Option Prop))
def Sm.run : Sm → Nat → List Value → Hp → Option (Value × Hp × Option Prop)
  | .val G, _, vs, hp => match G vs with
    | some (v, φ) => some (v, hp, φ)
    | none => none
  | .mem F, d, vs, hp => F d vs hp
/-- What is known of the functions; 'only': all that is known is by value alone. 'sym': lengths and places may be unknown: what else is tested is to be proved; 'al': (r, s, q): region q lies s cells behind region r's first;
'as': what is taken to be true of the truth in a slot. -/
structure Env where
  fn : Nat → Option Sm
  only : Bool
  ok : only = true → ∀ f s, fn f = some s → ∃ G, s = .val G
  sym : Bool := false
  al : List (Nat × Nat × Nat) := []
  asl : List (Nat × Bool) := []
instance : CoeFun Env fun _ => Nat → Option Sm := ⟨Env.fn⟩

/-- A new region for slot d. -/
def newR (d : Nat) (cs : List Value) (mk : Value) (hp : Hp) : Option (Value × Hp × Option Prop) :=
  match hp[d]? with
  | some none => some (mk, hp.set d (some (true, cs)), none)
  | _ => none

def loadSem (P : Program) (t : TypeId) (vs : List Value) (hp : Hp) : Option Value :=
  match vs with
  | [.pointer (some a)] => (match aggT P t, szT P t with
    | some true, some n => (match rd hp a.block a.off n with
      | some cs => some (.agg cs.toArray)
      | none => none)
    | some false, some _ => (match rd hp a.block a.off 1 with
      | some [v] => some v
      | _ => none)
    | _, _ => none)
  | _ => none

def storeSem (P : Program) (t : TypeId) (vs : List Value) (hp : Hp) : Option Hp :=
  match vs with
  | [.pointer (some a), v] => (match szT P t with
    | some n => if storable v && Nat.beq (vcells v).length n then wr hp a.block a.off (vcells v) else none
    | none => none)
  | _ => none

def repL : Nat → List Value → List Value
  | 0, _ => []
  | n + 1, z => z ++ repL n z

/-- The cells of what an operation makes, and the value that leads to them. -/
def allocSem (P : Program) (op : Op) (vs : List Value) (d : Nat) : Option (List Value × Value) :=
  match op with
  | .alloc t => (match zeroL P t with
    | some zs => if zs.all plain0 then some (zs, .pointer (some ⟨d, 0, none⟩)) else none
    | none => none)
  | .box _ _ => (match vs with
    | [v] => if storable v then some (vcells v, .pointer (some ⟨d, 0, none⟩)) else none
    | _ => none)
  | .buildSlice t len ps => (match P.underlying t with
    | some (.slice e) => (match szT P e, zeroL P e with
      | some size, some zs => if zs.all plain0 && Nat.ble 1 (len * size) && Nat.ble (len * size) 16777216 && Nat.beq zs.length size then
          (match fillL (fun i => some (i * size, size)) (repL len zs) (zipParts ps.toList vs) with
          | some cs => some (cs, .slice (some ⟨d, 0, none⟩) len len)
          | none => none)
        else none
      | _, _ => none)
    | _ => none)
  | .makeSlice t _ _ => (match vs with
    | [.int _ l, .int _ c] => (match P.underlying t with
      | some (.slice e) => (match szT P e, zeroL P e, P.info? e with
        | some size, some zs, some i => if zs.all plain0 && Nat.beq zs.length size && Nat.ble 1 size && decide (l = c) && decide (0 ≤ l) && decide (l ≤ 16777216) && Nat.ble i.bytes 65536 && Nat.ble 1 l.toNat then
            some (repL l.toNat zs, .slice (some ⟨d, 0, none⟩) l.toNat l.toNat)
          else none
        | _, _, _ => none)
      | _ => none)
    | _ => none)
  | _ => none

/-- Which kind: 0 touches no memory, 1 reads, 2 makes, 3 a call by value, 4 all else. -/
def cls (E : Env) (op : Op) : Nat :=
  match op with
  | .load _ _ => 1
  | .alloc _ => 2
  | .box _ _ => 2
  | .buildSlice _ _ _ => 2
  | .makeSlice _ _ _ => 2
  | .store _ _ _ => 4
  | .call c => (match c.callee with
    | .value (.func f) => (match E f with
      | some (.val _) => 3
      | _ => 4)
    | .value _ => (match E.only with
      | true => 3
      | false => 4)
    | _ => 0)
  | _ => 0

def callSem (E : Env) (d : Nat) (vs : List Value) (hp : Hp) : Option (Value × Hp × Option Prop) :=
  match vs with
  | .func (.func f) x c :: args => if x.toList.isEmpty then (match E f with
    | some s => s.run d (args ++ c.toList) hp
    | none => none) else none
  | _ => none

def look2 {α : Type} : List (Nat × α) → Nat → Option α
  | [], _ => none
  | (k, x) :: l, i => match Nat.beq k i with
    | true => some x
    | false => look2 l i
theorem look2_mem {α : Type} : ∀ (l : List (Nat × α)) (i : Nat) (x : α), look2 l i = some x → (i, x) ∈ l
  | [], i, x, h => by cases h
  | (k, y) :: l, i, x, h => by
    simp only [look2] at h
    split at h
    · rename_i hk
      cases h
      have := Nat.eq_of_beq_eq_true hk
      subst this; simp
    · exact List.mem_cons_of_mem _ (look2_mem l i x h)

/-- A truth that is taken to be so. -/
def asm (E : Env) (d : Nat) (v : Value) : Value × Option Prop :=
  match look2 E.asl d with
  | none => (v, none)
  | some lit => (match v with
    | .bool b => (.bool lit, some (b = lit))
    | v => (v, none))
def lenI (n : Nat) : Int := if n ≤ 9223372036854775807 then n else 0
theorem lenI_eq {n : Nat} (h : n ≤ 9223372036854775807) : lenI n = n := if_pos h
theorem lenI_bd (n : Nat) : 0 ≤ lenI n ∧ lenI n ≤ 9223372036854775807 := by unfold lenI; split <;> omega
def lenE (P : Program) (ts : List TypeId) (vs : List Value) : Option (Value × Option Prop) :=
  match ts, vs with
  | [t], [.slice _ n _] => (match P.underlying t with
    | some (.slice _) => some (.int .i64 (lenI n), some (n ≤ 9223372036854775807))
    | _ => none)
  | _, _ => none
def idxE (P : Program) (E : Env) (t : TypeId) (vs : List Value) : Option (Value × Option Prop) :=
  match vs with
  | [.slice (some a) len _, .int _ i] => (match P.underlying t with
    | some (.slice e) => (match szT P e with
      | some n => (match look2 E.al a.block with
        | some (s, q) => some (.pointer (some ⟨q, 0, none⟩), some ((0 ≤ i ∧ i < len) ∧ a.off + i.toNat * n = s))
        | none => some (.pointer (some (a.add (i.toNat * n))), some (0 ≤ i ∧ i < len)))
      | none => none)
    | _ => none)
  | [.pointer a, .int k i] => (match pureSem P (.indexAddr t (.tmp 0) (.tmp 0)) [.pointer a, .int k i] with
    | some v => some (v, none)
    | none => none)
  | _ => none
/-- An operation that touches no memory: its value, and what is to be proved of it. -/
def pureE (P : Program) (E : Env) (op : Op) (d : Nat) (vs : List Value) : Option (Value × Option Prop) :=
  match E.sym with
  | false => (match pureSem P op vs with
    | some v => some (v, none)
    | none => none)
  | true => (match op with
    | .indexAddr t _ _ => idxE P E t vs
    | .call c => (match c.callee with
      | .builtin .len => lenE P c.argTypes.toList vs
      | _ => (match pureSem P (.call c) vs with
        | some v => some (v, none)
        | none => none))
    | op => (match pureSem P op vs with
      | some v => some (asm E d v)
      | none => none))

/-- One operation: its value, the memory behind it, and what is to be proved of it. -/
def vsem (P : Program) (E : Env) (op : Op) (d : Nat) (vs : List Value) (hp : Hp) : Option (Value × Hp × Option Prop) :=
  match op with
  | .load t _ => (match loadSem P t vs hp with
    | some v => some (v, hp, none)
    | none => none)
  | .alloc t => (match allocSem P (.alloc t) vs d with
    | some (cs, mk) => newR d cs mk hp
    | none => none)
  | .box t x => (match allocSem P (.box t x) vs d with
    | some (cs, mk) => newR d cs mk hp
    | none => none)
  | .buildSlice t n ps => (match allocSem P (.buildSlice t n ps) vs d with
    | some (cs, mk) => newR d cs mk hp
    | none => none)
  | .makeSlice t l c => (match allocSem P (.makeSlice t l c) vs d with
    | some (cs, mk) => newR d cs mk hp
    | none => none)
  | .store t _ _ => (match storeSem P t vs hp with
    | some hp' => some (undef, hp', none)
    | none => none)
  | .call c => (match c.callee with
    | .value _ => callSem E d vs hp
    | _ => (match pureE P E (.call c) d vs with
      | some (v, φ) => some (v, hp, φ)
      | none => none))
  | op => (match pureE P E op d vs with
    | some (v, φ) => some (v, hp, φ)
    | none => none)

/-! ### Soundness of a step -/

/-- What is to be proved, if anything. -/
def due : Option Prop → Prop
  | none => True
  | some p => p

/-- A call of f with these arguments goes on in R. -/
def Calld (P : Program) (f : FuncId) (args : Array Value) (w : World) (R : Value → World → Prop) : Prop :=
  ∀ (o : Oper) (a : Act) (next : Act → World → Prop) (Q : Exit → Act → World → Prop), (∀ v w', R v w' → next (a.put o.dst v) w') → o.upon P a next Q ((callFunc f args).run P w)

theorem Calld.mono {P : Program} {f : FuncId} {args : Array Value} {w : World} {R R' : Value → World → Prop} (h : Calld P f args w R) (hr : ∀ v w', R v w' → R' v w') : Calld P f args w R' :=
  fun o a next Q hn => h o a next Q fun v w' hv => hn v w' (hr v w' hv)

/-- What is known of function f is true of it. -/
def SmOK (P : Program) (f : FuncId) (s : Sm) : Prop :=
  ∀ d vs hp v hp' φ, s.run d vs hp = some (v, hp', φ) → (∀ x ∈ vs, ok2 hp x) → okH hp →
    (mono hp hp' ∧ ok2 hp' v ∧ okH hp') ∧
    ∀ w0 W ρ w, Inv w0 W ρ hp w → due φ →
      Calld P f (vs.map (ren ρ)).toArray w (fun u w' => ∃ ρ', Agree hp ρ ρ' ∧ u = ren ρ' v ∧ Inv w0 W ρ' hp' w')
def EnvOK (P : Program) (E : Env) : Prop := ∀ f s, E f = some s → SmOK P f s

/-- The regions that others are told to lie behind are there, and so are those. -/
def AlP (E : Env) (hp : Hp) : Prop := ∀ r s q, (r, s, q) ∈ E.al → pres hp r ∧ pres hp q
def AlOK (E : Env) (ρ : Emb) : Prop := ∀ r s q, (r, s, q) ∈ E.al → (ρ q).1 = (ρ r).1 ∧ (ρ q).2 = (ρ r).2 + s
theorem AlP.mono {E : Env} {hp hp' : Hp} (h : AlP E hp) (hm : Vm.mono hp hp') : AlP E hp' := fun r s q hx => ⟨hm _ (h r s q hx).1, hm _ (h r s q hx).2⟩
theorem AlOK.agree {E : Env} {hp : Hp} {ρ ρ' : Emb} (h : AlOK E ρ) (hp' : AlP E hp) (ha : Agree hp ρ ρ') : AlOK E ρ' := fun r s q hx => by
  rw [ha q (hp' r s q hx).2, ha r (hp' r s q hx).1]; exact h r s q hx
theorem AlP.nil {E : Env} (h : E.al = []) (hp : Hp) : AlP E hp := fun r s q hx => by rw [h] at hx; simp at hx
theorem AlOK.nil {E : Env} (h : E.al = []) (ρ : Emb) : AlOK E ρ := fun r s q hx => by rw [h] at hx; simp at hx

/-- The lexical form of a step's soundness. -/
def StepOK (P : Program) (E : Env) (o : Oper) (e : Operand → Value) (hp : Hp) (v : Value) (hp' : Hp) (φ : Option Prop) : Prop :=
  (mono hp hp' ∧ ok2 hp' v ∧ okH hp') ∧
  ∀ w0 W ρ w, Inv w0 W ρ hp w → AlOK E ρ → due φ → ∀ (a : Act) (next : Act → World → Prop) (Q : Exit → Act → World → Prop),
    (∀ ρ' w', Agree hp ρ ρ' → Inv w0 W ρ' hp' w' → next (a.put o.dst (ren ρ' v)) w') →
    o.upon P a next Q ((execOp (fun x => ren ρ (e x)) o).run P w)

section
variable {P : Program} {E : Env}

theorem step_pure {o : Oper} {e : Operand → Value} {hp : Hp} {v : Value} (h : pureSem P o.op (o.op.operands.toList.map e) = some v) (hok : ∀ x ∈ o.op.operands, ok2 hp (e x)) (hH : okH hp) :
    StepOK P E o e hp v hp none := by
  obtain ⟨h1, h2⟩ := pure_sound h hok
  refine ⟨⟨mono.refl hp, h1, hH⟩, fun w0 W ρ w hI _ _ a next Q hn => ?_⟩
  rw [h2 ρ w]
  exact hn ρ w (Agree.refl _ _) hI

theorem step_pureE {o : Oper} {e : Operand → Value} {hp : Hp} {d : Nat} {v : Value} {φ : Option Prop} (h : pureE P E o.op d (o.op.operands.toList.map e) = some (v, φ)) (hok : ∀ x ∈ o.op.operands, ok2 hp (e x)) (hH : okH hp) (hal : AlP E hp) :
    StepOK P E o e hp v hp φ := by
  have plain : ∀ u ψ, pureSem P o.op (o.op.operands.toList.map e) = some u → (u, ψ) = (v, φ) → ψ = none → StepOK P E o e hp v hp φ := by
    intro u ψ h1 h2 h3
    simp only [Prod.mk.injEq] at h2
    obtain ⟨rfl, rfl⟩ := h2
    subst h3
    exact step_pure h1 hok hH
  have taken : ∀ u, pureSem P o.op (o.op.operands.toList.map e) = some u → asm E d u = (v, φ) → StepOK P E o e hp v hp φ := by
    intro u h1 h2
    unfold asm at h2
    split at h2
    · exact plain u none h1 h2 rfl
    · rename_i lit _
      split at h2
      · rename_i b
        simp only [Prod.mk.injEq] at h2
        obtain ⟨rfl, rfl⟩ := h2
        refine ⟨⟨mono.refl hp, trivial, hH⟩, fun w0 W ρ w hI hA hd a next Q hn => ?_⟩
        have hd : b = lit := hd
        subst hd
        exact (step_pure (E := E) h1 hok hH).2 w0 W ρ w hI hA trivial a next Q hn
      · exact plain u none h1 h2 rfl
  -- a value that is so under what is to be proved
  have under : ∀ (p : Prop) (u : Value), ok2 hp v → φ = some p → (p → pureSem P o.op (o.op.operands.toList.map e) = some u) → (∀ ρ, p → AlOK E ρ → ren ρ u = ren ρ v) → StepOK P E o e hp v hp φ := by
    intro p u h1 h2 h3 h4
    subst h2
    refine ⟨⟨mono.refl hp, h1, hH⟩, fun w0 W ρ w hI hA hd a next Q hn => ?_⟩
    have hd : p := hd
    refine (step_pure (E := E) (h3 hd) hok hH).2 w0 W ρ w hI hA trivial a next Q fun ρ' w' hag hI' => ?_
    rw [h4 ρ' hd (hA.agree hal hag)]
    exact hn ρ' w' hag hI'
  unfold pureE at h
  split at h
  · split at h
    · rename_i u hu
      simp only [Option.some.injEq] at h
      exact plain u none hu h rfl
    · cases h
  · revert h plain taken under
    generalize hop : o.op = op
    intro plain taken under h
    split at h
    · rename_i t x i
      unfold idxE at h
      have hops : (Op.indexAddr t x i).operands.toList = [x, i] := by simp [Op.operands]
      rw [hops] at h plain taken under
      simp only [List.map_cons, List.map_nil] at h plain taken under
      split at h
      · rename_i a len cap k j heq
        simp only [List.cons.injEq, and_true] at heq
        obtain ⟨hx, hi⟩ := heq
        split at h
        · rename_i el hu
          split at h
          · rename_i n hn
            have hsem : (0 ≤ j ∧ j < len) → pureSem P (.indexAddr t x i) [e x, e i] = some (.pointer (some (a.add (j.toNat * n)))) := by
              intro hj
              rw [hx, hi]
              simp only [pureSem, idxAddrSem, hu, hn]
              rw [if_pos hj]
            have hxo : ok2 hp (e x) := hok x (by rw [hop]; simp [Op.operands])
            rw [hx] at hxo
            have hsp : a.spot = none := hxo.1
            have hadd : a.add (j.toNat * n) = ⟨a.block, a.off + j.toNat * n, none⟩ := by
              obtain ⟨b, off, spot⟩ := a
              simp only at hsp
              subst hsp
              exact add_plain _ _ _
            split at h
            · rename_i s q hal'
              simp only [Option.some.injEq, Prod.mk.injEq] at h
              obtain ⟨rfl, rfl⟩ := h
              have hm := look2_mem _ _ _ hal'
              refine under _ _ ⟨rfl, (hal _ _ _ hm).2⟩ rfl (fun hp' => hsem hp'.1) fun ρ hp' hA => ?_
              obtain ⟨e1, e2⟩ := hA _ _ _ hm
              rw [hadd]
              simp only [ren, ren1, ren0, rena, e1, e2, ← hp'.2]
              congr 3
            · simp only [Option.some.injEq, Prod.mk.injEq] at h
              obtain ⟨rfl, rfl⟩ := h
              refine under _ _ ?_ rfl hsem fun ρ _ _ => rfl
              rw [hadd]
              exact ⟨rfl, hxo.2⟩
          · cases h
        · cases h
      · rename_i a k j heq
        simp only [List.cons.injEq, and_true] at heq
        obtain ⟨hx, hi⟩ := heq
        split at h
        · rename_i u hu
          simp only [Option.some.injEq] at h
          refine plain u none ?_ h rfl
          rw [hx, hi]
          exact hu
        · cases h
      · cases h
    · rename_i c
      split at h
      · rename_i hc
        have hops : (Op.call c).operands.toList = c.args.toList := by simp [Op.operands, Call.operands, hc]
        rw [hops] at h plain taken under
        unfold lenE at h
        split at h
        · rename_i t a n cap ht hv
          split at h
          · rename_i el hu
            simp only [Option.some.injEq, Prod.mk.injEq] at h
            obtain ⟨rfl, rfl⟩ := h
            have hb := lenI_bd n
            refine under _ (.int .i64 n) ⟨by show (-9223372036854775808 : Int) ≤ lenI n; omega, hb.2⟩ rfl (fun hn => ?_) fun ρ hn _ => by rw [lenI_eq hn]
            rw [hv]
            simp only [pureSem, hc, ht, lenSem, hu]
            rw [if_pos (Nat.ble_eq_true_of_le hn)]
          · cases h
        · cases h
      · split at h
        · rename_i u hu
          simp only [Option.some.injEq] at h
          exact plain u none hu h rfl
        · cases h
    · split at h
      · rename_i u hu
        simp only [Option.some.injEq] at h
        exact taken u hu h
      · cases h

theorem rena_plain (ρ : Emb) (a : Addr) : rena ρ a = ⟨(ρ a.block).1, (ρ a.block).2 + a.off, none⟩ := rfl

theorem run_loadVar_agg {t : TypeId} {n : Nat} {a : Addr} {cs : Array Value} {w : World} (ha : aggT P t = some true) (hs : szT P t = some n) (hl : (loadCells a n).run P w = .ok cs w) :
    (loadVar t a).run P w = .ok (.agg cs) w := by
  simp [loadVar, run_aggT ha, run_szT hs, hl]
theorem run_loadVar_one {t : TypeId} {a : Addr} {v : Value} {w : World} (ha : aggT P t = some false) (hl : (load a .plain).run P w = .ok v w) :
    (loadVar t a).run P w = .ok v w := by
  simp only [loadVar, Sem.run_bind, run_aggT ha, Result.andThen_ok, Bool.false_eq_true, if_false]
  exact hl

theorem load_sound {t : TypeId} {a : Addr} {hp : Hp} {v : Value} (h : loadSem P t [.pointer (some a)] hp = some v) (hH : okH hp) :
    ok2 hp v ∧ ∀ w0 W ρ w, Inv w0 W ρ hp w → (loadVar t (rena ρ a)).run P w = .ok (ren ρ v) w := by
  unfold loadSem at h
  simp only at h
  split at h
  · rename_i n ha hs
    split at h
    · rename_i cs hr
      cases h
      refine ⟨fun u hu => rd_ok hH hr u (by simpa using hu), fun w0 W ρ w hI => ?_⟩
      rw [rena_plain, run_loadVar_agg ha hs (hI.loads (P := P) hr)]
      simp [ren, ren1]
    · cases h
  · rename_i n ha hs
    split at h
    · rename_i u hr
      cases h
      have hu := rd_ok hH hr v (by simp)
      refine ⟨ok2_of_ok0 hu, fun w0 W ρ w hI => ?_⟩
      rw [rena_plain, run_loadVar_one ha (hI.load1 (P := P) hr), ren_of_ok0 ρ hu]
    · cases h
  · cases h

theorem store_sound {t : TypeId} {a : Addr} {x : Value} {hp hp' : Hp} (h : storeSem P t [.pointer (some a), x] hp = some hp') (hx : ok2 hp x) (hH : okH hp) :
    (mono hp hp' ∧ okH hp') ∧ ∀ w0 W ρ w, Inv w0 W ρ hp w → ∃ w', (storeVar t (rena ρ a) (ren ρ x)).run P w = .ok () w' ∧ Inv w0 W ρ hp' w' := by
  unfold storeSem at h
  simp only at h
  split at h
  · rename_i n hs
    split at h
    · rename_i hc
      simp only [Bool.and_eq_true] at hc
      have hcells := cells_ok hx hc.1
      have hn : (vcells x).length = n := Nat.eq_of_beq_eq_true hc.2
      refine ⟨⟨wr_mono h, wr_ok hH (fun v hv => hcells v hv) h⟩, fun w0 W ρ w hI => ?_⟩
      obtain ⟨w', h1, h2⟩ := hI.stores (P := P) h (fun v hv => ren0_oneCell ρ (hcells v hv))
      refine ⟨w', ?_, h2⟩
      have hsz : (ren ρ x).cells.size = n := by
        rw [← Array.length_toList, cells_ren ρ hx hc.1]; simpa [vcells] using hn
      simp only [storeVar, Sem.run_bind, run_szT hs, Result.andThen_ok]
      rw [if_neg (by simp [hsz])]
      rw [cells_ren ρ hx hc.1]
      exact h1
    · cases h
  · cases h

theorem newR_spec {d : Nat} {cs : List Value} {mk : Value} {hp hp' : Hp} {v : Value} {φ : Option Prop} (h : newR d cs mk hp = some (v, hp', φ)) :
    hp[d]? = some none ∧ v = mk ∧ hp' = hp.set d (some (true, cs)) ∧ φ = none := by
  unfold newR at h
  split at h
  · rename_i hd; simp only [Option.some.injEq, Prod.mk.injEq] at h; exact ⟨hd, h.1.symm, h.2.1.symm, h.2.2.symm⟩
  · cases h

theorem okH_new {hp : Hp} {d : Nat} {cs : List Value} (hH : okH hp) (hd : hp[d]? = some none) (hcs : ∀ v ∈ cs, ok0 hp v) : okH (hp.set d (some (true, cs))) := by
  intro r b cs' hr v hv
  by_cases hrd : r = d
  · subst hrd
    rw [get_set_same hd] at hr
    simp only [Option.some.injEq, Prod.mk.injEq] at hr
    obtain ⟨rfl, rfl⟩ := hr
    exact (hcs v hv).mono mono_set
  · rw [get_set_other hrd] at hr
    exact (hH r b cs' hr v hv).mono mono_set

/-- A step that makes a row of cells. -/
theorem step_new {o : Oper} {e : Operand → Value} {hp : Hp} {d : Nat} {cs : List Value} {mk : Value} (hd : hp[d]? = some none) (hH : okH hp) (hcs : ∀ v ∈ cs, ok0 hp v)
    (hmk : ok2 (hp.set d (some (true, cs))) mk)
    (hrun : ∀ w0 W ρ w, Inv w0 W ρ hp w → ∃ t, (execOp (fun x => ren ρ (e x)) o).run P w = .ok (.value (ren (upd ρ d (w.heap.size, 0)) mk)) (w.alloc (.cells (cs.map (ren0 ρ)).toArray t))) :
    StepOK P E o e hp mk (hp.set d (some (true, cs))) none := by
  refine ⟨⟨mono_set, hmk, okH_new hH hd hcs⟩, fun w0 W ρ w hI _ _ a next Q hn => ?_⟩
  obtain ⟨t, ht⟩ := hrun w0 W ρ w hI
  rw [ht]
  exact hn _ _ (agree_upd ρ _ (not_pres hd)) (hI.new hH hd cs hcs t)

theorem ren_ptr_new (ρ : Emb) (d n : Nat) : ren (upd ρ d (n, 0)) (.pointer (some ⟨d, 0, none⟩)) = .pointer (some ⟨n, 0, none⟩) := by
  simp [ren, ren1, ren0, rena, upd_same]
theorem ren_slc_new (ρ : Emb) (d n l c : Nat) : ren (upd ρ d (n, 0)) (.slice (some ⟨d, 0, none⟩) l c) = .slice (some ⟨n, 0, none⟩) l c := by
  simp [ren, ren1, ren0, rena, upd_same]
theorem ok_ptr_new {hp : Hp} {d : Nat} {cs : List Value} (hd : hp[d]? = some none) : ok2 (hp.set d (some (true, cs))) (.pointer (some ⟨d, 0, none⟩)) :=
  ⟨rfl, ⟨_, get_set_same hd⟩⟩
theorem ok_slc_new {hp : Hp} {d l c : Nat} {cs : List Value} (hd : hp[d]? = some none) : ok2 (hp.set d (some (true, cs))) (.slice (some ⟨d, 0, none⟩) l c) :=
  ⟨rfl, ⟨_, get_set_same hd⟩⟩

theorem plain_map {zs : List Value} (h : zs.all plain0 = true) (ρ : Emb) : zs.map (ren0 ρ) = zs := by
  simp only [List.all_eq_true] at h
  exact (List.map_congr_left (g := id) fun u hu => (plain0_ok (h u hu) []).2 ρ).trans (by simp)

theorem repL_spec (zs : List Value) (size : Nat) (hz : zs.length = size) : ∀ n, ((Array.range (n * size)).map (fun i => zs.toArray[i % zs.toArray.size]!)).toList = repL n zs := by
  intro n
  induction n with
  | zero => simp [repL]
  | succ n ih =>
    rw [repL]
    have hlen : ∀ m, (repL m zs).length = m * size := by
      intro m
      induction m with
      | zero => simp [repL]
      | succ m ihm => simp [repL, ihm, hz, Nat.add_mul]; omega
    apply List.ext_getElem
    · simp [hlen, hz, Nat.add_mul]; omega
    · intro i h1 h2
      simp only [Array.toList_map, Array.toList_range, List.getElem_map, List.getElem_range, List.size_toArray]
      have hi : i < (n + 1) * size := by simpa using h1
      by_cases hlt : i < size
      · rw [List.getElem_append_left (by omega)]
        rw [Nat.mod_eq_of_lt (by omega)]
        simp [getElem!_pos, hz, hlt]
      · rw [List.getElem_append_right (by omega)]
        have hj : i - zs.length < n * size := by rw [Nat.add_mul] at hi; omega
        have e1 : ((Array.range (n * size)).map (fun i => zs.toArray[i % zs.toArray.size]!)).toList[i - zs.length]'(by simpa using hj) = (repL n zs)[i - zs.length]'(by rw [hlen]; exact hj) := by
          congr 1
        rw [← e1]
        simp only [Array.toList_map, Array.toList_range, List.getElem_map, List.getElem_range, List.size_toArray]
        congr 1
        rw [hz]
        have : i = (i - size) + size := by omega
        rw [this, Nat.add_mod_right]
        simp

end
end Vm
end Go.Proofs.Ytbbifiogcpcpfaa
