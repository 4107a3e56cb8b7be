/-
  A small symbolic machine, part 8: soundness of one step, every kind.
-/
import Derived.Test.YtbbifiogcpcpfaaDoorVmSem
namespace Go.Proofs.YtbbifiogcpcpfaaDoor
namespace Vm
section
variable {P : Program} {E : Env}

theorem step_load {o : Oper} {t : TypeId} {x : Operand} {e : Operand → Value} {hp : Hp} {v : Value} (ho : o.op = .load t x) (h : loadSem P t [e x] hp = some v) (hH : okH hp) :
    StepOK P E o e hp v hp none := by
  have hx : ∃ a, e x = .pointer (some a) := by
    unfold loadSem at h
    split at h
    · rename_i a heq; simp only [List.cons.injEq, and_true] at heq; exact ⟨a, heq⟩
    · cases h
  obtain ⟨a, hx⟩ := hx
  rw [hx] at h
  obtain ⟨h1, h2⟩ := load_sound h hH
  refine ⟨⟨mono.refl hp, h1, hH⟩, fun w0 W ρ w hI _ _ ac next Q hn => ?_⟩
  have er : ren ρ (e x) = .pointer (some (rena ρ a)) := by rw [hx]; rfl
  have hrun : (execOp (fun x => ren ρ (e x)) o).run P w = .ok (.value (ren ρ v)) w := by
    simp only [execOp, ho, Sem.run_bind, Instr.loadAt, er, Instr.sureAddr, Sem.run_pure, Result.andThen_ok, h2 w0 W ρ w hI]
  rw [hrun]
  exact hn ρ w (Agree.refl _ _) hI

theorem step_store {o : Oper} {t : TypeId} {x y : Operand} {e : Operand → Value} {hp hp' : Hp} (ho : o.op = .store t x y) (h : storeSem P t [e x, e y] hp = some hp') (hok : ok2 hp (e y)) (hH : okH hp) :
    StepOK P E o e hp undef hp' none := by
  have hx : ∃ a, e x = .pointer (some a) := by
    unfold storeSem at h
    split at h
    · rename_i a v heq; simp only [List.cons.injEq, and_true] at heq; exact ⟨a, heq.1⟩
    · cases h
  obtain ⟨a, hx⟩ := hx
  rw [hx] at h
  obtain ⟨⟨hm, hH'⟩, h2⟩ := store_sound h hok hH
  refine ⟨⟨hm, fun _ hu => by simp at hu, hH'⟩, fun w0 W ρ w hI _ _ ac next Q hn => ?_⟩
  obtain ⟨w', h3, h4⟩ := h2 w0 W ρ w hI
  have er : ren ρ (e x) = .pointer (some (rena ρ a)) := by rw [hx]; rfl
  have hrun : (execOp (fun x => ren ρ (e x)) o).run P w = .ok .skip w' := by
    simp only [execOp, ho, Sem.run_bind, Instr.storeAt, er, Instr.sureAddr, Sem.run_pure, Result.andThen_ok, h3]
  rw [hrun]
  have := hn ρ w' (fun r hr => rfl) h4
  rw [show ren ρ undef = undef from by simp [undef, ren]] at this
  exact this

theorem step_alloc {o : Oper} {d : Nat} {e : Operand → Value} {hp hp' : Hp} {v : Value} {φ : Option Prop} {cs : List Value} {mk : Value}
    (h : allocSem P o.op (o.op.operands.toList.map e) d = some (cs, mk)) (hn : newR d cs mk hp = some (v, hp', φ)) (hok : ∀ x ∈ o.op.operands, ok2 hp (e x)) (hH : okH hp) :
    StepOK P E o e hp v hp' φ := by
  obtain ⟨hd, rfl, rfl, rfl⟩ := newR_spec hn
  obtain ⟨dst, op, type, pos, after, guard⟩ := o
  simp only at h hok
  cases op <;> simp only [allocSem] at h <;> try cases h
  case alloc t =>
    split at h
    · rename_i zs hz
      split at h <;> cases h
      rename_i hall
      obtain ⟨z, hst, hcz, hrun⟩ := zeroL_spec hz
      refine step_new hd hH (fun u hu => (plain0_ok (by simp only [List.all_eq_true] at hall; exact hall u hu) hp).1) (ok_ptr_new hd) fun w0 W ρ w hI => ⟨t, ?_⟩
      rw [ren_ptr_new, plain_map hall ρ]
      have hza : z.cells = cs.toArray := by rw [← hcz]; simp [vcells]
      simp [execOp, Instr.alloc, hrun, newVar, newRow, hza]
    · cases h
  case box t x =>
    split at h
    · rename_i u heq
      split at h <;> cases h
      rename_i hst
      have hx : e x = u := by simpa [Op.operands] using heq
      have hu := hok x (by simp [Op.operands])
      rw [hx] at hu
      have hcs := cells_ok hu hst
      refine step_new hd hH (fun y hy => hcs y hy) (ok_ptr_new hd) fun w0 W ρ w hI => ⟨t, ?_⟩
      rw [ren_ptr_new]
      have hza : (ren ρ u).cells = ((vcells u).map (ren0 ρ)).toArray := by
        apply Array.ext'; rw [cells_ren ρ hu hst]; simp [vcells]
      simp [execOp, Instr.box, newVar, newRow, hx, hza]
    · cases h
  case buildSlice t len ps =>
    split at h
    · rename_i el hu
      split at h
      · rename_i size zs hs hz
        split at h
        · rename_i hc
          simp only [Bool.and_eq_true] at hc
          obtain ⟨⟨⟨hall, hn1⟩, hn2⟩, hlen⟩ := hc
          have hn1' := Nat.le_of_ble_eq_true hn1
          have hn2' := Nat.le_of_ble_eq_true hn2
          have hlen' : zs.length = size := Nat.eq_of_beq_eq_true hlen
          split at h
          · rename_i cs' hf
            cases h
            obtain ⟨z, hst, hcz, hrun⟩ := zeroL_spec hz
            have hza : z.cells = zs.toArray := by rw [← hcz]; simp [vcells]
            have hzok : ∀ u ∈ zs, ok0 hp u := fun u hu => (plain0_ok (by simp only [List.all_eq_true] at hall; exact hall u hu) hp).1
            have hrok : ∀ n, ∀ u ∈ repL n zs, ok0 hp u := by
              intro n
              induction n with
              | zero => simp [repL]
              | succ n ih => intro u hu; simp only [repL, List.mem_append] at hu; rcases hu with hu | hu; exact hzok u hu; exact ih u hu
            have hrren : ∀ ρ n, (repL n zs).map (ren0 ρ) = repL n zs := by
              intro ρ n
              induction n with
              | zero => rfl
              | succ n ih => simp only [repL, List.map_append, ih, plain_map hall ρ]
            have hmem : ∀ x ∈ zipParts ps.toList ((Op.buildSlice t len ps).operands.toList.map e), ok2 hp x.2 := by
              intro x hx
              have := (List.of_mem_zip hx).2
              simp only [Op.operands, List.mem_map] at this
              obtain ⟨y, hy, he⟩ := this
              rw [← he]
              exact hok y (by simpa [Op.operands] using hy)
            have hcs := fillL_ok _ _ _ _ hf hmem (hrok len)
            refine step_new hd hH hcs (ok_slc_new hd) fun w0 W ρ w hI => ⟨el, ?_⟩
            rw [ren_slc_new]
            have := fill_sound ρ _ _ _ _ hf hmem
            rw [hrren] at this
            have hrep : (Array.range (len * size)).map (fun i => zs.toArray[i % zs.toArray.size]!) = (repL len zs).toArray := by
              apply Array.ext'; rw [repL_spec zs size hlen' len]
            simp only [execOp, Instr.buildSlice, Sem.run_bind, run_underlying hu, run_szT hs, Result.andThen_ok, Sem.run_ite]
            rw [if_neg (by omega)]
            simp only [Sem.run_pure, Result.andThen_ok]
            rw [if_neg (by omega)]
            simp only [hrun, Result.andThen_ok, hza, hrep]
            rw [show (ps.map fun x => (x.1, ren ρ (e x.2))).toList = ((zipParts ps.toList ((Op.buildSlice t len ps).operands.toList.map e)).map fun x => (x.1, ren ρ x.2)) from by
              simp only [Array.toList_map, zipParts, Op.operands, List.map_map]
              generalize ps.toList = l
              induction l with
              | nil => rfl
              | cons a l ih => simp [ih]]
            rw [this]
            simp [newRow]
          · cases h
        · cases h
      · cases h
    · cases h
  case makeSlice t lx cx =>
    split at h
    · rename_i k l k' c heq
      split at h
      · rename_i el hu
        split at h
        · rename_i size zs i hs hz hi
          split at h <;> cases h
          rename_i hc
          simp only [Bool.and_eq_true, decide_eq_true_eq] at hc
          obtain ⟨⟨⟨⟨⟨⟨⟨hall, hlen⟩, hsz⟩, hlc⟩, h0⟩, h1⟩, hby⟩, hl1⟩ := hc
          subst hlc
          have hlen' : zs.length = size := Nat.eq_of_beq_eq_true hlen
          have hsz' := Nat.le_of_ble_eq_true hsz
          have hby' := Nat.le_of_ble_eq_true hby
          have hl1' := Nat.le_of_ble_eq_true hl1
          obtain ⟨z, hst, hcz, hrun⟩ := zeroL_spec hz
          have hza : z.cells = zs.toArray := by rw [← hcz]; simp [vcells]
          have hzok : ∀ u ∈ zs, ok0 hp u := fun u hu => (plain0_ok (by simp only [List.all_eq_true] at hall; exact hall u hu) hp).1
          have hrok : ∀ n, ∀ u ∈ repL n zs, ok0 hp u := by
            intro n
            induction n with
            | zero => simp [repL]
            | succ n ih => intro u hu; simp only [repL, List.mem_append] at hu; rcases hu with hu | hu; exact hzok u hu; exact ih u hu
          have hrren : ∀ ρ n, (repL n zs).map (ren0 ρ) = repL n zs := by
            intro ρ n
            induction n with
            | zero => rfl
            | succ n ih => simp only [repL, List.map_append, ih, plain_map hall ρ]
          have hex : e lx = .int k l ∧ e cx = .int k' l := by
            have : [e lx, e cx] = [Value.int k l, Value.int k' l] := by simpa [Op.operands] using heq
            simpa using this
          refine step_new hd hH (hrok _) (ok_slc_new hd) fun w0 W ρ w hI => ⟨el, ?_⟩
          rw [ren_slc_new, hrren]
          have hw : IntKind.i64.wrap l = l := IntWalk.i64_in _ (by omega)
          have hprod : (i.bytes : Int) * l ≤ 65536 * 16777216 := Int.mul_le_mul (by omega) h1 h0 (by omega)
          have hrep : (Array.range (l.toNat * size)).map (fun i => zs.toArray[i % zs.toArray.size]!) = (repL l.toNat zs).toArray := by
            apply Array.ext'; rw [repL_spec zs size hlen' l.toNat]
          have hpos : ¬ l.toNat * size = 0 := by
            intro h; rcases Nat.mul_eq_zero.1 h with h | h <;> omega
          have e1 : ren ρ (.int k l) = .int k l := rfl
          have e2 : ren ρ (.int k' l) = .int k' l := rfl
          simp only [execOp, hex.1, hex.2, e1, e2, Instr.makeSlice, Sem.run_bind, run_underlying hu, Result.andThen_ok, asInt, asIntOf, Sem.run_pure, hw, run_typeInfo w hi, Sem.run_ite]
          have t1 : (decide (l < 0) || decide ((i.bytes : Int) * l > 2 ^ 48) || decide (l < 0) || decide (l > l)) = false := by
            simp; omega
          simp only [t1, Bool.false_eq_true, if_false, run_askRoom, Result.andThen_ok, run_szT hs, if_neg hpos, hrun, hza, hrep]
          simp [newRow]
        · cases h
      · cases h
    · cases h

theorem step_call {o : Oper} {c : Call} {x : Operand} {d : Nat} {e : Operand → Value} {hp hp' : Hp} {v : Value} {φ : Option Prop} (hE : EnvOK P E) (ho : o.op = .call c) (hc : c.callee = .value x)
    (h : callSem E d (o.op.operands.toList.map e) hp = some (v, hp', φ)) (hok : ∀ x ∈ o.op.operands, ok2 hp (e x)) (hH : okH hp) :
    StepOK P E o e hp v hp' φ := by
  have hops : o.op.operands.toList = x :: c.args.toList := by rw [ho]; simp [Op.operands, Call.operands, hc]
  rw [hops] at h
  unfold callSem at h
  split at h
  · rename_i f y cp args heq
    simp only [List.map_cons, List.cons.injEq] at heq
    obtain ⟨hx, hargs⟩ := heq
    split at h
    · rename_i hy
      have hy' : y = #[] := by simpa using hy
      subst hy'
      split at h
      · rename_i s hs
        have hxo : ok2 hp (e x) := hok x (by rw [← Array.mem_toList_iff, hops]; simp)
        rw [hx] at hxo
        have hvs : ∀ u ∈ args ++ cp.toList, ok2 hp u := by
          intro u hu
          rcases List.mem_append.1 hu with hu | hu
          · rw [← hargs] at hu
            obtain ⟨z, hz, rfl⟩ := List.mem_map.1 hu
            exact hok z (by rw [← Array.mem_toList_iff, hops]; simp [hz])
          · exact ok2_of_ok0 (hxo.2 u (by simpa using hu))
        obtain ⟨h1, h2⟩ := hE f s hs d _ hp v hp' φ h hvs hH
        refine ⟨h1, fun w0 W ρ w hI _ hdue a next Q hn => ?_⟩
        have hcl := h2 w0 W ρ w hI hdue
        have hex : execOp (fun x => ren ρ (e x)) o = callFunc f (c.args.map (fun x => ren ρ (e x)) ++ cp.map (ren0 ρ)) := by
          unfold execOp
          rw [ho]
          simp only [resolve, hc, hx, ren, ren1, Deferred.ofValue, Array.map_empty, Array.empty_append]
          rfl
        rw [hex]
        have hargs' : c.args.map (fun x => ren ρ (e x)) ++ cp.map (ren0 ρ) = ((args ++ cp.toList).map (ren ρ)).toArray := by
          apply Array.ext'
          simp only [Array.toList_append, Array.toList_map, List.map_append, ← hargs, List.map_map]
          congr 1
          exact List.map_congr_left fun u hu => (ren_of_ok0 ρ (hxo.2 u (by simpa using hu))).symm
        rw [hargs']
        exact hcl o a next Q fun u w' ⟨ρ', ha, hu, hI'⟩ => hu ▸ hn ρ' w' ha hI'
      · cases h
    · cases h
  · cases h

/-- **One step.** -/
theorem vsem_sound (hE : EnvOK P E) {o : Oper} {d : Nat} {e : Operand → Value} {hp hp' : Hp} {v : Value} {φ : Option Prop}
    (h : vsem P E o.op d (o.op.operands.toList.map e) hp = some (v, hp', φ)) (hok : ∀ x ∈ o.op.operands, ok2 hp (e x)) (hH : okH hp) (hal : AlP E hp) : StepOK P E o e hp v hp' φ := by
  have pureCase : ∀ u ψ, pureE P E o.op d (o.op.operands.toList.map e) = some (u, ψ) → (u, hp, ψ) = (v, hp', φ) → StepOK P E o e hp v hp' φ := by
    intro u ψ hu heq
    simp only [Prod.mk.injEq] at heq
    obtain ⟨rfl, rfl, rfl⟩ := heq
    exact step_pureE hu hok hH hal
  have allocCase : ∀ cs mk, allocSem P o.op (o.op.operands.toList.map e) d = some (cs, mk) → newR d cs mk hp = some (v, hp', φ) → StepOK P E o e hp v hp' φ :=
    fun cs mk h1 h2 => step_alloc h1 h2 hok hH
  revert h
  generalize hop : o.op = op
  intro h
  have hopd : op.operands = o.op.operands := by rw [hop]
  cases op <;> simp only [vsem] at h
  case load t x =>
    split at h
    · rename_i u hu
      simp only [Option.some.injEq, Prod.mk.injEq] at h
      obtain ⟨rfl, rfl, rfl⟩ := h
      exact step_load hop hu hH
    · cases h
  case store t x y =>
    split at h
    · rename_i hp1 hu
      simp only [Option.some.injEq, Prod.mk.injEq] at h
      obtain ⟨rfl, rfl, rfl⟩ := h
      exact step_store hop hu (hok y (by rw [hop]; simp [Op.operands])) hH
    · cases h
  case call c =>
    split at h
    · rename_i x hc
      exact step_call hE hop hc (by rw [hop]; exact h) hok hH
    · split at h
      · rename_i u ψ hu
        exact pureCase u ψ (by rw [hop]; exact hu) (by simpa using h)
      · cases h
  case alloc t =>
    split at h
    · rename_i cs mk hu; exact allocCase cs mk (by rw [hop]; exact hu) h
    · cases h
  case box t x =>
    split at h
    · rename_i cs mk hu; exact allocCase cs mk (by rw [hop]; exact hu) h
    · cases h
  case buildSlice t n ps =>
    split at h
    · rename_i cs mk hu; exact allocCase cs mk (by rw [hop]; exact hu) h
    · cases h
  case makeSlice t l c =>
    split at h
    · rename_i cs mk hu; exact allocCase cs mk (by rw [hop]; exact hu) h
    · cases h
  all_goals
    split at h
    · rename_i u ψ hu
      exact pureCase u ψ (by rw [hop]; exact hu) (by simpa using h)
    · cases h

end
end Vm
end Go.Proofs.YtbbifiogcpcpfaaDoor
