/-
  A small symbolic machine, part 6: every operation that touches no memory does what 'pureSem' says.
-/
import Derived.Test.YtbbifiogcpcpfaaDoorVmPureOk
namespace Go.Proofs.YtbbifiogcpcpfaaDoor
namespace Vm

section
variable {P : Program}

theorem rena_add (ρ : Emb) (a : Addr) (n : Nat) : rena ρ (a.add n) = (rena ρ a).add n := by
  rw [show (rena ρ a) = ⟨(ρ a.block).1, (ρ a.block).2 + a.off, none⟩ from rfl, add_plain]
  unfold Addr.add
  split
  · subst_vars; rfl
  · simp [rena, Nat.add_assoc]
theorem ok_add {hp : Hp} {a : Addr} (h : ok0 hp (.pointer (some a))) (n : Nat) : ok0 hp (.pointer (some (a.add n))) := by
  unfold Addr.add
  split
  · exact h
  · exact ⟨rfl, h.2⟩

theorem bound_run {ρ : Emb} {v : Value} {y dflt r : Nat} (h : boundSem (some v) y dflt = some r) (code : BoundsCode) (w : World) :
    (Instr.sliceBound (ren ρ v) y code).run P w = .ok r w := by
  unfold boundSem at h
  cases v <;> simp only at h <;> try cases h
  rename_i k i
  split at h
  · rename_i hi
    cases h
    simp only [Instr.sliceBound, ren, ren1, ren0, asIntOf, Sem.run_bind, Sem.run_pure, Result.andThen_ok, Sem.run_ite]
    rw [if_pos hi]
  · cases h

theorem bounds_run {ρ : Emb} (b : Bool) {len cap h l : Nat} {lo hi : Option Value} (hh : boundSem hi cap len = some h) (hl : boundSem lo h 0 = some l) (w : World) :
    (Instr.sliceBounds b len cap (lo.map (ren ρ)) (hi.map (ren ρ)) none).run P w = .ok (l, h, cap) w := by
  unfold Instr.sliceBounds
  cases hi with
  | none =>
    simp only [boundSem, Option.some.injEq] at hh
    subst hh
    cases lo with
    | none => simp only [boundSem, Option.some.injEq] at hl; subst hl; simp
    | some v => simp [bound_run hl]
  | some u =>
    cases lo with
    | none => simp only [boundSem, Option.some.injEq] at hl; subst hl; simp [bound_run hh]
    | some v => simp [bound_run hh, bound_run hl]

theorem cut_ren (ρ : Emb) (a : Option Addr) (l h m size : Nat) : ren ρ (cutSem a l h m size) = .slice (if m = l then a.map (rena ρ) else (a.map (rena ρ)).map (·.add (l * size))) (h - l) (m - l) := by
  unfold cutSem
  cases a with
  | none => simp [ren, ren1, ren0]
  | some a =>
    by_cases hm : m = l
    · simp [hm, ren, ren1, ren0]
    · simp [hm, ren, ren1, ren0, rena_add]

theorem slice_sound {t : TypeId} {x : Value} {lo hi : Option Value} {v : Value} (h : sliceSem P t x lo hi = some v) {hp : Hp} (hx : ok2 hp x) :
    ok2 hp v ∧ ∀ ρ w, (Instr.sliceAt t (ren ρ x) (lo.map (ren ρ)) (hi.map (ren ρ)) none).run P w = .ok (ren ρ v) w := by
  have okc : ∀ (a : Addr) (l h m size : Nat), ok0 hp (.pointer (some a)) → ok2 hp (cutSem (some a) l h m size) := by
    intro a l h m size ha
    unfold cutSem
    split
    · exact ha
    · exact ok_add ha (l * size)
  unfold sliceSem at h
  split at h
  · rename_i n e a hu
    split at h
    · rename_i size hh hs hb
      split at h
      · rename_i l hl
        cases h
        refine ⟨okc _ _ _ _ _ hx, fun ρ w => ?_⟩
        have er : ren ρ (.pointer (some a)) = .pointer (some (rena ρ a)) := rfl
        simp only [Instr.sliceAt, Sem.run_bind, run_underlying hu, Result.andThen_ok, er, Instr.sureAddr, Sem.run_pure]
        have := bounds_run (P := P) (ρ := ρ) false hb hl w
        simp only [this, Result.andThen_ok, run_szT hs]
        rw [cut_ren]
        by_cases hm : n = l <;> simp [hm]
      · cases h
    · cases h
  · rename_i e a len cap hu
    split at h
    · rename_i size hh hs hb
      split at h
      · rename_i l hl
        cases h
        refine ⟨?_, fun ρ w => ?_⟩
        · cases a with
          | none => unfold cutSem; simp; trivial
          | some a => exact okc _ _ _ _ _ hx
        · have er : ren ρ (.slice a len cap) = .slice (a.map (rena ρ)) len cap := by cases a <;> rfl
          simp only [Instr.sliceAt, Sem.run_bind, run_underlying hu, Result.andThen_ok, er, Instr.slice, bounds_run true hb hl w, run_szT hs, Sem.run_pure]
          rw [cut_ren]
      · cases h
    · cases h
  · cases h

theorem part_sound {t : TypeId} {cs : List Value} {off : Nat} {v : Value} (h : partSem P t cs off = some v) {hp : Hp} (hok : ∀ u ∈ cs, ok0 hp u) :
    ok2 hp v ∧ ∀ ρ w, (part t (cs.map (ren0 ρ)).toArray off).run P w = .ok (ren ρ v) w := by
  unfold partSem at h
  split at h
  · rename_i n hs ha
    cases h
    refine ⟨fun u hu => hok u (List.mem_of_mem_drop (List.mem_of_mem_take (by simpa using hu))), fun ρ w => ?_⟩
    simp only [part, Sem.run_bind, run_aggT ha, Result.andThen_ok, if_true, run_szT hs, Sem.run_pure, ren, ren1]
    congr 2
    congr 1
    apply Array.ext'
    simp [List.take_drop, List.map_take, List.map_drop]
  · rename_i hs ha
    have hv := hok v (List.mem_of_getElem? h)
    refine ⟨ok2_of_ok0 hv, fun ρ w => ?_⟩
    simp [part, run_aggT ha, h, ren_of_ok0 ρ hv]
  · cases h

theorem ren_agg (ρ : Emb) (cs : Array Value) : ren ρ (.agg cs) = .agg ((cs.toList.map (ren0 ρ)).toArray) := by
  simp only [ren, ren1]; congr 1; apply Array.ext'; simp

theorem pure_sound {o : Oper} {e : Operand → Value} {v : Value} (h : pureSem P o.op (o.op.operands.toList.map e) = some v) {hp : Hp} (hok : ∀ x ∈ o.op.operands, ok2 hp (e x)) :
    ok2 hp v ∧ ∀ ρ w, (execOp (fun x => ren ρ (e x)) o).run P w = .ok (.value (ren ρ v)) w := by
  obtain ⟨dst, op, type, pos, after, guard⟩ := o
  simp only at h hok
  cases op
  case move x =>
    cases h
    exact ⟨hok x (by simp [Op.operands]), fun ρ w => rfl⟩
  case assign x =>
    cases h
    exact ⟨hok x (by simp [Op.operands]), fun ρ w => rfl⟩
  case pick c a b =>
    simp only [pureSem, Op.operands, List.map_cons, List.map_nil] at h
    have ha := hok a (by simp [Op.operands])
    have hb := hok b (by simp [Op.operands])
    split at h <;> cases h
    rename_i c' a' b' heq
    simp only [List.cons.injEq, and_true] at heq
    obtain ⟨h1, h2, h3⟩ := heq
    subst h2; subst h3
    cases c'
    · exact ⟨hb, fun ρ w => by simp [execOp, h1, ren, ren1, ren0, asBool, pickV]⟩
    · exact ⟨ha, fun ρ w => by simp [execOp, h1, ren, ren1, ren0, asBool, pickV]⟩
  case nilCheck x =>
    simp only [pureSem, Op.operands, List.map_cons, List.map_nil] at h
    have hx := hok x (by simp [Op.operands])
    split at h <;> cases h
    rename_i a heq
    simp only [List.cons.injEq, and_true] at heq
    rw [heq] at hx
    exact ⟨hx, fun ρ w => by simp [execOp, heq, ren, ren1, ren0]⟩
  case extract x ix =>
    simp only [pureSem, Op.operands, List.map_cons, List.map_nil] at h
    have hx := hok x (by simp [Op.operands])
    split at h
    · rename_i us heq
      simp only [List.cons.injEq, and_true] at heq
      rw [heq] at hx
      have hv := hx v (by simpa using List.mem_of_getElem? h)
      refine ⟨ok2_of_ok1 hv, fun ρ w => ?_⟩
      have hg : us[ix]? = some v := by simpa using h
      simp [execOp, heq, ren, Instr.extract, hg]
      rw [← ren_of_ok1 ρ hv]; rfl
    · cases h
  case build t ps =>
    simp only [pureSem, Op.operands, List.map_map] at h
    have hmem : ∀ x ∈ zipParts ps.toList (ps.toList.map (e ∘ fun x => x.2)), ok2 hp x.2 := by
      intro x hx
      have := (List.of_mem_zip hx).2
      simp only [List.mem_map, Function.comp] at this
      obtain ⟨p, hp', he⟩ := this
      rw [← he]
      exact hok p.2 (by simp [Op.operands]; exact ⟨p.1, by simpa using hp'⟩)
    obtain ⟨h1, h2⟩ := build_sound h hmem
    refine ⟨h1, fun ρ w => ?_⟩
    have := h2 ρ w
    simp only [execOp, Sem.run_bind]
    rw [show (ps.map fun x => (x.1, ren ρ (e x.2))) = ((zipParts ps.toList (ps.toList.map (e ∘ fun x => x.2))).map fun x => (x.1, ren ρ x.2)).toArray from by
      apply Array.ext'
      simp only [Array.toList_map, zipParts]
      generalize ps.toList = l
      induction l with
      | nil => rfl
      | cons a l ih => simp [ih]]
    rw [this]; rfl
  case binOp op t x y yt =>
    have h' : binSem P op t (e x) (e y) = some v := h
    obtain ⟨h1, h2⟩ := bin_sound h' (hok x (by simp [Op.operands]))
    refine ⟨h1, fun ρ w => ?_⟩
    have := h2 ρ w x y
    simp only [execOp]
    rw [Sem.run_bind, this]
    rfl
  case unOp op t x =>
    have h' : unSem op (e x) = some v := h
    unfold unSem at h'
    split at h' <;> cases h'
    · rename_i k n heq
      exact ⟨wrap_within _ _, fun ρ w => by simp [execOp, heq, ren, ren1, ren0, Op.unary, Op.intArith]⟩
    · rename_i k n heq
      refine ⟨bits_within _ _ _ _, fun ρ w => by (simp [execOp, heq, ren, ren1, ren0, Op.unary]; rfl)⟩
    · rename_i b heq
      exact ⟨trivial, fun ρ w => by simp [execOp, heq, ren, ren1, ren0, Op.unary]⟩
  case convert src dst' x =>
    simp only [pureSem, Op.operands, List.map_cons, List.map_nil] at h
    split at h
    · rename_i k0 n heq
      simp only [List.cons.injEq, and_true] at heq
      split at h <;> cases h
      rename_i d1 k h1 h2
      exact ⟨wrap_within _ _, fun ρ w => by simp [execOp, heq, ren, ren1, ren0, convert, run_underlying h1, run_underlying h2, Conv.intToInt]⟩
    · cases h
  case slice t x lo hi mx =>
    have hx := hok x (by simp [Op.operands])
    cases mx with
    | some m => cases lo <;> cases hi <;> simp [pureSem] at h
    | none =>
      have key : sliceSem P t (e x) (lo.map e) (hi.map e) = some v := by
        cases lo <;> cases hi <;> exact h
      obtain ⟨h1, h2⟩ := slice_sound key hx
      refine ⟨h1, fun ρ w => ?_⟩
      have := h2 ρ w
      simp only [Option.map_map] at this
      simp only [execOp, Option.map_none, Sem.run_bind]
      rw [show lo.map (fun x => ren ρ (e x)) = lo.map (ren ρ ∘ e) from rfl, show hi.map (fun x => ren ρ (e x)) = hi.map (ren ρ ∘ e) from rfl, this]
      rfl
  case fieldAddr s x f =>
    simp only [pureSem, Op.operands, List.map_cons, List.map_nil] at h
    have hx := hok x (by simp [Op.operands])
    split at h
    · rename_i a heq
      simp only [List.cons.injEq, and_true] at heq
      rw [heq] at hx
      unfold fieldAddrSem at h
      split at h
      · rename_i fs hu
        split at h
        · rename_i fl hf
          split at h
          · rename_i n hs
            cases h
            refine ⟨ok_add hx _, fun ρ w => ?_⟩
            simp [execOp, heq, ren, ren1, ren0, Instr.fieldAt, run_underlying hu, hf, Instr.sureAddr, fieldPlace, run_szT hs, rena_add]
          · cases h
        · cases h
      · cases h
    · cases h
  case field s x f =>
    simp only [pureSem, Op.operands, List.map_cons, List.map_nil] at h
    have hx := hok x (by simp [Op.operands])
    split at h
    · rename_i cs heq
      simp only [List.cons.injEq, and_true] at heq
      rw [heq] at hx
      split at h
      · rename_i fs hu
        split at h
        · rename_i fl hf
          obtain ⟨h1, h2⟩ := part_sound h (fun u hu => hx u (by simpa using hu))
          refine ⟨h1, fun ρ w => ?_⟩
          simp only [execOp, heq, ren_agg, Instr.field, Sem.run_bind, run_underlying hu, Result.andThen_ok, hf, asAgg, Sem.run_pure, h2]
        · cases h
      · cases h
    · cases h
  case indexAddr t x ix =>
    simp only [pureSem, Op.operands, List.map_cons, List.map_nil] at h
    have hx := hok x (by simp [Op.operands])
    split at h
    · rename_i x' k i heq
      simp only [List.cons.injEq, and_true] at heq
      obtain ⟨hx', hi⟩ := heq
      subst hx'
      unfold idxAddrSem at h
      split at h
      · rename_i len el a hu hxa
        rw [hxa] at hx
        split at h
        · rename_i n hs
          split at h <;> cases h
          rename_i hb
          refine ⟨ok_add hx _, fun ρ w => ?_⟩
          simp [execOp, hxa, hi, ren, ren1, ren0, Instr.indexAt, asIntOf, run_underlying hu, Instr.sureAddr, run_szT hs, hb, rena_add]
        · cases h
      · rename_i el a len cap hu hxa
        rw [hxa] at hx
        split at h
        · rename_i n hs
          split at h <;> cases h
          rename_i hb
          refine ⟨ok_add hx _, fun ρ w => ?_⟩
          simp [execOp, hxa, hi, ren, ren1, ren0, Instr.indexAt, asIntOf, run_underlying hu, Instr.sureAddr, run_szT hs, hb, rena_add]
        · cases h
      · cases h
    · cases h
  case index t x ix =>
    simp only [pureSem, Op.operands, List.map_cons, List.map_nil] at h
    have hx := hok x (by simp [Op.operands])
    split at h
    · rename_i cs k i heq
      simp only [List.cons.injEq, and_true] at heq
      obtain ⟨hx', hi⟩ := heq
      rw [hx'] at hx
      split at h
      · rename_i len el hu
        split at h
        · rename_i n hs
          split at h
          · rename_i hb
            obtain ⟨h1, h2⟩ := part_sound h (fun u hu => hx u (by simpa using hu))
            refine ⟨h1, fun ρ w => ?_⟩
            have ei : ren ρ (.int k i) = .int k i := rfl
            simp only [execOp, hx', hi, ren_agg, ei, Instr.index, Sem.run_bind, run_underlying hu, Result.andThen_ok, asIntOf, Sem.run_pure, Sem.run_ite, run_szT hs]
            rw [if_pos hb, h2]
            rfl
          · cases h
        · cases h
      · cases h
    · cases h
  case makeFunc fn first captured =>
    simp only [pureSem] at h
    by_cases hc : (first.toList.isEmpty && ((Op.makeFunc fn first captured).operands.toList.map e).all capOK) = true
    · rw [if_pos hc] at h
      cases h
      simp only [Op.operands] at hc ⊢
      simp only [Bool.and_eq_true, List.all_eq_true] at hc
      obtain ⟨hf, hcap⟩ := hc
      have hf' : first = #[] := by simpa using hf
      subst hf'
      have hcs : ∀ x ∈ captured, ok0 hp (e x) := by
        intro x hx
        have h1 := hok x (by simp [Op.operands, hx])
        have h2 := hcap (e x) (by simp; exact ⟨x, hx, rfl⟩)
        revert h1 h2
        generalize e x = u
        intro h1 h2
        cases u <;> first | (simp [capOK] at h2; done) | exact h1 | skip
        simp [capOK] at h2
        exact h2
      refine ⟨⟨fun u hu => by simp at hu, fun u hu => ?_⟩, fun ρ w => ?_⟩
      · simp at hu; obtain ⟨x, hx, rfl⟩ := hu; exact hcs x hx
      · have ec : captured.map (fun x => ren ρ (e x)) = ((#[] ++ captured).toList.map e).toArray.map (ren0 ρ) := by
          apply Array.ext'
          simp only [Array.toList_map, Array.toList_append, List.nil_append, List.map_map]
          exact List.map_congr_left fun x hx => by rw [ren_of_ok0 ρ (hcs x (by simpa using hx))]; rfl
        show Result.ok (Next.value (.func fn (#[].map fun x => ren ρ (e x)) (captured.map fun x => ren ρ (e x)))) w = _
        rw [ec]
        simp [ren, ren1]
    · rw [if_neg hc] at h; cases h
  case call c =>
    obtain ⟨callee, args, argTypes⟩ := c
    cases callee <;> (try simp only [pureSem] at h) <;> try cases h
    rename_i b
    cases b <;> simp only at h <;> try cases h
    unfold lenSem at h
    split at h
    · rename_i t a n cap ht heq
      split at h
      · rename_i el hu
        split at h
        · rename_i hn
          cases h
          have ht' : argTypes = #[t] := by apply Array.ext'; simpa using ht
          subst ht'
          have hargs : ∃ y, args = #[y] ∧ e y = .slice a n cap := by
            have h0 : args.toList.map e = [.slice a n cap] := by simpa [Op.operands, Call.operands] using heq
            cases hl : args.toList with
            | nil => rw [hl] at h0; cases h0
            | cons y l =>
              rw [hl] at h0
              simp only [List.map_cons, List.cons.injEq, List.map_eq_nil_iff] at h0
              obtain ⟨h1, rfl⟩ := h0
              exact ⟨y, by apply Array.ext'; simpa using hl, h1⟩
          obtain ⟨y, rfl, hy⟩ := hargs
          have hn' := Nat.le_of_ble_eq_true hn
          refine ⟨⟨by simp [IntKind.min, IntKind.signed, IntKind.bits]; try omega, by simp [IntKind.max, IntKind.signed, IntKind.bits]; omega⟩, fun ρ w => ?_⟩
          have er : ∃ a', ren ρ (.slice a n cap) = .slice a' n cap := by cases a <;> exact ⟨_, rfl⟩
          obtain ⟨a', er⟩ := er
          simp [execOp, resolve, hy, er, invoke, builtin, Builtin.len_, run_underlying hu, goInt]
          rfl
        · cases h
      · cases h
    · cases h
  all_goals (simp only [pureSem] at h; cases h)
end
end Vm
end Go.Proofs.YtbbifiogcpcpfaaDoor
