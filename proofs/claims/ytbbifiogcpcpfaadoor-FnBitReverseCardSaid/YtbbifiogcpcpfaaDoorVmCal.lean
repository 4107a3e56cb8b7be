/-
  A small symbolic machine, part 23: calls met one by one: what a call leaves, brought into form.
-/
import Derived.Test.YtbbifiogcpcpfaaDoorVmApp
namespace Go.Proofs.YtbbifiogcpcpfaaDoor
namespace Vm
section
variable {P : Program} {w0 w w' : World} {W : Nat → Nat → Prop} {ρ : Emb} {σ : VS} {a : Act}

theorem Inv.still {hp : Hp} (h : Inv w0 W ρ hp w) (hfr : Fr (fun _ _ => False) w w') : Inv w0 W ρ hp w' := by
  refine ⟨fun r b cs hr i v hi => hfr.cell (h.cell r b cs hr i v hi) id, fun r cs hr i hi => ?_, h.dis, h.fr.through hfr fun _ _ hf => hf.elim⟩
  have hlt := World.block_lt_of_cell? _ _ (h.cell r true cs hr i _ (List.getElem?_eq_getElem hi))
  obtain ⟨h1, h2⟩ := h.own r cs hr i hi
  exact ⟨by rw [hfr.frozen hlt]; exact h1, h2⟩
theorem flat_ok0 {v : Value} (hf : ∀ π, ren0 π v = v) {hp hp' : Hp} (h : ok0 hp v) : ok0 hp' v := by
  cases v with
  | pointer b => cases b with
    | none => trivial
    | some b =>
      have := hf fun r => (r + 1, 0)
      simp only [ren0, rena, Value.pointer.injEq, Option.some.injEq] at this
      have := congrArg Addr.block this
      simp only at this
      omega
  | slice b l c => cases b with
    | none => trivial
    | some b =>
      have := hf fun r => (r + 1, 0)
      simp only [ren0, rena, Value.slice.injEq, Option.some.injEq] at this
      have := congrArg Addr.block this.1
      simp only at this
      omega
  | _ => exact h

theorem rsim_still (h : RSim w0 W ρ σ a w) (hfr : Fr (fun _ _ => False) w w') (dst : Option Tmp) {v : Value} (hv : ok2 [] v) : RSim w0 W ρ ⟨putT σ.tm dst v, σ.hp, σ.vc, σ.bs⟩ (a.put dst v) w' := by
  refine ⟨⟨fun u hu => ?_, h.ok.hp⟩, ?_, h.inv.still hfr⟩
  · rcases putT_mem hu with hu | rfl
    · exact h.ok.tm u hu
    · exact hv.mono (nil_mono _)
  · have := h.tm.put dst v
    rwa [ok2_nil_ren hv] at this
theorem rsim_gain (h : RSim w0 W ρ σ a w) (hfr : Fr (fun _ _ => False) w w') {d : Nat} (hd : σ.hp[d]? = some none) {cs : List Value} (hcs : ∀ v ∈ cs, ok0 [] v) {b o : Nat} (hb : w.heap.size ≤ b)
    (hh : Holds w' ⟨b, o, none⟩ cs) (hf : Free w' ⟨b, o, none⟩ cs.length) (dst : Option Tmp) (n c : Nat) :
    RSim w0 W (upd ρ d (b, o)) ⟨putT σ.tm dst (.slice (some ⟨d, 0, none⟩) n c), σ.hp.set d (some (true, cs)), σ.vc, σ.bs⟩ (a.put dst (.slice (some ⟨b, o, none⟩) n c)) w' := by
  have hag := agree_upd ρ (b, o) (not_pres hd)
  have hI := (h.inv.still hfr).gain (w := w) h.ok.hp hd hcs (fun r x c hr hc => World.block_lt_of_cell? _ _ (h.inv.cell r x c hr 0 _ (List.getElem?_eq_getElem hc))) h.inv.fr.size hb hh hf
  refine ⟨⟨fun u hu => ?_, okH_new h.ok.hp hd fun v hv => (hcs v hv).mono (nil_mono _)⟩, ?_, hI⟩
  · rcases putT_mem hu with hu | rfl
    · exact (h.ok.tm u hu).mono mono_set
    · exact ok_slc_new hd
  · have := (h.tm.agree hag h.ok.tm).put dst (.slice (some ⟨d, 0, none⟩) n c)
    rw [show ren (upd ρ d (b, o)) (.slice (some ⟨d, 0, none⟩) n c) = .slice (some ⟨b, o, none⟩) n c by simp [ren, ren1, ren0, rena, upd_same]] at this
    exact this

/-- What is kept: from where, to where, whether addresses stand in it, and what it is. -/
abbrev Kept := List (Nat × Nat × Bool × Bool × List Value)
abbrev keepOf (ks : Kept) : Keep := ks.map fun k => (k.1, k.2.1, k.2.2.1)
def rgOf (m : Nat) (all : Keep) : Kept → List (Nat × Bool × List Value)
  | [] => []
  | (_, h, f, b, cs) :: ks => (h, b, match f with
    | true => cs.map (ren0 (piOf m all))
    | false => cs) :: rgOf m all ks
theorem regsK_of {m : Nat} {all : Keep} {hp : Hp} : ∀ (ks : Kept), (∀ k ∈ ks, hp[k.1]? = some (some k.2.2.2)) → regsK m all hp (keepOf ks) = some (rgOf m all ks)
  | [], _ => rfl
  | (r, h, f, b, cs) :: ks, hk => by
    have h1 := hk (r, h, f, b, cs) (by simp)
    have ih := regsK_of (m := m) (all := all) ks fun k hm => hk k (by simp [hm])
    simp only at h1
    simp only [List.map_cons, regsK, h1]
    rw [ih]
    rfl
theorem slotsK_of {m : Nat} {keep : Keep} {tm : List Value} : ∀ (sl : List (Nat × Value)), (∀ p ∈ sl, ∃ u, tm[p.1]? = some u ∧ ren (piOf m keep) u = p.2) → slotsK m keep tm (sl.map (·.1)) = sl
  | [], _ => rfl
  | (t, v) :: sl, h => by
    obtain ⟨u, h1, h2⟩ := h (t, v) (by simp)
    simp only at h1 h2
    simp only [List.map_cons, slotsK, h1, Option.getD_some, h2, slotsK_of sl fun p hp => h p (by simp [hp])]
/-- A state in form, by what is known of it. -/
theorem form_of (h : RSim w0 W ρ σ a w) (hbs : σ.bs = 0) {m : Nat} {ks : Kept} (hk : keepOK m (keepOf ks) = true) {sl : List (Nat × Value)} (hsl : ∀ p ∈ sl, ∃ u, σ.tm[p.1]? = some u ∧ ren (piOf m (keepOf ks)) u = p.2)
    (hrg : ∀ k ∈ ks, σ.hp[k.1]? = some (some k.2.2.2) ∧ (k.2.2.1 = false → Flat k.2.2.2.2)) {loc : List (Nat × Nat × Nat)} (hloc : ∀ q b o, (q, b, o) ∈ loc → ∃ r f, (r, q, f) ∈ keepOf ks ∧ ρ r = (b, o)) :
    TSim w0 W ⟨mkT σ.tm.length sl, mkT m (rgOf m (keepOf ks) ks), loc⟩ a w := by
  have hv : viewK m (keepOf ks) (sl.map (·.1)) .normal σ = some ⟨.normal, sl, rgOf m (keepOf ks) ks, σ.vc⟩ := by
    unfold viewK
    rw [regsK_of ks fun k hm => (hrg k hm).1]
    simp only
    rw [hbs, slotsK_of sl hsl]
    rfl
  exact view_sound h hk hv (fun r q hm b cs hr v hv π => by
    obtain ⟨k, hk1, hk2⟩ := List.mem_map.1 hm
    simp only [Prod.mk.injEq] at hk2
    obtain ⟨rfl, rfl, h3⟩ := hk2
    obtain ⟨h4, h5⟩ := hrg k hk1
    rw [hr] at h4
    simp only [Option.some.injEq] at h4
    exact h5 h3 v (by rw [← h4]; exact hv) π) hloc

/-- A call met by what is known of the function. -/
theorem tril_call {ops : Array Oper} {rest : List Oper} {o : Oper} {c : Call} {f : FuncId} {fn : Func} {code : Code} {τ : TS} {K K0 : TS → Prop} {vs : List Value} (ho : o.op = .call c) (hc : c.callee = .value (.func f)) (hw : ∀ g, wantedS ops o (fillT g 0 τ.tm) = true)
    (hops : ∀ x ∈ c.args, opdOK x = true) (hf : P.funcs[f]? = some fn) (hname : (fn.name == "runtime.NumGoroutine") = false) (hb : fn.body = some code) (hvs : ∀ g, c.args.toList.map (evS (fillT g 0 τ.tm)) = vs)
    (H : ∀ w0 W g T ρ a w, RSim w0 W ρ (τ.fill g T) a w → LocOK ρ τ.hp τ.loc → Calls P f (vs.map (ren ρ)).toArray w fun e w' => ∃ v τ', e = .returned v ∧ K0 τ' ∧ TSim w0 W τ' (a.put o.dst v) w')
    (hK : ∀ τ', K0 τ' → TriL P ops rest τ' K) : TriL P ops (o :: rest) τ K := by
  rintro w0 W a w ⟨g, T, ρ, hs, hl⟩ Q hQ
  have hwt : Region.wanted o (yielded ops a.tmps) = true := by rw [hs.tm.wanted]; exact hw g
  unfold wpList
  rw [if_pos hwt]
  refine .inl ?_
  have hex : execOp a.eval o = callFunc f (vs.map (ren ρ)).toArray := by
    unfold execOp
    rw [ho]
    have e1 : c.args.map a.eval = (vs.map (ren ρ)).toArray := by
      apply Array.ext'
      rw [← hvs g]
      simp only [Array.toList_map, List.map_map]
      exact List.map_congr_left fun x hx => hs.tm.eval [] (hops x (by simpa using hx))
    simp only [resolve, hc, e1, Act.eval, Deferred.ofValue, Array.empty_append]
    rfl
  unfold Oper.wp
  rw [hex]
  refine calld_of hf hname hb (R := fun v w' => ∃ τ', K0 τ' ∧ TSim w0 W τ' (a.put o.dst v) w') ((H w0 W g T ρ a w hs hl).mono fun e w' ⟨v, τ', h1, h2⟩ => ⟨v, h1, τ', h2⟩) o a _ _ ?_
  rintro v w' ⟨τ', h1, h2⟩
  exact hK τ' h1 w0 W _ w' h2 Q hQ

/-- A call that yields a plain value and leaves memory as it was. -/
theorem tril_scalar {ops : Array Oper} {rest : List Oper} {o : Oper} {c : Call} {f : FuncId} {fn : Func} {code : Code} {τ : TS} {K : TS → Prop} {vs : List Value} {v : Value} {dst m : Nat} {live : List (Nat × Value)} {ks : Kept} {loc : List (Nat × Nat × Nat)}
    (ho : o.op = .call c) (hdst : o.dst = some dst) (hc : c.callee = .value (.func f)) (hw : ∀ g, wantedS ops o (fillT g 0 τ.tm) = true)
    (hops : ∀ x ∈ c.args, opdOK x = true) (hf : P.funcs[f]? = some fn) (hname : (fn.name == "runtime.NumGoroutine") = false) (hb : fn.body = some code) (hvs : ∀ g, c.args.toList.map (evS (fillT g 0 τ.tm)) = vs)
    (H : ∀ w0 W g T ρ a w, RSim w0 W ρ (τ.fill g T) a w → LocOK ρ τ.hp τ.loc → Calls P f (vs.map (ren ρ)).toArray w fun e w' => e = .returned v ∧ Fr (fun _ _ => False) w w') (hv : ok2 [] v) (hnt : dst < τ.tm.length)
    (hlive : ∀ p ∈ live, p.1 ≠ dst ∧ ∃ u, (∀ g, (fillT g 0 τ.tm)[p.1]? = some u) ∧ ren (piOf m (keepOf ks)) u = p.2)
    (hks : ∀ k ∈ ks, τ.hp[k.1]? = some (some k.2.2.2) ∧ (k.2.2.1 = false → Flat k.2.2.2.2)) (hk : keepOK m (keepOf ks) = true)
    (hloc : ∀ q b o, (q, b, o) ∈ loc → ∃ r f, (r, q, f) ∈ keepOf ks ∧ (r, b, o) ∈ τ.loc)
    (hK : TriL P ops rest ⟨mkT τ.tm.length ((dst, v) :: live), mkT m (rgOf m (keepOf ks) ks), loc⟩ K) : TriL P ops (o :: rest) τ K := by
  refine tril_call (vs := vs) (K0 := fun τ' => τ' = ⟨mkT τ.tm.length ((dst, v) :: live), mkT m (rgOf m (keepOf ks) ks), loc⟩) ho hc hw hops hf hname hb hvs ?_ (fun τ' h => h ▸ hK)
  intro w0 W g T ρ a w hs hl
  refine (H w0 W g T ρ a w hs hl).mono ?_
  rintro e w' ⟨rfl, hfr⟩
  refine ⟨_, _, rfl, rfl, ?_⟩
  have hg := rsim_still hs hfr o.dst hv
  have hform := form_of (m := m) (ks := ks) (sl := (dst, v) :: live) (loc := loc) hg rfl hk ?_ ?_ ?_
  · rw [hdst] at hform
    have hlen : (putT (τ.fill g T).tm (some dst) v).length = τ.tm.length := by simp [putT, TS.fill, fillT_length]
    simp only at hform
    rw [hlen] at hform
    rw [hdst]
    exact hform
  · intro p hp
    rw [hdst]
    rcases List.mem_cons.1 hp with rfl | hp
    · refine ⟨v, ?_, ok2_nil_ren hv _⟩
      simp only [putT]
      rw [List.getElem?_set_self (by simp [TS.fill, fillT_length, hnt])]
    · obtain ⟨h8, u, h9, h10⟩ := hlive p hp
      refine ⟨u, ?_, h10⟩
      simp only [putT]
      rw [List.getElem?_set_ne (Ne.symm h8)]
      exact h9 g
  · intro k hkm
    obtain ⟨h8, h9⟩ := hks k hkm
    exact ⟨get_append h8, h9⟩
  · intro q b' o'' hq
    obtain ⟨r', f', h8, h9⟩ := hloc q b' o'' hq
    exact ⟨r', f', h8, (hl _ _ _ h9).1⟩

end
end Vm
end Go.Proofs.YtbbifiogcpcpfaaDoor
