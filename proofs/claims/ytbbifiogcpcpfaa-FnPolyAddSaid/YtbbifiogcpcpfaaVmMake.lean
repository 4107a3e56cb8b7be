/-
  A small symbolic machine, part 26: a row of an unknown number of zeros made; the builtin copy; calls that write the head of a region.
-/
import Derived.Test.YtbbifiogcpcpfaaVmPart
namespace Go.Proofs.Ytbbifiogcpcpfaa
namespace Vm
section
variable {P : Program}

/-- An operation that ends well, by what is so behind it. -/
def StepsTo (P : Program) (o : Oper) (τ : TS) (v : Value) (ks : Kept) : Prop :=
  ∀ w0 W g T ρ a w, RSim w0 W ρ (τ.fill g T) a w → LocOK ρ τ.hp τ.loc → ∀ (Kt : Act → World → Prop) (Q : Exit → Act → World → Prop),
    (∀ ρ' hp' u w', Agree (τ.fill g T).hp ρ ρ' → RSim w0 W ρ' ⟨putT (τ.fill g T).tm o.dst v, hp', True, 0⟩ (a.put o.dst u) w' → (∀ k ∈ ks, hp'[k.1]? = some (some k.2.2.2)) → Kt (a.put o.dst u) w') → o.wp P a w Kt Q

/-- .., from form to form. -/
theorem tril_step {ops : Array Oper} {rest : List Oper} {o : Oper} {τ : TS} {K : TS → Prop} {dst m : Nat} {v v' : Value} {live : List (Nat × Value)} {ks : Kept} {loc : List (Nat × Nat × Nat)}
    (H : StepsTo P o τ v ks) (hdst : o.dst = some dst) (hw : ∀ g, wantedS ops o (fillT g 0 τ.tm) = true) (hnt : dst < τ.tm.length) (hv : ren (piOf m (keepOf ks)) v = v')
    (hlive : ∀ p ∈ live, p.1 ≠ dst ∧ ∃ u, (∀ g, (fillT g 0 τ.tm)[p.1]? = some u) ∧ ren (piOf m (keepOf ks)) u = p.2) (hflat : ∀ k ∈ ks, k.2.2.1 = false → Flat k.2.2.2.2) (hk : keepOK m (keepOf ks) = true)
    (hloc : ∀ q b o, (q, b, o) ∈ loc → ∃ r f, (r, q, f) ∈ keepOf ks ∧ (r, b, o) ∈ τ.loc)
    (hK : TriL P ops rest ⟨mkT τ.tm.length ((dst, v') :: live), mkT m (rgOf m (keepOf ks) ks), loc⟩ K) : TriL P ops (o :: rest) τ K := by
  rintro w0 W a w ⟨g, T, ρ, hs, hl⟩ Q hQ
  have hwt : Region.wanted o (yielded ops a.tmps) = true := by rw [hs.tm.wanted]; exact hw g
  unfold wpList
  rw [if_pos hwt]
  refine .inl ?_
  refine H w0 W g T ρ a w hs hl _ Q fun ρ' hp' u w' hag hg hks => ?_
  refine hK w0 W _ _ ?_ Q hQ
  have hform := form_of (m := m) (ks := ks) (sl := (dst, v') :: live) (loc := loc) hg rfl hk ?_ (fun k hm => ⟨hks k hm, hflat k hm⟩) ?_
  · have hlen : (putT (τ.fill g T).tm o.dst v).length = τ.tm.length := by rw [hdst]; simp [putT, TS.fill, fillT_length]
    simp only at hform
    rw [hlen] at hform
    exact hform
  · intro p hp
    rw [hdst]
    rcases List.mem_cons.1 hp with rfl | hp
    · refine ⟨v, ?_, hv⟩
      simp only [putT]
      rw [List.getElem?_set_self (by simp [TS.fill, fillT_length, hnt])]
    · obtain ⟨h8, u, h9, h10⟩ := hlive p hp
      refine ⟨u, ?_, h10⟩
      simp only [putT]
      rw [List.getElem?_set_ne (Ne.symm h8)]
      exact h9 g
  · intro q b' o'' hq
    obtain ⟨r', f', h8, h9⟩ := hloc q b' o'' hq
    obtain ⟨h11, h12⟩ := hl _ _ _ h9
    exact ⟨r', f', h8, by rw [hag _ (pres_append h12), h11]⟩

/-- A row of n zeros. -/
theorem steps_make {o : Oper} {t el : TypeId} {lx cx : Operand} {size n d : Nat} {zs : List Value} {i : TypeInfo} {τ : TS} {ks : Kept} (ho : o.op = .makeSlice t lx cx) (hu : P.underlying t = some (.slice el)) (hs : szT P el = some size) (hz : zeroL P el = some zs)
    (hi : P.info? el = some i) (hall : zs.all plain0 = true) (hlen : zs.length = size) (hsz : 1 ≤ size) (hby : i.bytes ≤ 65536) (h0 : 1 ≤ n) (h1 : n ≤ 16777216)
    (ol : opdOK lx = true) (oc : opdOK cx = true) (el' : ∀ g, evS (fillT g 0 τ.tm) lx = .int .i64 n) (ec : ∀ g, evS (fillT g 0 τ.tm) cx = .int .i64 n) (hd : τ.hp[d]? = some none)
    (hks : ∀ k ∈ ks, (k.1 = d ∧ k.2.2.2 = (true, repL n zs)) ∨ (k.1 ≠ d ∧ τ.hp[k.1]? = some (some k.2.2.2))) : StepsTo P o τ (.slice (some ⟨d, 0, none⟩) n n) ks := by
  intro w0 W g T ρ a w h _ Kt Q hK
  have hd' : (τ.fill g T).hp[d]? = some none := get_append hd
  obtain ⟨z, hst, hcz, hrun⟩ := zeroL_spec hz
  have hza : z.cells = zs.toArray := by rw [← hcz]; simp [vcells]
  have hrok : ∀ n, ∀ u ∈ repL n zs, ok0 (τ.fill g T).hp u := by
    intro n
    induction n with
    | zero => simp [repL]
    | succ n ih =>
      intro u hu
      simp only [repL, List.mem_append] at hu
      rcases hu with hu | hu
      · exact (plain0_ok (by simp only [List.all_eq_true] at hall; exact hall u hu) _).1
      · exact ih u hu
  have hrren : ∀ n, (repL n zs).map (ren0 ρ) = repL n zs := by
    intro n
    induction n with
    | zero => rfl
    | succ n ih => simp only [repL, List.map_append, ih, plain_map hall ρ]
  have hw : IntKind.i64.wrap (n : Int) = n := IntWalk.i64_in _ (by omega)
  have hprod : (i.bytes : Int) * n ≤ 65536 * 16777216 := Int.mul_le_mul (by omega) (by omega) (by omega) (by omega)
  have hrep : (Array.range (n * size)).map (fun i => zs.toArray[i % zs.toArray.size]!) = (repL n zs).toArray := by
    apply Array.ext'; rw [repL_spec zs size hlen n]
  have hpos : ¬ n * size = 0 := by
    intro h; rcases Nat.mul_eq_zero.1 h with h | h <;> omega
  have e1 : a.eval lx = .int .i64 n := by rw [h.tm.eval (τ.fill g T).hp ol, show evS (τ.fill g T).tm lx = _ from el' g]; rfl
  have e2 : a.eval cx = .int .i64 n := by rw [h.tm.eval (τ.fill g T).hp oc, show evS (τ.fill g T).tm cx = _ from ec g]; rfl
  have t1 : (decide ((n : Int) < 0) || decide ((i.bytes : Int) * n > 2 ^ 48) || decide ((n : Int) < 0) || decide ((n : Int) > n)) = false := by
    simp; omega
  have hex : (execOp a.eval o).run P w = .ok (.value (.slice (some ⟨w.heap.size, 0, none⟩) n n)) (w.alloc (.cells (repL n zs).toArray el)) := by
    unfold execOp
    rw [ho]
    simp only [e1, e2, Instr.makeSlice, Sem.run_bind, run_underlying hu, Result.andThen_ok, asInt, asIntOf, Sem.run_pure, hw, run_typeInfo w hi, Sem.run_ite]
    simp only [t1, Bool.false_eq_true, if_false, run_askRoom, Result.andThen_ok, run_szT hs, Int.toNat_natCast, if_neg hpos, hrun, hza, hrep]
    simp [newRow]
  unfold Oper.wp
  rw [hex]
  have hag := agree_upd ρ (w.heap.size, 0) (not_pres hd')
  have hI := h.inv.new h.ok.hp hd' (repL n zs) (hrok n) el
  rw [hrren] at hI
  refine hK (upd ρ d (w.heap.size, 0)) ((τ.fill g T).hp.set d (some (true, repL n zs))) (.slice (some ⟨w.heap.size, 0, none⟩) n n) _ hag ⟨⟨fun u hu => ?_, okH_new h.ok.hp hd' (hrok n)⟩, ?_, hI⟩ fun k hk => ?_
  · rcases putT_mem hu with hu | rfl
    · exact (h.ok.tm u hu).mono mono_set
    · exact ok_slc_new hd'
  · have := (h.tm.agree hag h.ok.tm).put o.dst (.slice (some ⟨d, 0, none⟩) n n)
    rw [ren_slc_new] at this
    exact this
  · rcases hks k hk with ⟨h1, h2⟩ | ⟨h1, h2⟩
    · rw [h1, h2]; exact get_set_same hd'
    · rw [get_set_other h1]; exact get_append h2

/-- copy, of a row as long, onto a region of the call's own. -/
theorem steps_copy {o : Oper} {t el : TypeId} {dx sx : Operand} {i : TypeInfo} {n c c' r q : Nat} {cs news : List Value} {f : Bool} {τ : TS} {ks : Kept} (ho : o.op = .call { callee := .builtin .copy, args := #[dx, sx], argTypes := #[t, t] }) (hu : P.underlying t = some (.slice el))
    (hi : P.info? el = some i) (od : opdOK dx = true) (os : opdOK sx = true) (ed : ∀ g, evS (fillT g 0 τ.tm) dx = .slice (some ⟨r, 0, none⟩) n c) (es : ∀ g, evS (fillT g 0 τ.tm) sx = .slice (some ⟨q, 0, none⟩) n c')
    (hr : τ.hp[r]? = some (some (true, cs))) (hq : τ.hp[q]? = some (some (f, news))) (hcs : cs.length = n * i.size) (hnews : news.length = n * i.size) (fn : Flat news) (hn : n ≤ 9223372036854775807)
    (hks : ∀ k ∈ ks, (k.1 = r ∧ k.2.2.2 = (true, news)) ∨ (k.1 ≠ r ∧ τ.hp[k.1]? = some (some k.2.2.2))) : StepsTo P o τ (.int .i64 n) ks := by
  intro w0 W g T ρ a w h _ Kt Q hK
  have hr' : (τ.fill g T).hp[r]? = some (some (true, cs)) := get_append hr
  have hq' : (τ.fill g T).hp[q]? = some (some (f, news)) := get_append hq
  have hmap : news.map (ren0 ρ) = news := (List.map_congr_left (g := id) fun u hu => fn u hu ρ).trans (by simp)
  have okn : ∀ u ∈ news, ok0 (τ.fill g T).hp u := h.ok.hp q f news hq'
  have hone : ∀ u ∈ news, u.oneCell' = true := by
    intro u hu
    have := ren0_oneCell (fun _ => (0, 0)) (okn u hu)
    rwa [fn u hu] at this
  have hcell : ∀ j u, news[j]? = some u → w.cell? ((⟨(ρ q).1, (ρ q).2, none⟩ : Addr).add j) = some u := by
    intro j u hj
    rw [add_none]
    have := h.inv.cell q f news hq' j u hj
    rwa [fn u (List.mem_of_getElem? hj)] at this
  have hwr : wr (τ.fill g T).hp r 0 news = some ((τ.fill g T).hp.set r (some (true, splice cs 0 news))) := by
    unfold wr
    rw [hr']
    simp only
    rw [if_pos (by omega)]
  have hsp : splice cs 0 news = news := by
    have gen : ∀ (cs news : List Value), cs.length = news.length → splice cs 0 news = news := by
      intro cs
      induction cs with
      | nil => intro news hl; cases news with
        | nil => rfl
        | cons x l => simp at hl
      | cons y cs ih =>
        intro news hl
        cases news with
        | nil => simp at hl
        | cons u news =>
          simp only [splice]
          rw [ih news (by simpa using hl)]
    exact gen cs news (by omega)
  rw [hsp] at hwr
  obtain ⟨w', hst, hI'⟩ := h.inv.stores (P := P) hwr (fun u hu => by rw [fn u hu]; exact hone u hu)
  rw [hmap] at hst
  have hf := run_firstCells_some (P := P) w i.size n ⟨(ρ q).1, (ρ q).2, none⟩ n c' news (by omega) hcell
  have ed' : a.eval dx = .slice (some ⟨(ρ r).1, (ρ r).2, none⟩) n c := by rw [h.tm.eval (τ.fill g T).hp od, show evS (τ.fill g T).tm dx = _ from ed g]; rfl
  have es' : a.eval sx = .slice (some ⟨(ρ q).1, (ρ q).2, none⟩) n c' := by rw [h.tm.eval (τ.fill g T).hp os, show evS (τ.fill g T).tm sx = _ from es g]; rfl
  have hrun : (Builtin.copy_ #[t, t] o.type #[.slice (some ⟨(ρ r).1, (ρ r).2, none⟩) n c, .slice (some ⟨(ρ q).1, (ρ q).2, none⟩) n c']).run P w = .ok (goInt n) w' := by
    simp only [Nat.add_zero] at hst
    simp [Builtin.copy_, run_underlying hu, sizeOf, typeInfo, hi, Builtin.lenOf, hf, hst]
  have hgo : goInt (n : Int) = .int .i64 n := by
    simp [goInt]
  have hmono := wr_mono hwr
  unfold Oper.wp execOp
  simp only [ho, resolve, invoke, builtin, Sem.run_bind, Sem.run_pure, Result.andThen_ok, List.map_toArray, List.map_cons, List.map_nil, ed', es', hrun]
  rw [hgo]
  have hok : ok2 (τ.fill g T).hp (.int .i64 (n : Int)) := ⟨by show (-9223372036854775808 : Int) ≤ _; omega, by show _ ≤ (9223372036854775807 : Int); omega⟩
  refine hK ρ _ (.int .i64 n) w' (Agree.refl _ _) ⟨⟨fun u hu => ?_, wr_ok h.ok.hp okn hwr⟩, ?_, hI'⟩ fun k hk => ?_
  · rcases putT_mem hu with hu | rfl
    · exact (h.ok.tm u hu).mono hmono
    · exact hok.mono hmono
  · exact h.tm.put o.dst (.int .i64 (n : Int))
  · rcases hks k hk with ⟨h1, h2⟩ | ⟨h1, h2⟩
    · rw [h1, h2]; exact get_set_same hr'
    · rw [get_set_other h1]; exact get_append h2

/-- A call that writes the head of a region, and yields a value known here. -/
theorem steps_wcall {o : Oper} {c : Call} {f : FuncId} {fn : Func} {code : Code} {τ : TS} {vs : List Value} {v : Value} {r : Nat} {cs new : List Value} {ks : Kept} (ho : o.op = .call c) (hc : c.callee = .value (.func f))
    (hops : ∀ x ∈ c.args, opdOK x = true) (hf : P.funcs[f]? = some fn) (hname : (fn.name == "runtime.NumGoroutine") = false) (hb : fn.body = some code) (hvs : ∀ g, c.args.toList.map (evS (fillT g 0 τ.tm)) = vs)
    (hr : τ.hp[r]? = some (some (true, cs))) (hn : new.length ≤ cs.length) (fnw : Flat new) (okw : ∀ u ∈ new, ok0 [] u) (hv : ∀ T, ok2 (τ.hp ++ T) v)
    (H : ∀ w0 W g T ρ a w, RSim w0 W ρ (τ.fill g T) a w → LocOK ρ τ.hp τ.loc → Calls P f (vs.map (ren ρ)).toArray w fun e w' => e = .returned (ren ρ v) ∧ Fr (fun k j => k = (ρ r).1 ∧ ∃ i, i < new.length ∧ j = (ρ r).2 + i) w w' ∧ Holds w' ⟨(ρ r).1, (ρ r).2, none⟩ new)
    (hks : ∀ k ∈ ks, (k.1 = r ∧ k.2.2.2 = (true, new ++ cs.drop new.length)) ∨ (k.1 ≠ r ∧ τ.hp[k.1]? = some (some k.2.2.2))) : StepsTo P o τ v ks := by
  intro w0 W g T ρ a w hs hl Kt Q hK
  have hr' : (τ.fill g T).hp[r]? = some (some (true, cs)) := get_append hr
  have hex : execOp a.eval o = callFunc f (vs.map (ren ρ)).toArray := by
    unfold execOp
    rw [ho]
    have e1 : c.args.map a.eval = (vs.map (ren ρ)).toArray := by
      apply Array.ext'
      rw [← hvs g]
      simp only [Array.toList_map, List.map_map]
      exact List.map_congr_left fun x hx => hs.tm.eval [] (hops x (by simpa using hx))
    simp only [resolve, hc, e1, Act.eval, Deferred.ofValue, Array.empty_append]
    rfl
  unfold Oper.wp
  rw [hex]
  refine calld_of hf hname hb (R := fun u w' => u = ren ρ v ∧ Fr (fun k j => k = (ρ r).1 ∧ ∃ i, i < new.length ∧ j = (ρ r).2 + i) w w' ∧ Holds w' ⟨(ρ r).1, (ρ r).2, none⟩ new) ((H w0 W g T ρ a w hs hl).mono fun e w' ⟨h1, h2, h3⟩ => ⟨_, h1, rfl, h2, h3⟩) o a _ _ ?_
  rintro u w' ⟨rfl, h2, h3⟩
  have hI := hs.inv.wrote hr' h2 hn h3 (fun x hx => fnw x hx ρ)
  have hm : mono (τ.fill g T).hp ((τ.fill g T).hp.set r (some (true, new ++ cs.drop new.length))) := mono_set
  refine hK ρ _ _ w' (Agree.refl _ _) ⟨⟨fun x hx => ?_, fun k fl ds hk x hx => ?_⟩, hs.tm.put o.dst v, hI⟩ fun k hk => ?_
  · rcases putT_mem hx with hx | rfl
    · exact (hs.ok.tm x hx).mono hm
    · exact (hv T).mono hm
  · simp only at hk
    by_cases hkr : k = r
    · subst hkr
      rw [get_set_same hr'] at hk
      simp only [Option.some.injEq, Prod.mk.injEq] at hk
      obtain ⟨rfl, rfl⟩ := hk
      rcases List.mem_append.1 hx with hx | hx
      · exact (okw x hx).mono (nil_mono _)
      · exact (hs.ok.hp _ _ _ hr' x (List.mem_of_mem_drop hx)).mono hm
    · rw [get_set_other hkr] at hk
      exact (hs.ok.hp k fl ds hk x hx).mono hm
  · rcases hks k hk with ⟨h1, h2⟩ | ⟨h1, h2⟩
    · rw [h1, h2]; exact get_set_same hr'
    · rw [get_set_other h1]; exact get_append h2
end
end Vm
end Go.Proofs.Ytbbifiogcpcpfaa
