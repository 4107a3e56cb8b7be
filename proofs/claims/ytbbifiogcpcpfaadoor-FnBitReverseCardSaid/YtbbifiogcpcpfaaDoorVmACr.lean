/-
  A small symbolic machine, part 17: a function's contract from its virtual runs; contracts of functions without a body.
-/
import Derived.Test.YtbbifiogcpcpfaaDoorVmAC
import Derived.Laws.Externs
namespace Go.Proofs.YtbbifiogcpcpfaaDoor
namespace Vm
section
variable {P : Program} {E : Env}

theorem enters {f : FuncId} {fn : Func} {c : Code} (hf : P.funcs[f]? = some fn) (hname : (fn.name == "runtime.NumGoroutine") = false) (hb : fn.body = some c) (args : Array Value) (w : World) :
    (callFunc f args).run P w = .ok (.enter f args) w := by
  have h1 : fn.name ≠ "runtime.NumGoroutine" := by simpa using hname
  simp [callFunc, hf, h1, hb]

theorem calld_of {f : FuncId} {fn : Func} {c : Code} (hf : P.funcs[f]? = some fn) (hname : (fn.name == "runtime.NumGoroutine") = false) (hb : fn.body = some c) {args : Array Value} {w : World}
    {R : Value → World → Prop} (h : Calls P f args w fun e w' => ∃ v, e = .returned v ∧ R v w') : Calld P f args w R := by
  intro o a next Q hn
  rw [enters hf hname hb args w, Oper.upon_enter]
  refine h.mono ?_
  rintro e w' ⟨v, rfl, hr⟩
  exact hn v w' hr

theorem vregs_at {all : List AP} : ∀ (ps : List AP) (ks : List PK), kindsOK ps ks → ∀ (j : Nat) p A cs, ps[j]? = some p → p.at? = some (A, cs) → (p.isW = false → findW A cs.length 0 all = none) →
    (vregs ks (alOf all ps) (ps.map AP.con))[j]? = some (some (p.isW, cs))
  | [], [], _, j, p, A, cs, h, _, _ => by simp at h
  | [], _ :: _, h, _, _, _, _, _, _, _ => h.elim
  | _ :: _, [], h, _, _, _, _, _, _, _ => h.elim
  | q :: ps, k :: ks, hk, j, p, A, cs, hj, hat, hw => by
    have hk1 := hk.1
    cases j with
    | succ j =>
      have ih := vregs_at ps ks hk.2 j p A cs (by simpa using hj) hat hw
      cases q <;> cases k <;> try exact hk1.elim
      · simpa [alOf, vregs] using ih
      · rename_i B ds n
        simp only [alOf, List.map_cons]
        cases findW B ds.length 0 all <;> simpa [vregs] using ih
      · rename_i B ds c n
        simp only [alOf, List.map_cons]
        cases findW B ds.length 0 all <;> simpa [vregs] using ih
      · simpa [alOf, vregs] using ih
    | zero =>
      simp only [List.getElem?_cons_zero, Option.some.injEq] at hj
      subst hj
      cases q <;> cases k <;> try exact hk1.elim
      · cases hat
      · simp only [AP.at?, Option.some.injEq, Prod.mk.injEq] at hat
        obtain ⟨rfl, rfl⟩ := hat
        simp only [alOf, List.map_cons, hw rfl, vregs, AP.con, List.getElem?_cons_zero, AP.isW]
      · simp only [AP.at?, Option.some.injEq, Prod.mk.injEq] at hat
        obtain ⟨rfl, rfl⟩ := hat
        simp only [alOf, List.map_cons, hw rfl, vregs, AP.con, List.getElem?_cons_zero, AP.isW]
      · simp only [AP.at?, Option.some.injEq, Prod.mk.injEq] at hat
        obtain ⟨rfl, rfl⟩ := hat
        simp only [alOf, List.map_cons, vregs, AP.con, List.getElem?_cons_zero, AP.isW]

theorem pres_at {all : List AP} {ks : List PK} (hk : kindsOK all ks) (nt : Nat) {j : Nat} {p : AP} {A : Addr} {cs : List Value} (hj : all[j]? = some p) (hat : p.at? = some (A, cs))
    (hw : p.isW = false → findW A cs.length 0 all = none) : (pad nt (vregs ks (alOf all all) (all.map AP.con)))[nt + j]? = some (some (p.isW, cs)) :=
  pad_get.2 ⟨by omega, by rw [Nat.add_sub_cancel_left]; exact vregs_at all ks hk j p A cs hj hat hw⟩

theorem vargs_ok {w : World} {all : List AP} {ks0 : List PK} (hl : Lie w all) (hk0 : kindsOK all ks0) (nt : Nat) : ∀ (ps : List AP) (ks : List PK) (j : Nat), kindsOK ps ks → (∀ i, ps[i]? = all[j + i]?) →
    ∀ u ∈ vargs nt j ks (alOf all ps) (ps.map AP.con) (ps.map capOf), ok2 (pad nt (vregs ks0 (alOf all all) (all.map AP.con))) u
  | [], [], _, _, _ => fun u hu => by simp [vargs] at hu
  | [], _ :: _, _, h, _ => h.elim
  | _ :: _, [], _, h, _ => h.elim
  | p :: ps, k :: ks, j, hk, hsub => by
    have ih := vargs_ok hl hk0 nt ps ks (j + 1) hk.2 (fun i => by have := hsub (i + 1); simpa [Nat.add_assoc, Nat.add_comm 1 i] using this)
    have hp : all[j]? = some p := by simpa using (hsub 0).symm
    have hm := List.mem_of_getElem? hp
    have hk1 := hk.1
    have own : ∀ {A cs}, p.at? = some (A, cs) → (p.isW = false → findW A cs.length 0 all = none) → pres (pad nt (vregs ks0 (alOf all all) (all.map AP.con))) (nt + j) := fun hat hw =>
      ⟨_, pres_at hk0 nt hp hat hw⟩
    have al : ∀ {A : Addr} {n : Nat} {i}, findW A n 0 all = some i → pres (pad nt (vregs ks0 (alOf all all) (all.map AP.con))) (nt + i) := by
      intro A n i hf
      obtain ⟨B, ds, _, h2, _⟩ := findW_some all 0 i hf
      simp only [Nat.sub_zero] at h2
      exact ⟨_, pres_at hk0 nt h2 rfl (fun h => by cases h)⟩
    cases p <;> cases k <;> try exact hk1.elim
    · rename_i x
      simp only [alOf, List.map_cons, AP.con, vargs, List.headD_cons]
      intro u hu
      rcases List.mem_cons.1 hu with rfl | hu
      · exact (hl.ok _ hm u (by simp [AP.con])).mono (nil_mono _)
      · exact ih u hu
    · rename_i A cs n
      simp only [alOf, List.map_cons]
      cases hf : findW A cs.length 0 all with
      | none =>
        simp only [vargs]
        intro u hu
        rcases List.mem_cons.1 hu with rfl | hu
        · exact ⟨rfl, own rfl (fun _ => hf)⟩
        · exact ih u hu
      | some i =>
        simp only [vargs]
        intro u hu
        rcases List.mem_cons.1 hu with rfl | hu
        · exact ⟨rfl, al hf⟩
        · exact ih u hu
    · rename_i A cs c n
      simp only [alOf, List.map_cons]
      cases hf : findW A cs.length 0 all with
      | none =>
        simp only [vargs]
        intro u hu
        rcases List.mem_cons.1 hu with rfl | hu
        · exact ⟨rfl, own rfl (fun _ => hf)⟩
        · exact ih u hu
      | some i =>
        simp only [vargs]
        intro u hu
        rcases List.mem_cons.1 hu with rfl | hu
        · exact ⟨rfl, al hf⟩
        · exact ih u hu
    · rename_i A cs n
      simp only [alOf, List.map_cons, vargs]
      intro u hu
      rcases List.mem_cons.1 hu with rfl | hu
      · exact ⟨rfl, own rfl (fun h => by cases h)⟩
      · exact ih u hu

theorem newsAt_get {hp : Hp} {nt : Nat} : ∀ (ks : List PK) (ns : List (List Value)) (j : Nat), newsAt hp nt j ks ns → ∀ (i n : Nat), ks[i]? = some (.W n) → ∃ m, m.length = n ∧ hp[nt + (j + i)]? = some (some (true, m))
  | [], ns, j, _, i, n, h => by simp at h
  | .V :: ks, ns, j, hn, i, n, h => by
    cases i with
    | zero => simp at h
    | succ i => have := newsAt_get ks ns (j + 1) hn i n (by simpa using h); rwa [show j + (i + 1) = j + 1 + i by omega]
  | .R _ :: ks, ns, j, hn, i, n, h => by
    cases i with
    | zero => simp at h
    | succ i => have := newsAt_get ks ns (j + 1) hn i n (by simpa using h); rwa [show j + (i + 1) = j + 1 + i by omega]
  | .S _ :: ks, ns, j, hn, i, n, h => by
    cases i with
    | zero => simp at h
    | succ i => have := newsAt_get ks ns (j + 1) hn i n (by simpa using h); rwa [show j + (i + 1) = j + 1 + i by omega]
  | .W k :: ks, ns, j, hn, i, n, h => by
    cases ns with
    | nil => exact hn.elim
    | cons m ms =>
      obtain ⟨h1, h2, h3⟩ := hn
      cases i with
      | zero =>
        simp only [List.getElem?_cons_zero, Option.some.injEq, PK.W.injEq] at h
        subst h
        exact ⟨m, h1, by simpa using h2⟩
      | succ i => have := newsAt_get ks ms (j + 1) h3 i n (by simpa using h); rwa [show j + (i + 1) = j + 1 + i by omega]

theorem news_of {w' w0 : World} {W : Nat → Nat → Prop} {all : List AP} {hp : Hp} {nt : Nat} {ρ : Emb} (hI : Inv w0 W ρ hp w') (hρ : ∀ (i : Nat) A ds, all[i]? = some (.w A ds) → ρ (nt + i) = (A.block, A.off)) :
    ∀ (ps : List AP) (ks : List PK) (j : Nat) (ns : List (List Value)), kindsOK ps ks → (∀ i, ps[i]? = all[j + i]?) → newsAt hp nt j ks ns → (∀ n ∈ ns, ∀ u ∈ n, ok0 [] u) → News w' ps ns
  | [], [], _, ns, _, _, h, _ => h
  | [], _ :: _, _, _, h, _, _, _ => h.elim
  | _ :: _, [], _, _, h, _, _, _ => h.elim
  | p :: ps, k :: ks, j, ns, hk, hsub, hn, hok => by
    have hsub' : ∀ i, ps[i]? = all[j + 1 + i]? := fun i => by have := hsub (i + 1); simpa [Nat.add_assoc, Nat.add_comm 1 i] using this
    have hp : all[j]? = some p := by simpa using (hsub 0).symm
    have hk1 := hk.1
    cases p <;> cases k <;> try exact hk1.elim
    · exact news_of hI hρ ps ks (j + 1) ns hk.2 hsub' hn hok
    · exact news_of hI hρ ps ks (j + 1) ns hk.2 hsub' hn hok
    · exact news_of hI hρ ps ks (j + 1) ns hk.2 hsub' hn hok
    · rename_i A cs n
      cases ns with
      | nil => exact hn.elim
      | cons m ms =>
        obtain ⟨h1, h2, h3⟩ := hn
        have hcn : cs.length = n := hk1
        refine ⟨h1.trans hcn.symm, fun i v hi => ?_, news_of hI hρ ps ks (j + 1) ms hk.2 hsub' h3 fun x hx => hok x (by simp [hx])⟩
        have := hI.cell (nt + j) true m h2 i v hi
        rw [hρ j A cs hp, ok0_nil_ren (hok m (by simp) v (List.mem_of_getElem? hi))] at this
        exact this

theorem lens_of : ∀ (ps : List AP) (ks : List PK), kindsOK ps ks → lens ks (ps.map AP.con)
  | [], [], _ => trivial
  | [], _ :: _, h => h.elim
  | _ :: _, [], h => h.elim
  | p :: ps, k :: ks, h => by
    refine ⟨?_, lens_of ps ks h.2⟩
    have h1 := h.1
    cases p <;> cases k <;> first | exact h1.elim | exact h1 | rfl

/-- **From the virtual runs to the calls.** -/
theorem cc_of_run (hE : EnvOK P E) (hm : P.follows .mixedOrders = true) {f : FuncId} {fn : Func} (hf : P.funcs[f]? = some fn) {ks : List PK} {g : Gf} (hrun : RunOK P E fn ks g) (hal : E.al = [] := by rfl) :
    ∀ (ps : List AP) news rv φ, kindsOK ps ks → g (ps.map AP.con) = some (news, rv, φ) → (∀ p ∈ ps, ∀ u ∈ p.con, ok2 [] u) →
      ((∀ n ∈ news, ∀ u ∈ n, ok0 [] u) ∧ RVok rv) ∧
      ∀ w, Lie w ps → due φ → (∃ c, fn.body = some c) ∧ Calls P f (ps.map AP.val).toArray w fun e w' => ∃ v, e = .returned v ∧ Fr (Wof ps) w w' ∧ News w' ps news ∧ Hands w w' ps (.returned v) rv := by
  intro ps news rv φ hk hg hok
  have hlen := kinds_length ps ks hk
  obtain ⟨⟨h1, h2⟩, h3⟩ := hrun (ps.map AP.con) news rv φ hg (lens_of ps ks hk) (fun c hc u hu => by
    obtain ⟨p, hp, rfl⟩ := List.mem_map.1 hc
    exact hok p hp u hu)
  refine ⟨⟨h1, h2⟩, fun w hl hd => ?_⟩
  obtain ⟨n, out, hr, hvc, hnews, hhands⟩ := h3 (alOf ps ps) (ps.map capOf) (al_ok hk ps ks hk) (al_same hl ps 0 (fun j => by simp)) (by simpa using hlen) hd
  have hc : ∃ c, fn.body = some c := by
    cases hb : fn.body with
    | none => unfold frun at hr; rw [hb] at hr; cases hr
    | some c => exact ⟨c, rfl⟩
  refine ⟨hc, ?_⟩
  have hvs := vargs_ok hl hk fn.ntmps ps ks 0 hk (fun i => by simp)
  have hH : okH (pad fn.ntmps (vregs ks (alOf ps ps) (ps.map AP.con))) := by
    intro r b cs hr' u hu
    obtain ⟨_, k2⟩ := pad_get.1 hr'
    obtain ⟨p, A, a1, a2, _⟩ := vregs_get ps ks hk _ b cs k2
    exact (hl.flat p (List.mem_of_getElem? a1) A cs a2 u hu).mono (nil_mono _)
  obtain ⟨⟨m1, o1, o2⟩, hS⟩ := fn_sound hE hal hm hf hr hvs hH
  have hren := vargs_ren hl fn.ntmps ps ks 0 hk (fun i => by simp)
  have hcall := hS w (Wof ps) (embOf fn.ntmps ps) w (inv_of hk hl fn.ntmps) hvc
  rw [hren] at hcall
  refine hcall.mono ?_
  rintro e w' ⟨ρ', hag, rfl, hI'⟩
  have hρ : ∀ (i : Nat) A ds, ps[i]? = some (.w A ds) → ρ' (fn.ntmps + i) = (A.block, A.off) := by
    intro i A ds hi
    rw [hag _ ⟨_, pres_at hk fn.ntmps hi rfl (fun h => by cases h)⟩]
    simp only [embOf, if_neg (Nat.not_lt.2 (Nat.le_add_right _ i)), Nat.add_sub_cancel_left, placeOf, hi, Option.bind_some, AP.at?]
  refine ⟨_, rfl, hI'.fr, news_of hI' hρ ps ks 0 news hk (fun i => by simp) hnews h1, ?_⟩
  cases rv with
  | val v =>
    have : out.val = v := hhands
    show Ending.returned _ = Ending.returned v
    rw [this, ok2_nil_ren h2]
  | same j =>
    have hj : (vargs fn.ntmps 0 ks (alOf ps ps) (ps.map AP.con) (ps.map capOf))[j]? = some out.val := hhands
    have hj' : (ps.map AP.val)[j]? = some (ren (embOf fn.ntmps ps) out.val) := by rw [← hren, List.getElem?_map, hj]; rfl
    simp only [List.getElem?_map, Option.map_eq_some_iff] at hj'
    obtain ⟨p, hp, he⟩ := hj'
    refine ⟨p, hp, ?_⟩
    rw [he, ren_agree hag (hvs _ (List.mem_of_getElem? hj))]
  | fresh cs us =>
    obtain ⟨hpos, l, hl1, hv, hcell⟩ := hhands
    have hflat : ∀ u ∈ cs, ok0 [] u := h2.1
    refine ⟨(ρ' l).1, (ρ' l).2, ?_, ?_, fun i v hi => ?_, fun i hi => ?_⟩
    · rcases (hI'.own l cs hcell 0 hpos).2 with h | ⟨A, ds, hmem, hb1, i, hi, ho⟩
      · exact h
      · exfalso
        obtain ⟨j, hj⟩ := List.getElem?_of_mem hmem
        obtain ⟨k', hk1, hk2⟩ := kinds_get ps ks hk j _ hj
        cases k' <;> try exact hk2.elim
        rename_i n'
        have hdn : ds.length = n' := hk2
        obtain ⟨m, hm1, hm2⟩ := newsAt_get ks news 0 hnews j n' hk1
        rw [Nat.zero_add] at hm2
        have hjl : j < ps.length := by
          rcases Nat.lt_or_ge j ps.length with h | h
          · exact h
          · rw [List.getElem?_eq_none h] at hj; cases hj
        have hal : (vargs fn.ntmps 0 ks (alOf ps ps) (ps.map AP.con) (ps.map capOf)).length = ps.length := by
          have := congrArg List.length hren
          simpa using this
        rw [hal] at hl1
        have := hI'.dis l (fn.ntmps + j) true cs true m (by omega) hcell hm2 rfl 0 i hpos (by omega)
        rw [hρ j A ds hj] at this
        simp only at this
        rcases this with h | h
        · exact h hb1
        · exact h ho
    · rw [hv, ren_freshV _ _ _ _ h2.2]; simp [rena]
    · have := hI'.cell l true cs hcell i v hi
      rw [ok0_nil_ren (hflat v (List.mem_of_getElem? hi))] at this
      exact this
    · exact (hI'.own l cs hcell i hi).1


/-- **From the virtual runs to the contract.** -/
theorem ac_of_run (hE : EnvOK P E) (hm : P.follows .mixedOrders = true) {f : FuncId} {fn : Func} (hf : P.funcs[f]? = some fn) (hname : (fn.name == "runtime.NumGoroutine") = false) {ks : List PK} {g : Gf}
    (hrun : RunOK P E fn ks g) (hal : E.al = [] := by rfl) : AC P f ks g := by
  intro ps news rv φ hk hg hok
  obtain ⟨h1, h2⟩ := cc_of_run hE hm hf hrun hal ps news rv φ hk hg hok
  refine ⟨h1, fun w hl hd => ?_⟩
  obtain ⟨⟨c, hb⟩, hc⟩ := h2 w hl hd
  exact calld_of hf hname hb hc

end
end Vm
end Go.Proofs.YtbbifiogcpcpfaaDoor
