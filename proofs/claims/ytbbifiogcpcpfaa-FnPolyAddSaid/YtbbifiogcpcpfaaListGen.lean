/-
  Calls that make lists, that write them; what is made, read off a form.
-/
import Derived.Test.YtbbifiogcpcpfaaVmMake
import Derived.Test.YtbbifiogcpcpfaaVmNil
import Derived.Test.YtbbifiogcpcpfaaListCal
namespace Go.Proofs.Ytbbifiogcpcpfaa
open Vm

theorem locK_cons {keep : Keep} {loc l : List (Nat × Nat × Nat)} {q b o : Nat} (r : Nat) (f : Bool) (h1 : (r, q, f) ∈ keep) (h2 : (r, b, o) ∈ loc) (h : LocK keep loc l) : LocK keep loc ((q, b, o) :: l) := fun q' b' o' hq => by
  rcases List.mem_cons.1 hq with he | hq
  · simp only [Prod.mk.injEq] at he
    obtain ⟨rfl, rfl, rfl⟩ := he
    exact ⟨r, f, h1, h2⟩
  · exact h q' b' o' hq
theorem alT_cons {l : List (Nat × Sm)} {al : List (Nat × Nat × Nat)} {ta : List (Nat × Bool)} {τ : TS} {r s q : Nat} (b o : Nat) (h1 : (r, b, o) ∈ τ.loc) (h2 : (q, b, o + s) ∈ τ.loc) (h : AlT (lookS l al ta) τ) : AlT (lookS l ((r, s, q) :: al) ta) τ := fun r' s' q' hx => by
  rcases List.mem_cons.1 hx with he | hx
  · simp only [Prod.mk.injEq] at he
    obtain ⟨rfl, rfl, rfl⟩ := he
    exact ⟨b, o, h1, h2⟩
  · exact h r' s' q' hx

theorem four_of {α : Type} {a b c d : α} {j : Nat} {x : α} (h : [a, b, c, d][j]? = some x) : x = a ∧ j = 0 ∨ x = b ∧ j = 1 ∨ x = c ∧ j = 2 ∨ x = d ∧ j = 3 := by
  cases j with
  | zero => simp only [List.getElem?_cons_zero, Option.some.injEq] at h; exact .inl ⟨h.symm, rfl⟩
  | succ j =>
    rcases three_of (show [b, c, d][j]? = some x from h) with ⟨h1, h2⟩ | ⟨h1, h2⟩ | ⟨h1, h2⟩
    · exact .inr (.inl ⟨h1, by omega⟩)
    · exact .inr (.inr (.inl ⟨h1, by omega⟩))
    · exact .inr (.inr (.inr ⟨h1, by omega⟩))
/-- A call that makes a list, from form to form. -/
theorem tril_gain {ops : Array Oper} {rest : List Oper} {o : Oper} {c : Call} {f : FuncId} {fn : Func} {code : Code} {dst : Nat} {τ : TS} {m d h' : Nat} {us : List L4} {vs : List Value}
    {live : List (Nat × Value)} {ks : Kept} {loc : List (Nat × Nat × Nat)} {K : TS → Prop}
    (ho : o.op = .call c) (hdst : o.dst = some dst) (hc : c.callee = .value (.func f)) (hw : ∀ g, wantedS ops o (fillT g 0 τ.tm) = true) (hops : ∀ x ∈ c.args, opdOK x = true)
    (hf : Try.prog.funcs[f]? = some fn) (hname : (fn.name == "runtime.NumGoroutine") = false) (hb : fn.body = some code) (hvs : ∀ g, c.args.toList.map (evS (fillT g 0 τ.tm)) = vs) (hok : okL us)
    (H : ∀ w0 W g T ρ a w, RSim w0 W ρ (τ.fill g T) a w → LocOK ρ τ.hp τ.loc → Calls Try.prog f (vs.map (ren ρ)).toArray w (MadeR us w)) (hd : τ.hp[d]? = some none) (hnt : dst < τ.tm.length)
    (hlive : ∀ p ∈ live, p.1 ≠ dst ∧ ∃ u, (∀ g, (fillT g 0 τ.tm)[p.1]? = some u) ∧ ren (piOf m ((d, h', false) :: keepOf ks)) u = p.2)
    (hks : ∀ k ∈ ks, τ.hp[k.1]? = some (some k.2.2.2) ∧ (k.2.2.1 = false → Flat k.2.2.2.2) ∧ k.1 ≠ d) (hk : keepOK m ((d, h', false) :: keepOf ks) = true)
    (hloc : ∀ q b o, (q, b, o) ∈ loc → ∃ r f, (r, q, f) ∈ keepOf ks ∧ (r, b, o) ∈ τ.loc)
    (hK : ∀ c sp, (flatL us ++ sp).length = c * 4 → us.length ≤ c → Flat sp → TriL Try.prog ops rest ⟨mkT τ.tm.length ((dst, slc h' us.length c) :: live), mkT m ((h', true, flatL us ++ sp) :: rgOf m ((d, h', false) :: keepOf ks) ks), loc⟩ K) :
    TriL Try.prog ops (o :: rest) τ K := by
  refine tril_call (vs := vs) (K0 := fun τ' => ∃ c sp, (flatL us ++ sp).length = c * 4 ∧ us.length ≤ c ∧ Flat sp ∧ τ' = ⟨mkT τ.tm.length ((dst, slc h' us.length c) :: live), mkT m ((h', true, flatL us ++ sp) :: rgOf m ((d, h', false) :: keepOf ks) ks), loc⟩)
    ho hc hw hops hf hname hb hvs ?_ ?_
  · intro w0 W g T ρ a w hs hl
    refine (H w0 W g T ρ a w hs hl).mono ?_
    rintro e w' ⟨hfr, b, o', c, sp, rfl, h1, h2, h3, h4, h5, h6, h7⟩
    have hcs : ∀ v ∈ flatL us ++ sp, ok0 [] v := by
      intro v hv
      rcases List.mem_append.1 hv with hv | hv
      · exact flatL_ok0 hok _ v hv
      · exact h5 v hv
    have hg := rsim_gain hs hfr (get_append hd (T := T)) hcs h1 h6 h7 o.dst us.length c
    refine ⟨_, _, rfl, ⟨c, sp, h2, h3, h4, rfl⟩, ?_⟩
    have hform := form_of (m := m) (ks := (d, h', false, true, flatL us ++ sp) :: ks) (sl := (dst, slc h' us.length c) :: live) (loc := loc) hg rfl hk ?_ ?_ ?_
    · rw [hdst] at hform
      have hlen : (putT (τ.fill g T).tm (some dst) (.slice (some ⟨d, 0, none⟩) us.length c)).length = τ.tm.length := by simp [putT, TS.fill, fillT_length]
      simp only at hform
      rw [hlen] at hform
      rw [hdst]
      exact hform
    · intro p hp
      rw [hdst]
      rcases List.mem_cons.1 hp with rfl | hp
      · refine ⟨slc d us.length c, ?_, ?_⟩
        · simp only [putT]
          rw [List.getElem?_set_self (by simp [TS.fill, fillT_length, hnt])]
        · simp [ren, ren1, ren0, rena, piOf, look2]
      · obtain ⟨h8, u, h9, h10⟩ := hlive p hp
        refine ⟨u, ?_, h10⟩
        simp only [putT]
        rw [List.getElem?_set_ne (Ne.symm h8)]
        exact h9 g
    · intro k hkm
      rcases List.mem_cons.1 hkm with rfl | hkm
      · exact ⟨get_set_same (get_append hd), fun _ => flat_app (flatL_flat _) h4⟩
      · obtain ⟨h8, h9, h10⟩ := hks k hkm
        exact ⟨by rw [get_set_other h10]; exact get_append h8, h9⟩
    · intro q b' o'' hq
      obtain ⟨r', f', h8, h9⟩ := hloc q b' o'' hq
      obtain ⟨h11, h12⟩ := hl _ _ _ h9
      have hne : r' ≠ d := fun e => by subst e; obtain ⟨y, hy⟩ := h12; rw [hd] at hy; cases hy
      exact ⟨r', f', List.mem_cons_of_mem _ h8, by rw [upd_other ρ _ hne, h11]⟩
  · rintro τ' ⟨c, sp, h1, h2, h3, rfl⟩
    exact hK c sp h1 h2 h3

/-- What is made, read off the form behind a function's way. -/
theorem madeR_of {fn : Func} {nt m h : Nat} {us : List L4} {sp : List Value} {sl : List (Nat × Value)} {rg : List (Nat × Bool × List Value)} {loc : List (Nat × Nat × Nat)} {k : Nat} {w w' : World} {a' : Act} (hpos : 0 < us.length)
    (hv : ∀ (g : Nat → Value) (T : Hp), vres Try.prog fn ((⟨mkT nt sl, mkT m ((h, true, flatL us ++ sp) :: rg), loc⟩ : TS).fill g T) = some (slc h us.length k))
    (hr : ∀ T : Hp, (mkT m ((h, true, flatL us ++ sp) :: rg) ++ T)[h]? = some (some (true, flatL us ++ sp))) (h1 : (flatL us ++ sp).length = k * 4) (h2 : us.length ≤ k) (h3 : Flat sp)
    (hs : TSim w (fun _ _ => False) ⟨mkT nt sl, mkT m ((h, true, flatL us ++ sp) :: rg), loc⟩ a' w') : ∃ v, (results fn a'.tmps).run Try.prog w' = .ok v w' ∧ MadeR us w (.returned v) w' := by
  obtain ⟨g, T, ρ, k1, k2, k3, k4⟩ := results_of hv hs
  have hr' := hr T
  have hlen : 0 < (flatL us ++ sp).length := by rw [List.length_append, flatL_length]; omega
  have fall : Flat (flatL us ++ sp) := flat_app (flatL_flat _) h3
  refine ⟨_, k4, k1.inv.fr, (ρ h).1, (ρ h).2, k, sp, ?_, ?_, h1, h2, h3, fun v hv => flat_ok0 (h3 v hv) (k1.ok.hp h _ _ hr' v (by simp [hv])), fun i v hi => ?_, fun i hi => (k1.inv.own h _ hr' i hi).1⟩
  · simp [ren, ren1, ren0, rena]
  · rcases (k1.inv.own h _ hr' 0 hlen).2 with h' | h'
    · exact h'
    · exact h'.elim
  · have := k1.inv.cell h true _ hr' i v hi
    rwa [fall v (List.mem_of_getElem? hi)] at this

/-- What such a call leaves: the row of the first has the new numbers. -/
def WroteR (v : Value) (zb zo : Nat) (us : List L4) (w : World) : Ending → World → Prop := fun e w' =>
  e = .returned v ∧ Fr (fun k j => k = zb ∧ ∃ i, i < (flatL us).length ∧ j = zo + i) w w' ∧ Holds w' ⟨zb, zo, none⟩ (flatL us)
end Go.Proofs.Ytbbifiogcpcpfaa
