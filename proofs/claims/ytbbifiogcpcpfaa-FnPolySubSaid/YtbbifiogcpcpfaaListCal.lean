/-
  impl.madeList, impl.toldList: as they are called, and what such a call leaves.
-/
import Derived.Test.YtbbifiogcpcpfaaListSame
import Derived.Test.YtbbifiogcpcpfaaVmCal
namespace Go.Proofs.Ytbbifiogcpcpfaa
open Vm

abbrev ptr (r : Nat) : Value := .pointer (some ⟨r, 0, none⟩)
theorem three_of {α : Type} {a b c : α} {j : Nat} {x : α} (h : [a, b, c][j]? = some x) : x = a ∧ j = 0 ∨ x = b ∧ j = 1 ∨ x = c ∧ j = 2 := by
  cases j with
  | zero => simp only [List.getElem?_cons_zero, Option.some.injEq] at h; exact .inl ⟨h.symm, rfl⟩
  | succ j => cases j with
    | zero => simp only [List.getElem?_cons_succ, List.getElem?_cons_zero, Option.some.injEq] at h; exact .inr (.inl ⟨h.symm, rfl⟩)
    | succ j => cases j with
      | zero => simp only [List.getElem?_cons_succ, List.getElem?_cons_zero, Option.some.injEq] at h; exact .inr (.inr ⟨h.symm, rfl⟩)
      | succ j => simp at h
/-- What the making of a list leaves: a new row with its numbers. -/
def MadeR (xs : List L4) (w : World) : Ending → World → Prop := fun e w' => Fr (fun _ _ => False) w w' ∧ ∃ b o c sp, e = .returned (.slice (some ⟨b, o, none⟩) xs.length c) ∧ w.heap.size ≤ b ∧
  (flatL xs ++ sp).length = c * 4 ∧ xs.length ≤ c ∧ Flat sp ∧ (∀ v ∈ sp, ok0 [] v) ∧ Holds w' ⟨b, o, none⟩ (flatL xs ++ sp) ∧ Free w' ⟨b, o, none⟩ (flatL xs ++ sp).length

theorem made_of {f : FuncId} {fn : Func} {c : Code} {xs : List L4} {cap b o : Nat} {w : World} (hf : Try.prog.funcs[f]? = some fn) (hb : fn.body = some c) (hnt : fn.ntmps = 18) (hpos : 0 < xs.length) (hok : okL xs) (h : ListIn w b o xs)
    (ht : Tri Try.prog c ⟨some (slc 18 xs.length cap) :: List.replicate 17 none, List.replicate 18 none ++ [some (false, flatL xs)], [(18, b, o)]⟩ fun e τ' => e = .ret ∧ ∃ c sp, (flatL xs ++ sp).length = c * 4 ∧ xs.length ≤ c ∧ Flat sp ∧ τ' = ⟨mkT 18 [(2, slc 19 xs.length c)], mkT 21 [(19, true, flatL xs ++ sp)], []⟩)
    (hv : ∀ (ys : List Value) (n c : Nat) (g : Nat → Value) (T : Hp), vres Try.prog fn ((⟨mkT 18 [(2, slc 19 n c)], mkT 21 [(19, true, ys)], []⟩ : TS).fill g T) = some (slc 19 n c)) :
    Calls Try.prog f #[.slice (some ⟨b, o, none⟩) xs.length cap] w (MadeR xs w) := by
  have h0 := start_L (nt := 18) (n := xs.length) (ca := cap) hok h
  refine calls_of_tri hf hb (args := #[.slice (some ⟨b, o, none⟩) xs.length cap]) (by rw [hnt]; exact h0) ht ?_
  rintro e τ' ⟨rfl, k, sp, h1, h2, h3, rfl⟩
  refine ⟨by simp, fun a' w' hs => ?_⟩
  obtain ⟨g, T, ρ, k1, k2, k3, k4⟩ := results_of (hv (flatL xs ++ sp) xs.length k) hs
  have hr : ((⟨mkT 18 [(2, slc 19 xs.length k)], mkT 21 [(19, true, flatL xs ++ sp)], []⟩ : TS).fill g T).hp[19]? = some (some (true, flatL xs ++ sp)) := rfl
  have hlen : 0 < (flatL xs ++ sp).length := by rw [List.length_append, flatL_length]; omega
  have fall : Flat (flatL xs ++ sp) := flat_app (flatL_flat _) h3
  refine ⟨_, k4, k1.inv.fr, (ρ 19).1, (ρ 19).2, k, sp, ?_, ?_, h1, h2, h3, fun v hv => flat_ok0 (h3 v hv) (k1.ok.hp 19 _ _ hr v (by simp [hv])), fun i v hi => ?_, fun i hi => (k1.inv.own 19 _ hr i hi).1⟩
  · simp [ren, ren1, ren0, rena]
  · rcases (k1.inv.own 19 _ hr 0 hlen).2 with h' | h'
    · exact h'
    · exact h'.elim
  · have := k1.inv.cell 19 true _ hr i v hi
    rwa [fall v (List.mem_of_getElem? hi)] at this
theorem mL_calls {xs : List L4} (hok : okL xs) (hpos : 0 < xs.length) (hn : xs.length ≤ 4398046511104) (cap b o : Nat) (w : World) (h : ListIn w b o xs) :
    Calls Try.prog 47 #[.slice (some ⟨b, o, none⟩) xs.length cap] w (MadeR xs w) :=
  made_of (fn := Try.f47) (c := cmL) (by kernel_rfl) (by kernel_rfl) (by kernel_rfl) hpos hok h (mL_tri xs cap b o hn hpos) fun _ _ _ _ _ => by kernel_rfl
theorem tL_calls {xs : List L4} (hok : okL xs) (hpos : 0 < xs.length) (hn : xs.length ≤ 4398046511104) (cap b o : Nat) (w : World) (h : ListIn w b o xs) :
    Calls Try.prog 51 #[.slice (some ⟨b, o, none⟩) xs.length cap] w (MadeR xs w) :=
  made_of (fn := Try.f51) (c := ctL) (by kernel_rfl) (by kernel_rfl) (by kernel_rfl) hpos hok h (tL_tri xs cap b o hn hpos) fun _ _ _ _ _ => by kernel_rfl

/-- A region's numbers, as they lie in the world. -/
theorem listIn_of {w0 w : World} {W : Nat → Nat → Prop} {ρ : Emb} {hp : Hp} (h : Inv w0 W ρ hp w) {r : Nat} {f : Bool} {xs : List L4} {ex : List Value} (hr : hp[r]? = some (some (f, flatL xs ++ ex))) : ListIn w (ρ r).1 (ρ r).2 xs := by
  intro i v hi
  have hlt : i < (flatL xs).length := by
    rcases Nat.lt_or_ge i (flatL xs).length with h' | h'
    · exact h'
    · rw [List.getElem?_eq_none h'] at hi; cases hi
  have := h.cell r f _ hr i v (by rw [List.getElem?_append_left hlt]; exact hi)
  rwa [flatL_flat xs v (List.mem_of_getElem? hi)] at this

/-- **The making of a list, from form to form.** -/
theorem tril_made {ops : Array Oper} {rest : List Oper} {o : Oper} {f : FuncId} {fn : Func} {code : Code} {x : Operand} {ats : Array TypeId} {dst : Nat} {τ : TS} {m r cap d h' : Nat} {fl : Bool} {xs : List L4} {ex : List Value}
    {live : List (Nat × Value)} {ks : Kept} {loc : List (Nat × Nat × Nat)} {K : TS → Prop}
    (ho : o.op = .call { callee := .value (.func f), args := #[x], argTypes := ats }) (hdst : o.dst = some dst) (hw : ∀ g, wantedS ops o (fillT g 0 τ.tm) = true) (hx : opdOK x = true)
    (hf : Try.prog.funcs[f]? = some fn) (hname : (fn.name == "runtime.NumGoroutine") = false) (hb : fn.body = some code) (hvx : ∀ g, evS (fillT g 0 τ.tm) x = slc r xs.length cap) (hr : τ.hp[r]? = some (some (fl, flatL xs ++ ex))) (hok : okL xs)
    (hmk : ∀ cap b o w, ListIn w b o xs → Calls Try.prog f #[.slice (some ⟨b, o, none⟩) xs.length cap] w (MadeR xs w)) (hd : τ.hp[d]? = some none) (hnt : dst < τ.tm.length)
    (hlive : ∀ p ∈ live, p.1 ≠ dst ∧ ∃ u, (∀ g, (fillT g 0 τ.tm)[p.1]? = some u) ∧ ren (piOf m ((d, h', false) :: keepOf ks)) u = p.2)
    (hks : ∀ k ∈ ks, τ.hp[k.1]? = some (some k.2.2.2) ∧ (k.2.2.1 = false → Flat k.2.2.2.2) ∧ k.1 ≠ d) (hk : keepOK m ((d, h', false) :: keepOf ks) = true)
    (hloc : ∀ q b o, (q, b, o) ∈ loc → ∃ r f, (r, q, f) ∈ keepOf ks ∧ (r, b, o) ∈ τ.loc)
    (hK : ∀ c sp, (flatL xs ++ sp).length = c * 4 → xs.length ≤ c → Flat sp → TriL Try.prog ops rest ⟨mkT τ.tm.length ((dst, slc h' xs.length c) :: live), mkT m ((h', true, flatL xs ++ sp) :: rgOf m ((d, h', false) :: keepOf ks) ks), loc⟩ K) :
    TriL Try.prog ops (o :: rest) τ K := by
  refine tril_call (vs := [slc r xs.length cap]) (K0 := fun τ' => ∃ c sp, (flatL xs ++ sp).length = c * 4 ∧ xs.length ≤ c ∧ Flat sp ∧ τ' = ⟨mkT τ.tm.length ((dst, slc h' xs.length c) :: live), mkT m ((h', true, flatL xs ++ sp) :: rgOf m ((d, h', false) :: keepOf ks) ks), loc⟩)
    ho rfl hw (fun y hy => by simp at hy; subst hy; exact hx) hf hname hb (fun g => by simp [hvx g]) ?_ ?_
  · intro w0 W g T ρ a w hs hl
    have hlist := listIn_of hs.inv (get_append hr (T := T))
    have hcall := hmk cap (ρ r).1 (ρ r).2 w hlist
    rw [show ([slc r xs.length cap].map (ren ρ)).toArray = #[.slice (some ⟨(ρ r).1, (ρ r).2, none⟩) xs.length cap] by simp [ren, ren1, ren0, rena]]
    refine hcall.mono ?_
    rintro e w' ⟨hfr, b, o', c, sp, rfl, h1, h2, h3, h4, h5, h6, h7⟩
    have hcs : ∀ v ∈ flatL xs ++ sp, ok0 [] v := by
      intro v hv
      rcases List.mem_append.1 hv with hv | hv
      · exact flatL_ok0 hok _ v hv
      · exact h5 v hv
    have hg := rsim_gain hs hfr (get_append hd (T := T)) hcs h1 h6 h7 o.dst xs.length c
    refine ⟨_, _, rfl, ⟨c, sp, h2, h3, h4, rfl⟩, ?_⟩
    have hform := form_of (m := m) (ks := (d, h', false, true, flatL xs ++ sp) :: ks) (sl := (dst, slc h' xs.length c) :: live) (loc := loc) hg rfl hk ?_ ?_ ?_
    · rw [hdst] at hform
      have hlen : (putT (τ.fill g T).tm (some dst) (.slice (some ⟨d, 0, none⟩) xs.length c)).length = τ.tm.length := by simp [putT, TS.fill, fillT_length]
      simp only at hform
      rw [hlen] at hform
      rw [hdst]
      exact hform
    · intro p hp
      rw [hdst]
      rcases List.mem_cons.1 hp with rfl | hp
      · refine ⟨slc d xs.length c, ?_, ?_⟩
        · simp only [putT]
          rw [List.getElem?_set_self (by simp [TS.fill, fillT_length, hnt])]
        · simp [ren, ren1, ren0, rena, piOf, look2]
      · obtain ⟨h8, u, h9, h10⟩ := hlive p hp
        refine ⟨u, ?_, h10⟩
        simp only [putT]
        rw [List.getElem?_set_ne (Ne.symm h8)]
        exact h9 g
    · intro k hkm
      rcases List.mem_cons.1 hkm with rfl | hkm
      · exact ⟨get_set_same (get_append hd), fun _ => flat_app (flatL_flat _) h4⟩
      · obtain ⟨h8, h9, h10⟩ := hks k hkm
        exact ⟨by rw [get_set_other h10]; exact get_append h8, h9⟩
    · intro q b' o'' hq
      obtain ⟨r', f', h8, h9⟩ := hloc q b' o'' hq
      obtain ⟨h11, h12⟩ := hl _ _ _ h9
      have hne : r' ≠ d := fun e => by subst e; obtain ⟨y, hy⟩ := h12; rw [hd] at hy; cases hy
      exact ⟨r', f', List.mem_cons_of_mem _ h8, by rw [upd_other ρ _ hne, h11]⟩
  · rintro τ' ⟨c, sp, h1, h2, h3, rfl⟩
    exact hK c sp h1 h2 h3
end Go.Proofs.Ytbbifiogcpcpfaa
