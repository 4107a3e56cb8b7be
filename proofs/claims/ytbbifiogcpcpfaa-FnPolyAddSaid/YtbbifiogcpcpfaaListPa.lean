/-
  impl.PolyAdd, of two lists that have numbers.
-/
import Derived.Test.YtbbifiogcpcpfaaListAdd
namespace Go.Proofs.Ytbbifiogcpcpfaa
open Vm

/-- A cell of a region of the call's own leads to a new row. -/
theorem hung_inv {w0 w w' : World} {W : Nat → Nat → Prop} {ρ : Emb} {hp : Hp} {r d : Nat} {old : Value} (h : Inv w0 W ρ hp w) (hok : okH hp) (hr : hp[r]? = some (some (true, [old]))) (hd : hp[d]? = some none)
    (hfr : Fr (fun k j => k = (ρ r).1 ∧ j = (ρ r).2) w w') {news : List Value} (hcs : ∀ v ∈ news, ok0 [] v) {nb no : Nat} (hb : w.heap.size ≤ nb) (hh : Holds w' ⟨nb, no, none⟩ news) (hf : Free w' ⟨nb, no, none⟩ news.length) {n c : Nat}
    (hc : w'.cell? ⟨(ρ r).1, (ρ r).2, none⟩ = some (.slice (some ⟨nb, no, none⟩) n c)) :
    Inv w0 W (upd ρ d (nb, no)) ((hp.set d (some (true, news))).set r (some (true, [slc d n c]))) w' := by
  have hrd : r ≠ d := fun e => by subst e; rw [hd] at hr; cases hr
  have hr' : (hp.set d (some (true, news)))[r]? = some (some (true, [old])) := by rw [get_set_other hrd]; exact hr
  have gr : ((hp.set d (some (true, news))).set r (some (true, [slc d n c])))[r]? = some (some (true, [slc d n c])) := get_set_same hr'
  have gd : ((hp.set d (some (true, news))).set r (some (true, [slc d n c])))[d]? = some (some (true, news)) := by rw [get_set_other (Ne.symm hrd)]; exact get_set_same hd
  have go : ∀ k, k ≠ r → k ≠ d → ((hp.set d (some (true, news))).set r (some (true, [slc d n c])))[k]? = hp[k]? := fun k h1 h2 => by rw [get_set_other h1, get_set_other h2]
  generalize (hp.set d (some (true, news))).set r (some (true, [slc d n c])) = hp' at *
  have hlt : ∀ {k : Nat} {f : Bool} {ds : List Value} {i : Nat}, hp[k]? = some (some (f, ds)) → i < ds.length → (ρ k).1 < w.heap.size := fun hk hi => World.block_lt_of_cell? _ _ (h.cell _ _ _ hk _ _ (List.getElem?_eq_getElem hi))
  have hag := agree_upd ρ (nb, no) (not_pres hd)
  have rlt := hlt hr (i := 0) (by simp)
  refine ⟨fun k f ds hk i v hi => ?_, fun k ds hk i hi => ?_, fun k k' f ds f' ds' hne hk hk' hbb i i' hi hi' => ?_, ?_⟩
  · by_cases k1 : k = r
    · subst k1; rw [gr] at hk; cases hk
      rw [upd_other _ _ hrd]
      cases i with
      | succ i => simp at hi
      | zero =>
        simp only [List.getElem?_cons_zero, Option.some.injEq] at hi
        subst hi
        rw [Nat.add_zero, hc]
        simp [ren0, rena, upd_same]
    by_cases k2 : k = d
    · subst k2; rw [gd] at hk; cases hk
      rw [upd_same, ok0_nil_ren (hcs v (List.mem_of_getElem? hi))]
      exact hh i v hi
    rw [go k k1 k2] at hk
    rw [upd_other _ _ k2, ren0_agree hag (hok k f ds hk v (List.mem_of_getElem? hi))]
    refine hfr.cell (h.cell k f ds hk i v hi) ?_
    rintro ⟨e1, e2⟩
    rcases h.dis k r f ds true [old] k1 hk hr (by simp) i 0 (len_of hi) (by simp) with h3 | h3
    · exact h3 e1
    · exact h3 e2
  · by_cases k1 : k = r
    · subst k1; rw [gr] at hk; cases hk
      rw [upd_other _ _ hrd]
      have : i = 0 := by simp at hi; omega
      subst this
      obtain ⟨h1, h2⟩ := h.own _ _ hr 0 (by simp)
      exact ⟨by rw [hfr.frozen (hlt hr (i := 0) (by simp))]; exact h1, h2⟩
    by_cases k2 : k = d
    · subst k2; rw [gd] at hk; cases hk
      rw [upd_same]
      exact ⟨hf i hi, .inl (Nat.le_trans h.fr.size hb)⟩
    rw [go k k1 k2] at hk
    rw [upd_other _ _ k2]
    obtain ⟨h1, h2⟩ := h.own _ _ hk i hi
    exact ⟨by rw [hfr.frozen (hlt hk hi)]; exact h1, h2⟩
  · -- what lies apart
    have old' : ∀ {k : Nat} {f : Bool} {ds : List Value} {i : Nat}, k ≠ d → hp'[k]? = some (some (f, ds)) → i < ds.length → ∃ ds0, hp[k]? = some (some (f, ds0)) ∧ i < ds0.length ∧ upd ρ d (nb, no) k = ρ k := by
      intro k f ds i k2 hk hi
      by_cases k1 : k = r
      · subst k1; rw [gr] at hk; cases hk
        exact ⟨[old], hr, by simpa using hi, upd_other _ _ k2⟩
      · rw [go k k1 k2] at hk
        exact ⟨ds, hk, hi, upd_other _ _ k2⟩
    by_cases k2 : k = d
    · have k2' : k' ≠ d := fun e => hne (k2.trans e.symm)
      obtain ⟨ds0, a1, a2, a3⟩ := old' k2' hk' hi'
      subst k2
      rw [upd_same, a3]
      left
      have := hlt a1 a2
      simp only
      omega
    · obtain ⟨ds0, a1, a2, a3⟩ := old' k2 hk hi
      by_cases k2' : k' = d
      · subst k2'
        rw [upd_same, a3]
        left
        have := hlt a1 a2
        simp only
        omega
      · obtain ⟨ds1, b1, b2, b3⟩ := old' k2' hk' hi'
        rw [a3, b3]
        exact h.dis k k' f ds0 f' ds1 hne a1 b1 hbb i i' a2 b2
  · refine h.fr.through hfr fun k j hk => ?_
    obtain ⟨rfl, rfl⟩ := hk
    exact (h.own _ _ hr 0 (by simp)).2

/-- A call that hangs a new row at a cell of a region of the call's own. -/
theorem steps_hcall {o : Oper} {c : Call} {f : FuncId} {fn : Func} {code : Code} {τ : TS} {vs : List Value} {v old : Value} {r d : Nat} {us : List L4} {ks : Kept} (ho : o.op = .call c) (hc : c.callee = .value (.func f))
    (hops : ∀ x ∈ c.args, opdOK x = true) (hf : Try.prog.funcs[f]? = some fn) (hname : (fn.name == "runtime.NumGoroutine") = false) (hb : fn.body = some code) (hvs : ∀ g, c.args.toList.map (evS (fillT g 0 τ.tm)) = vs)
    (hr : τ.hp[r]? = some (some (true, [old]))) (hd : τ.hp[d]? = some none) (hus : okL us) (hv : ∀ T, ok2 (τ.hp ++ T) v)
    (H : ∀ w0 W g T ρ a w, RSim w0 W ρ (τ.fill g T) a w → Calls Try.prog f (vs.map (ren ρ)).toArray w (HungR (ren ρ v) (ρ r).1 (ρ r).2 us w))
    (hks : ∀ k ∈ ks, (k.1 = r ∧ k.2.2.2 = (true, [slc d us.length us.length])) ∨ (k.1 = d ∧ k.2.2.2 = (true, flatL us)) ∨ (k.1 ≠ r ∧ k.1 ≠ d ∧ τ.hp[k.1]? = some (some k.2.2.2))) : StepsTo Try.prog o τ v ks := by
  intro w0 W g T ρ a w hs _ Kt Q hK
  have hr' : (τ.fill g T).hp[r]? = some (some (true, [old])) := get_append hr
  have hd' : (τ.fill g T).hp[d]? = some none := get_append hd
  have hrd : r ≠ d := fun e => by subst e; rw [hd] at hr; cases hr
  have hex : execOp a.eval o = callFunc f (vs.map (ren ρ)).toArray := by
    unfold execOp
    rw [ho]
    have e1 : c.args.map a.eval = (vs.map (ren ρ)).toArray := by
      apply Array.ext'
      rw [← hvs g]
      simp only [Array.toList_map, List.map_map]
      exact List.map_congr_left fun x hx => hs.tm.eval [] (hops x (by simpa using hx))
    simp only [resolve, hc, e1, Act.eval, Deferred.ofValue, Array.empty_append]
    rfl
  unfold Oper.wp
  rw [hex]
  refine calld_of hf hname hb (R := fun u w' => HungR (ren ρ v) (ρ r).1 (ρ r).2 us w (.returned u) w') ((H w0 W g T ρ a w hs).mono fun e w' h => ⟨_, h.1, rfl, h.2⟩) o a _ _ ?_
  rintro u w' ⟨hu, hfr, nb, no, h1, h2, h3, h4⟩
  obtain rfl : u = ren ρ v := by simpa using hu
  have hcs : ∀ x ∈ flatL us, ok0 [] x := flatL_ok0 hus _
  have hI := hung_inv hs.inv hs.ok.hp hr' hd' hfr hcs h1 h3 h4 h2
  have hm : mono (τ.fill g T).hp (((τ.fill g T).hp.set d (some (true, flatL us))).set r (some (true, [slc d us.length us.length]))) := mono_set.trans mono_set
  have hag := agree_upd ρ (nb, no) (not_pres hd')
  have gr : (((τ.fill g T).hp.set d (some (true, flatL us))).set r (some (true, [slc d us.length us.length])))[r]? = some (some (true, [slc d us.length us.length])) := get_set_same (by rw [get_set_other hrd]; exact hr')
  have gd : (((τ.fill g T).hp.set d (some (true, flatL us))).set r (some (true, [slc d us.length us.length])))[d]? = some (some (true, flatL us)) := by rw [get_set_other (Ne.symm hrd)]; exact get_set_same hd'
  have okv : ok2 (τ.fill g T).hp v := hv T
  have e2 : ren (upd ρ d (nb, no)) v = ren ρ v := ren_agree hag okv
  refine hK (upd ρ d (nb, no)) _ _ w' hag ⟨⟨fun x hx => ?_, fun k fl ds hk x hx => ?_⟩, ?_, hI⟩ fun k hk => ?_
  · rcases putT_mem hx with hx | rfl
    · exact (hs.ok.tm x hx).mono hm
    · exact okv.mono hm
  · simp only at hk
    by_cases k1 : k = r
    · subst k1; rw [gr] at hk; cases hk
      simp only [List.mem_cons, List.not_mem_nil, or_false] at hx
      subst hx
      exact ⟨rfl, ⟨_, gd⟩⟩
    by_cases k2 : k = d
    · subst k2; rw [gd] at hk; cases hk
      exact (hcs x hx).mono (nil_mono _)
    rw [get_set_other k1, get_set_other k2] at hk
    exact (hs.ok.hp k fl ds hk x hx).mono hm
  · have := (hs.tm.agree hag hs.ok.tm).put o.dst v
    rwa [e2] at this
  · rcases hks k hk with ⟨h5, h6⟩ | ⟨h5, h6⟩ | ⟨h5, h6, h7⟩
    · rw [h5, h6]; exact gr
    · rw [h5, h6]; exact gd
    · rw [get_set_other h5, get_set_other h6]; exact get_append h7

noncomputable abbrev cPa : Code := bodyOf Try.f26
noncomputable abbrev oPa : Array Oper := opsOf (cAt cPa [1, 1, 0])
theorem pa_op1 : opAt oPa 1 = some ⟨some 7, .call { callee := .value (.func 47), args := #[.tmp 6], argTypes := #[34] }⟩ := by kernel_rfl
theorem pa_op3 : opAt oPa 3 = some ⟨some 9, .call { callee := .value (.func 47), args := #[.tmp 8], argTypes := #[34] }⟩ := by kernel_rfl
noncomputable abbrev paCall : Call := match opAt oPa 4 with
  | some (_, .call c) => c
  | _ => default
theorem pa_op4 : opAt oPa 4 = some ⟨some 10, .call paCall⟩ := by kernel_rfl
theorem pa_c4 : paCall.callee = .value (.func 53) := by kernel_rfl
theorem pa_a4 : paCall.args = #[.tmp 5, .tmp 7, .tmp 9] := by kernel_rfl
noncomputable abbrev paTold : Call := match opAt oPa 7 with
  | some (_, .call c) => c
  | _ => default
theorem pa_op7 : opAt oPa 7 = some ⟨some 13, .call paTold⟩ := by kernel_rfl
theorem pa_c7 : paTold.callee = .value (.func 51) := by kernel_rfl
theorem pa_a7 : paTold.args = #[.tmp 12] := by kernel_rfl
abbrev rPa (xs ys : List Value) : List (Nat × Bool × List Value) := [(5, true, [nilS]), (14, false, xs), (15, false, ys)]
abbrev kPa : Keep := [(5, 5, false), (14, 14, false), (15, 15, false)]
section
variable (xs ys us : List Value) (n m c ca cb b o b' o' : Nat) (g : Nat → Value) (T : Hp)
def paS : TS := ⟨[slc 14 n ca, slc 15 m cb].map some ++ List.replicate (14 - 2) none, hpA 14 [(b, o, false, xs), (b', o', false, ys)], [(14, b, o), (15, b', o')]⟩
theorem pa_0 : runV Try.prog (lookS [] [] []) 1 (cAt cPa [0]) ((paS xs ys n m ca cb b o b' o').fill g T) 14 22 [(14, 14, false), (15, 15, false)] [0, 1] = some ⟨.normal, [(0, slc 14 n ca), (1, slc 15 m cb)], [(14, false, xs), (15, false, ys)], True⟩ := by kernel_rfl
theorem pa_1 : runV Try.prog (lookS [] [] []) 1 (cAt cPa [1, 0]) ((⟨mkT 14 [(0, slc 14 n ca), (1, slc 15 m cb)], mkT 22 [(14, false, xs), (15, false, ys)], []⟩ : TS).fill g T) 14 22 kPa [5, 0, 1] = some ⟨.normal, [(5, ptr 5), (0, slc 14 n ca), (1, slc 15 m cb)], rPa xs ys, True⟩ := by kernel_rfl
theorem pa_2 : runLV Try.prog (lookS [] [] []) oPa (oPa.toList.take 1) ((⟨mkT 14 [(5, ptr 5), (0, slc 14 n ca), (1, slc 15 m cb)], mkT 22 (rPa xs ys), []⟩ : TS).fill g T) 14 22 kPa [6, 5, 1] = some ⟨.normal, [(6, slc 14 n ca), (5, ptr 5), (1, slc 15 m cb)], rPa xs ys, True⟩ := by kernel_rfl
theorem pa_3 : runLV Try.prog (lookS [] [] []) oPa ((oPa.toList.drop 2).take 1) ((⟨mkT 14 [(7, slc 16 n c), (5, ptr 5), (1, slc 15 m cb)], mkT 22 [(16, true, us), (5, true, [nilS]), (15, false, ys)], []⟩ : TS).fill g T) 14 22 [(16, 16, false), (5, 5, false), (15, 15, false)] [8, 7, 5] =
    some ⟨.normal, [(8, slc 15 m cb), (7, slc 16 n c), (5, ptr 5)], [(16, true, us), (5, true, [nilS]), (15, false, ys)], True⟩ := by kernel_rfl
theorem pa_4 : runLV Try.prog (lookS [] [] []) oPa ((oPa.toList.drop 5).take 2) ((⟨mkT 14 [(10, ptr 5)], mkT 22 [(5, true, [slc 18 n n]), (18, true, us)], []⟩ : TS).fill g T) 14 22 [(18, 18, false)] [12] =
    some ⟨.normal, [(12, slc 18 n n)], [(18, true, us)], True⟩ := by kernel_rfl
theorem pa_5 : runLV Try.prog (lookS [] [] []) oPa (oPa.toList.drop 8) ((⟨mkT 14 [(13, slc 19 n c)], mkT 22 [(19, true, us)], []⟩ : TS).fill g T) 14 22 [(19, 19, false)] [4] =
    some ⟨.normal, [(4, slc 19 n c)], [(19, true, us)], True⟩ := by kernel_rfl
theorem pa_6 : runV Try.prog (lookS [] [] []) 1 (cAt cPa [1, 1, 1]) ((⟨mkT 14 [(4, slc 19 n c)], mkT 22 [(19, true, us)], []⟩ : TS).fill g T) 14 22 [(19, 19, false)] [4] =
    some ⟨.ret, [(4, slc 19 n c)], [(19, true, us)], True⟩ := by kernel_rfl
theorem pa_vres : vres Try.prog Try.f26 ((⟨mkT 14 [(4, slc 19 n c)], mkT 22 [(19, true, us)], []⟩ : TS).fill g T) = some (slc 19 n c) := by kernel_rfl
end

theorem pa_tri {xs ys : List L4} (hx : okL xs) (hy : okL ys) (hpx : 0 < xs.length) (hpy : 0 < ys.length) (hnx : xs.length ≤ 16777216) (hny : ys.length ≤ 16777216) (hφ : ∀ x ∈ xs, ∀ y ∈ ys, lowm rL x y ∧ lowm rL y x) (ca cb b o b' o' : Nat) :
    Tri Try.prog cPa (paS (flatL xs) (flatL ys) xs.length ys.length ca cb b o b' o') fun e τ' => e = .ret ∧ ∃ c sp, (flatL (sumL (addm rL) xs ys) ++ sp).length = c * 4 ∧ (sumL (addm rL) xs ys).length ≤ c ∧ Flat sp ∧ τ' = ⟨mkT 14 [(4, slc 19 (sumL (addm rL) xs ys).length c)], mkT 22 [(19, true, flatL (sumL (addm rL) xs ys) ++ sp)], []⟩ := by
  have ok : ∀ {al ta}, EnvOK Try.prog (lookS [] al ta) := lookS_ok env_nil
  have fx := flatL_flat xs
  have fy := flatL_flat ys
  have fu := flatL_flat (sumL (addm rL) xs ys)
  have hok : okL (sumL (addm rL) xs ys) := sumL_ok (addm_ok rL) hx hy
  have hpos : 0 < (sumL (addm rL) xs ys).length := by rw [sumL_length]; omega
  have hlen : (sumL (addm rL) xs ys).length ≤ 16777216 := by rw [sumL_length]; omega
  refine tri_next (τ1 := ⟨mkT 14 [(0, slc 14 xs.length ca), (1, slc 15 ys.length cb)], mkT 22 [(14, false, flatL xs), (15, false, flatL ys)], []⟩) (by kernel_rfl) (tri_run ok follows (pa_0 _ _ _ _ ca cb b o b' o') (by decide) trivial (alT_nil _ _ _) ⟨fx, fy, trivial⟩ (locK_nil _ _) ⟨rfl, rfl⟩) ?_
  refine tri_next (τ1 := ⟨mkT 14 [(5, ptr 5), (0, slc 14 xs.length ca), (1, slc 15 ys.length cb)], mkT 22 (rPa (flatL xs) (flatL ys)), []⟩) (by kernel_rfl) (tri_run ok follows (pa_1 _ _ _ _ ca cb) (by decide) trivial (alT_nil _ _ _) ⟨flat_nil, fx, fy, trivial⟩ (locK_nil _ _) ⟨rfl, rfl⟩) ?_
  refine tri_seq' (K1 := fun e τ' => e = .normal ∧ ∃ c sp, (flatL (sumL (addm rL) xs ys) ++ sp).length = c * 4 ∧ (sumL (addm rL) xs ys).length ≤ c ∧ Flat sp ∧ τ' = ⟨mkT 14 [(4, slc 19 (sumL (addm rL) xs ys).length c)], mkT 22 [(19, true, flatL (sumL (addm rL) xs ys) ++ sp)], []⟩) (by kernel_rfl) ?_ ?_ (fun _ _ he h => absurd h.1 he)
  · refine tri_region' (by kernel_rfl) ?_
    show TriL _ oPa oPa.toList _ _
    rw [← List.take_append_drop 1 oPa.toList]
    refine tril_run ok (pa_2 _ _ _ _ ca cb) (by decide) trivial (alT_nil _ _ _) ⟨flat_nil, fx, fy, trivial⟩ (locK_nil _ _) ?_
    obtain ⟨o1, g1, d1, p1, e1⟩ := ops_drop pa_op1
    rw [e1]
    refine tril_made (f := 47) (fn := Try.f47) (code := cmL) (dst := 7) (m := 22) (r := 14) (cap := ca) (d := 7) (h' := 16) (fl := false) (xs := xs) (ex := []) (live := [(5, ptr 5), (1, slc 15 ys.length cb)])
      (ks := [(5, 5, false, true, [nilS]), (15, 15, false, false, flatL ys)]) (loc := []) p1 d1
      (fun g => by simp only [wantedS, g1]) rfl (by kernel_rfl) (by kernel_rfl) (by kernel_rfl) (fun g => rfl) (by rw [List.append_nil]; rfl) hx (mL_calls hx hpx (by omega)) rfl (by rw [mkT_length]; decide) (fun p hp => by
        simp only [List.mem_cons, List.not_mem_nil, or_false] at hp
        rcases hp with rfl | rfl
        · exact ⟨show (5 : Nat) ≠ 7 by decide, _, fun g => rfl, rfl⟩
        · exact ⟨show (1 : Nat) ≠ 7 by decide, _, fun g => rfl, rfl⟩) (fun k hk => by
        simp only [List.mem_cons, List.not_mem_nil, or_false] at hk
        rcases hk with rfl | rfl
        · exact ⟨rfl, fun _ => flat_nil, show (5 : Nat) ≠ 7 by decide⟩
        · exact ⟨rfl, fun _ => fy, show (15 : Nat) ≠ 7 by decide⟩) rfl (fun q b o h => by simp at h) ?_
    intro c sp h1 h2 fs
    have fa : Flat (flatL xs ++ sp) := flat_app fx fs
    rw [ops_part oPa.toList 2 1 3 rfl]
    refine tril_run ok (pa_3 _ _ _ _ c cb) (by decide) trivial (alT_nil _ _ _) ⟨fa, flat_nil, fy, trivial⟩ (locK_nil _ _) ?_
    obtain ⟨o2, g2, d2, p2, e2⟩ := ops_drop pa_op3
    rw [e2]
    refine tril_made (f := 47) (fn := Try.f47) (code := cmL) (dst := 9) (m := 22) (r := 15) (cap := cb) (d := 9) (h' := 17) (fl := false) (xs := ys) (ex := []) (live := [(7, slc 16 xs.length c), (5, ptr 5)])
      (ks := [(16, 16, false, true, flatL xs ++ sp), (5, 5, false, true, [nilS])]) (loc := []) p2 d2
      (fun g => by simp only [wantedS, g2]) rfl (by kernel_rfl) (by kernel_rfl) (by kernel_rfl) (fun g => rfl) (by rw [List.append_nil]; rfl) hy (mL_calls hy hpy (by omega)) rfl (by rw [mkT_length]; decide) (fun p hp => by
        simp only [List.mem_cons, List.not_mem_nil, or_false] at hp
        rcases hp with rfl | rfl
        · exact ⟨show (7 : Nat) ≠ 9 by decide, _, fun g => rfl, rfl⟩
        · exact ⟨show (5 : Nat) ≠ 9 by decide, _, fun g => rfl, rfl⟩) (fun k hk => by
        simp only [List.mem_cons, List.not_mem_nil, or_false] at hk
        rcases hk with rfl | rfl
        · exact ⟨rfl, fun _ => fa, show (16 : Nat) ≠ 9 by decide⟩
        · exact ⟨rfl, fun _ => flat_nil, show (5 : Nat) ≠ 9 by decide⟩) rfl (fun q b o h => by simp at h) ?_
    intro c' sp' h1' h2' fs'
    obtain ⟨o3, g3, d3, p3, e3⟩ := ops_drop pa_op4
    rw [e3]
    refine tril_step (m := 22) (dst := 10) (v' := ptr 5) (live := []) (ks := [(5, 5, true, true, [slc 10 (sumL (addm rL) xs ys).length (sumL (addm rL) xs ys).length]), (10, 18, false, true, flatL (sumL (addm rL) xs ys))]) (loc := [])
      (steps_hcall (vs := [ptr 5, slc 16 xs.length c, slc 17 ys.length c']) (v := ptr 5) (old := nilS) (r := 5) (d := 10) (us := sumL (addm rL) xs ys) (fn := Try.f53) (code := cAd) p3 pa_c4
        (fun x hx => by
          rw [pa_a4] at hx
          simp at hx
          rcases hx with rfl | rfl | rfl <;> rfl) (by kernel_rfl) (by kernel_rfl) (by kernel_rfl) (fun g => by rw [pa_a4]; rfl) rfl rfl hok (fun T => ⟨rfl, _, rfl⟩) ?_
        (fun k hk => by
          simp only [List.mem_cons, List.not_mem_nil, or_false] at hk
          rcases hk with rfl | rfl
          · exact .inl ⟨rfl, rfl⟩
          · exact .inr (.inl ⟨rfl, rfl⟩))) d3 (fun g => by simp only [wantedS, g3]) (by (repeat rw [mkT_length]); decide) rfl (fun p hp => by simp at hp) (fun k hk => by
          simp only [List.mem_cons, List.not_mem_nil, or_false] at hk
          rcases hk with rfl | rfl
          · exact fun h => absurd h (show ¬ (true = false) by decide)
          · exact fun _ => fu) rfl (fun q b o h => by simp at h) ?_
    · intro w0 W g T ρ a w hs
      have c0 := hs.inv.cell 5 true [nilS] rfl 0 _ rfl
      have l1 := listIn_of hs.inv (r := 16) (f := true) (xs := xs) (ex := sp) rfl
      have l2 := listIn_of hs.inv (r := 17) (f := true) (xs := ys) (ex := sp') rfl
      exact ad_calls hx hy hpx hpy hnx hny hφ (cx := c) (cy := c') c0 (hs.inv.own 5 [nilS] rfl 0 (by simp)).1 l1 l2
        (fun j hj => hs.inv.dis 5 16 true [nilS] true (flatL xs ++ sp) (by decide) rfl rfl rfl 0 j (by simp) (by rw [List.length_append]; omega))
        (fun j hj => hs.inv.dis 5 17 true [nilS] true (flatL ys ++ sp') (by decide) rfl rfl rfl 0 j (by simp) (by rw [List.length_append]; omega))
    rw [ops_part oPa.toList 5 2 7 rfl]
    refine tril_run ok (pa_4 (flatL (sumL (addm rL) xs ys)) (sumL (addm rL) xs ys).length) (by decide) trivial (alT_nil _ _ _) ⟨fu, trivial⟩ (locK_nil _ _) ?_
    obtain ⟨o4, g4, d4, p4, e4⟩ := ops_drop pa_op7
    rw [e4]
    refine tril_gain (f := 51) (fn := Try.f51) (code := ctL) (dst := 13) (m := 22) (d := 13) (h' := 19) (us := sumL (addm rL) xs ys) (vs := [slc 18 (sumL (addm rL) xs ys).length (sumL (addm rL) xs ys).length]) (live := []) (ks := []) (loc := []) p4 d4 pa_c7
      (fun g => by simp only [wantedS, g4]) (fun x hx => by rw [pa_a7] at hx; simp at hx; subst hx; rfl) (by kernel_rfl) (by kernel_rfl) (by kernel_rfl) (fun g => by rw [pa_a7]; rfl) hok ?_ rfl (by rw [mkT_length]; decide) (fun p hp => by simp at hp) (fun k hk => by simp at hk) rfl (fun q b o h => by simp at h) ?_
    · intro w0 W g T ρ a w hs _
      have l0 := listIn_of hs.inv (r := 18) (f := true) (xs := sumL (addm rL) xs ys) (ex := []) (by rw [List.append_nil]; rfl)
      exact tL_calls hok hpos (by omega) _ (ρ 18).1 (ρ 18).2 w l0
    · intro c2 sp2 k1 k2 fs2
      have fb : Flat (flatL (sumL (addm rL) xs ys) ++ sp2) := flat_app fu fs2
      have := tril_run (rest := []) (K := fun τ' => Xt.normal = .normal ∧ ∃ c sp, (flatL (sumL (addm rL) xs ys) ++ sp).length = c * 4 ∧ (sumL (addm rL) xs ys).length ≤ c ∧ Flat sp ∧ τ' = ⟨mkT 14 [(4, slc 19 (sumL (addm rL) xs ys).length c)], mkT 22 [(19, true, flatL (sumL (addm rL) xs ys) ++ sp)], []⟩) ok (pa_5 (flatL (sumL (addm rL) xs ys) ++ sp2) (sumL (addm rL) xs ys).length c2) (by decide) trivial (alT_nil _ _ _) ⟨fb, trivial⟩ (locK_nil _ _) (tril_nil ⟨rfl, c2, sp2, k1, k2, fs2, rfl⟩)
      rw [List.append_nil] at this
      exact this
  · rintro τ1 ⟨_, c, sp, h1, h2, fs, rfl⟩
    exact tri_run ok follows (pa_6 _ _ c) (by decide) trivial (alT_nil _ _ _) ⟨flat_app fu fs, trivial⟩ (locK_nil _ _) ⟨rfl, c, sp, h1, h2, fs, rfl⟩
/-- What impl.PolyAdd yields: the sum, in a new row. -/
theorem pa_calls {xs ys : List L4} (hx : okL xs) (hy : okL ys) (hpx : 0 < xs.length) (hpy : 0 < ys.length) (hnx : xs.length ≤ 16777216) (hny : ys.length ≤ 16777216) (hφ : ∀ x ∈ xs, ∀ y ∈ ys, lowm rL x y ∧ lowm rL y x) (ca cb b o b' o' : Nat) (w : World) (h1 : ListIn w b o xs) (h2 : ListIn w b' o' ys) :
    Calls Try.prog 26 #[.slice (some ⟨b, o, none⟩) xs.length ca, .slice (some ⟨b', o', none⟩) ys.length cb] w (MadeR (sumL (addm rL) xs ys) w) := by
  have hf : Try.prog.funcs[26]? = some Try.f26 := by kernel_rfl
  have hb : Try.f26.body = some cPa := by kernel_rfl
  have h0 := start_LL (nt := 14) (n := xs.length) (n' := ys.length) (ca := ca) (cb := cb) hx hy h1 h2
  refine calls_of_tri hf hb h0 (pa_tri hx hy hpx hpy hnx hny hφ ca cb b o b' o') ?_
  rintro e τ' ⟨rfl, c, sp, k1, k2, k3, rfl⟩
  refine ⟨by simp, fun a' w' hs => ?_⟩
  exact madeR_of (fn := Try.f26) (us := sumL (addm rL) xs ys) (by rw [sumL_length]; omega) (fun g T => pa_vres _ _ _ g T) (fun T => rfl) k1 k2 k3 hs
end Go.Proofs.Ytbbifiogcpcpfaa
