/-
  A small symbolic machine, part 25: a region told in parts, and its parts told as one again; a form told by less; a piece of code and what its forms may be turned into.
-/
import Derived.Test.YtbbifiogcpcpfaaDoorVmCal
namespace Go.Proofs.YtbbifiogcpcpfaaDoor
namespace Vm
section
variable {P : Program} {w0 w w' : World} {W : Nat → Nat → Prop} {ρ ρ' : Emb} {hp hp' : Hp}

theorem len_of {α : Type} {l : List α} {i : Nat} {v : α} (h : l[i]? = some v) : i < l.length := by
  rcases Nat.lt_or_ge i l.length with h' | h'
  · exact h'
  · rw [List.getElem?_eq_none h'] at h; cases h

/-- Memory told in other regions, each of whose cells is one of a region of before. -/
theorem Inv.cover (h : Inv w0 W ρ hp w) (tg : Nat → Nat → Nat × Nat)
    (c : ∀ (k : Nat) (f : Bool) (cs : List Value), hp'[k]? = some (some (f, cs)) → ∀ (i : Nat) (v : Value), cs[i]? = some v →
      ∃ f0 cs0 v0, hp[(tg k i).1]? = some (some (f0, cs0)) ∧ cs0[(tg k i).2]? = some v0 ∧ ren0 ρ' v = ren0 ρ v0 ∧ (f = true → f0 = true) ∧ (ρ (tg k i).1).1 = (ρ' k).1 ∧ (ρ (tg k i).1).2 + (tg k i).2 = (ρ' k).2 + i)
    (inj : ∀ (k k' : Nat) (f : Bool) (cs : List Value) (f' : Bool) (cs' : List Value) (i i' : Nat), k ≠ k' → hp'[k]? = some (some (f, cs)) → hp'[k']? = some (some (f', cs')) → i < cs.length → i' < cs'.length → (f || f') = true → tg k i ≠ tg k' i') :
    Inv w0 W ρ' hp' w := by
  refine ⟨fun k f cs hk i v hi => ?_, fun k cs hk i hi => ?_, fun k k' f cs f' cs' hne hk hk' hb i i' hi hi' => ?_, h.fr⟩
  · obtain ⟨f0, cs0, v0, h1, h2, h3, h4, h5, h6⟩ := c k f cs hk i v hi
    have := h.cell _ _ _ h1 _ _ h2
    rw [h5, h6] at this
    rw [this, h3]
  · obtain ⟨f0, cs0, v0, h1, h2, h3, h4, h5, h6⟩ := c k true cs hk i _ (List.getElem?_eq_getElem hi)
    have hf := h4 rfl
    subst hf
    have := h.own _ _ h1 _ (len_of h2)
    rw [h5, h6] at this
    exact this
  · obtain ⟨f0, cs0, v0, h1, h2, h3, h4, h5, h6⟩ := c k f cs hk i _ (List.getElem?_eq_getElem hi)
    obtain ⟨g0, ds0, u0, k1, k2, k3, k4, k5, k6⟩ := c k' f' cs' hk' i' _ (List.getElem?_eq_getElem hi')
    have hinj := inj k k' f cs f' cs' i i' hne hk hk' hi hi' hb
    by_cases hs : (tg k i).1 = (tg k' i').1
    · right
      rw [← h6, ← k6, hs]
      intro he
      exact hinj (Prod.ext hs (by omega))
    · have := h.dis _ _ f0 cs0 g0 ds0 hs h1 k1 (by
        rcases Bool.or_eq_true_iff.1 hb with hb | hb
        · rw [h4 hb]; rfl
        · rw [k4 hb]; simp) _ _ (len_of h2) (len_of k2)
      rw [h5, k5, h6, k6] at this
      exact this

/-- A region told in three parts. -/
theorem turn_part {τ : TS} {r q q2 : Nat} {f : Bool} {A B C : List Value} {b o : Nat} (hr : τ.hp[r]? = some (some (f, A ++ (B ++ C)))) (hq : τ.hp[q]? = some none) (hq2 : τ.hp[q2]? = some none) (hqq : q ≠ q2) (hl : (r, b, o) ∈ τ.loc) :
    Turns τ ⟨τ.tm, ((τ.hp.set r (some (f, A))).set q (some (f, B))).set q2 (some (f, C)), (q, b, o + A.length) :: (q2, b, o + A.length + B.length) :: τ.loc⟩ := by
  rintro w0 W a w ⟨g, T, ρ, hs, hloc⟩
  have hr' : (τ.fill g T).hp[r]? = some (some (f, A ++ (B ++ C))) := get_append hr
  have hq' : (τ.fill g T).hp[q]? = some none := get_append hq
  have hq2' : (τ.fill g T).hp[q2]? = some none := get_append hq2
  have hρ := (hloc r b o hl).1
  have nrq : r ≠ q := fun e => by subst e; rw [hr] at hq; cases hq
  have nrq2 : r ≠ q2 := fun e => by subst e; rw [hr] at hq2; cases hq2
  have hag : Agree (τ.fill g T).hp ρ (upd (upd ρ q (b, o + A.length)) q2 (b, o + A.length + B.length)) := fun k hk => by
    rw [upd_other _ _ (fun (e : k = q2) => not_pres hq2' (e ▸ hk)), upd_other _ _ (fun (e : k = q) => not_pres hq' (e ▸ hk))]
  have hset : ((τ.hp.set r (some (f, A))).set q (some (f, B))).set q2 (some (f, C)) ++ T = (((τ.hp ++ T).set r (some (f, A))).set q (some (f, B))).set q2 (some (f, C)) := by
    have h1 : (τ.hp.set r (some (f, A)))[q]? = some none := by rw [get_set_other (Ne.symm nrq)]; exact hq
    have h2 : ((τ.hp.set r (some (f, A))).set q (some (f, B)))[q2]? = some none := by rw [get_set_other (Ne.symm hqq), get_set_other (Ne.symm nrq2)]; exact hq2
    rw [set_append h2, set_append h1, set_append hr]
  have hfill : (⟨τ.tm, ((τ.hp.set r (some (f, A))).set q (some (f, B))).set q2 (some (f, C)), (q, b, o + A.length) :: (q2, b, o + A.length + B.length) :: τ.loc⟩ : TS).fill g T
      = ⟨(τ.fill g T).tm, (((τ.fill g T).hp.set r (some (f, A))).set q (some (f, B))).set q2 (some (f, C)), True, 0⟩ := by
    simp only [TS.fill]; rw [hset]
  have hmono : mono (τ.fill g T).hp ((((τ.fill g T).hp.set r (some (f, A))).set q (some (f, B))).set q2 (some (f, C))) := (mono_set.trans mono_set).trans mono_set
  generalize hH : (((τ.fill g T).hp.set r (some (f, A))).set q (some (f, B))).set q2 (some (f, C)) = hp' at *
  -- what the regions are
  have gr : hp'[r]? = some (some (f, A)) := by rw [← hH, get_set_other nrq2, get_set_other nrq, get_set_same hr']
  have gq : hp'[q]? = some (some (f, B)) := by rw [← hH, get_set_other hqq, get_set_same (by rw [get_set_other (Ne.symm nrq)]; exact hq')]
  have gq2 : hp'[q2]? = some (some (f, C)) := by rw [← hH, get_set_same (by rw [get_set_other (Ne.symm hqq), get_set_other (Ne.symm nrq2)]; exact hq2')]
  have go : ∀ k, k ≠ r → k ≠ q → k ≠ q2 → hp'[k]? = (τ.fill g T).hp[k]? := fun k h1 h2 h3 => by rw [← hH, get_set_other h3, get_set_other h2, get_set_other h1]
  have cells : ∀ v ∈ A ++ (B ++ C), ok0 (τ.fill g T).hp v := hs.ok.hp r _ _ hr'
  refine ⟨g, T, upd (upd ρ q (b, o + A.length)) q2 (b, o + A.length + B.length), ?_, ?_⟩
  · rw [hfill]
    refine ⟨⟨fun v hv => (hs.ok.tm v hv).mono hmono, fun k f' cs hk v hv => ?_⟩, hs.tm.agree hag hs.ok.tm, ?_⟩
    · simp only at hk
      refine ok0.mono hmono ?_
      by_cases h1 : k = r
      · subst h1; rw [gr] at hk; cases hk; exact cells v (by simp [hv])
      by_cases h2 : k = q
      · subst h2; rw [gq] at hk; cases hk; exact cells v (by simp [hv])
      by_cases h3 : k = q2
      · subst h3; rw [gq2] at hk; cases hk; exact cells v (by simp [hv])
      rw [go k h1 h2 h3] at hk
      exact hs.ok.hp k f' cs hk v hv
    · have tr : ∀ k, k ≠ q → k ≠ q2 → upd (upd ρ q (b, o + A.length)) q2 (b, o + A.length + B.length) k = ρ k := fun k h1 h2 => by rw [upd_other _ _ h2, upd_other _ _ h1]
      have tq : upd (upd ρ q (b, o + A.length)) q2 (b, o + A.length + B.length) q = (b, o + A.length) := by rw [upd_other _ _ hqq, upd_same]
      refine hs.inv.cover (fun k i => if k = q then (r, A.length + i) else if k = q2 then (r, A.length + B.length + i) else (k, i)) (fun k f' cs hk i v hi => ?_) (fun k k' f1 cs f2 cs' i i' hne hk hk' hi hi' hb => ?_)
      · simp only at hk
        by_cases h2 : k = q
        · subst h2; rw [gq] at hk; cases hk
          simp only [if_pos]
          have hb : (A ++ (B ++ C))[A.length + i]? = some v := by
            rw [List.getElem?_append_right (by omega), Nat.add_sub_cancel_left, List.getElem?_append_left (len_of hi)]; exact hi
          exact ⟨f, _, v, hr', hb, ren0_agree hag (cells v (List.mem_of_getElem? hb)), id, by rw [tq, hρ], by rw [tq, hρ]; simp only; omega⟩
        by_cases h3 : k = q2
        · subst h3; rw [gq2] at hk; cases hk
          simp only [if_neg h2, if_pos]
          have hb : (A ++ (B ++ C))[A.length + B.length + i]? = some v := by
            rw [List.getElem?_append_right (by omega), List.getElem?_append_right (by omega)]
            rw [show A.length + B.length + i - A.length - B.length = i by omega]; exact hi
          exact ⟨f, _, v, hr', hb, ren0_agree hag (cells v (List.mem_of_getElem? hb)), id, by rw [upd_same, hρ], by rw [upd_same, hρ]; simp only; omega⟩
        simp only [if_neg h2, if_neg h3]
        by_cases h1 : k = r
        · subst h1; rw [gr] at hk; cases hk
          have hb : (A ++ (B ++ C))[i]? = some v := by rw [List.getElem?_append_left (len_of hi)]; exact hi
          exact ⟨f, _, v, hr', hb, ren0_agree hag (cells v (List.mem_of_getElem? hb)), id, by rw [tr _ h2 h3], by rw [tr _ h2 h3]⟩
        rw [go k h1 h2 h3] at hk
        exact ⟨f', cs, v, hk, hi, ren0_agree hag (hs.ok.hp k f' cs hk v (List.mem_of_getElem? hi)), id, by rw [tr _ h2 h3], by rw [tr _ h2 h3]⟩
      · simp only at hk hk'
        have len : ∀ {k : Nat} {f1 : Bool} {cs : List Value}, hp'[k]? = some (some (f1, cs)) → (k = r → cs.length = A.length) ∧ (k = q → cs.length = B.length) := by
          intro k f1 cs h
          refine ⟨fun e => ?_, fun e => ?_⟩
          · subst e; rw [gr] at h; cases h; rfl
          · subst e; rw [gq] at h; cases h; rfl
        have l1 := len hk
        have l2 := len hk'
        intro he
        by_cases a1 : k = q
        · have := l1.2 a1
          rw [if_pos a1] at he
          by_cases b1 : k' = q
          · exact hne (a1.trans b1.symm)
          rw [if_neg b1] at he
          by_cases b2 : k' = q2
          · rw [if_pos b2] at he; have := congrArg Prod.snd he; simp only at this; omega
          rw [if_neg b2] at he
          have h1 := congrArg Prod.fst he; have h2 := congrArg Prod.snd he
          simp only at h1 h2
          have := l2.1 h1.symm; omega
        rw [if_neg a1] at he
        by_cases a2 : k = q2
        · rw [if_pos a2] at he
          by_cases b1 : k' = q
          · have := l2.2 b1
            rw [if_pos b1] at he; have := congrArg Prod.snd he; simp only at this; omega
          rw [if_neg b1] at he
          by_cases b2 : k' = q2
          · exact hne (a2.trans b2.symm)
          rw [if_neg b2] at he
          have h1 := congrArg Prod.fst he; have h2 := congrArg Prod.snd he
          simp only at h1 h2
          have := l2.1 h1.symm; omega
        rw [if_neg a2] at he
        by_cases b1 : k' = q
        · rw [if_pos b1] at he
          have h1 := congrArg Prod.fst he; have h2 := congrArg Prod.snd he
          simp only at h1 h2
          have := l1.1 h1; omega
        rw [if_neg b1] at he
        by_cases b2 : k' = q2
        · rw [if_pos b2] at he
          have h1 := congrArg Prod.fst he; have h2 := congrArg Prod.snd he
          simp only at h1 h2
          have := l1.1 h1; omega
        rw [if_neg b2] at he
        exact hne (congrArg Prod.fst he)
  · intro k b' o' hk
    simp only [List.mem_cons, Prod.mk.injEq] at hk
    have hm : mono τ.hp (((τ.hp.set r (some (f, A))).set q (some (f, B))).set q2 (some (f, C))) := (mono_set.trans mono_set).trans mono_set
    rcases hk with ⟨rfl, rfl, rfl⟩ | ⟨rfl, rfl, rfl⟩ | hk
    · exact ⟨by rw [upd_other _ _ hqq, upd_same], ⟨_, by rw [get_set_other hqq, get_set_same (by rw [get_set_other (Ne.symm nrq)]; exact hq)]⟩⟩
    · exact ⟨upd_same _ _ _, ⟨_, get_set_same (by rw [get_set_other (Ne.symm hqq), get_set_other (Ne.symm nrq2)]; exact hq2)⟩⟩
    · obtain ⟨h1, h2⟩ := hloc k b' o' hk
      refine ⟨?_, hm k h2⟩
      rw [upd_other _ _ (fun (e : k = q2) => not_pres hq2 (e ▸ h2)), upd_other _ _ (fun (e : k = q) => not_pres hq (e ▸ h2))]
      exact h1

/-- Three parts of a region told as one. -/
theorem turn_join {τ : TS} {r q q2 : Nat} {f : Bool} {A B C : List Value} {b o n1 n2 : Nat} (hr : τ.hp[r]? = some (some (f, A))) (hq : τ.hp[q]? = some (some (f, B))) (hq2 : τ.hp[q2]? = some (some (f, C))) (nrq : r ≠ q) (nrq2 : r ≠ q2) (hqq : q ≠ q2)
    (hl : (r, b, o) ∈ τ.loc) (hlq : (q, b, n1) ∈ τ.loc) (hlq2 : (q2, b, n2) ∈ τ.loc) (hn1 : n1 = o + A.length) (hn2 : n2 = o + A.length + B.length) :
    Turns τ ⟨τ.tm, ((τ.hp.set r (some (f, A ++ (B ++ C)))).set q (some (false, []))).set q2 (some (false, [])), τ.loc⟩ := by
  subst hn1 hn2
  rintro w0 W a w ⟨g, T, ρ, hs, hloc⟩
  have hr' : (τ.fill g T).hp[r]? = some (some (f, A)) := get_append hr
  have hq' : (τ.fill g T).hp[q]? = some (some (f, B)) := get_append hq
  have hq2' : (τ.fill g T).hp[q2]? = some (some (f, C)) := get_append hq2
  have hρ := (hloc r b o hl).1
  have hρq := (hloc q b _ hlq).1
  have hρq2 := (hloc q2 b _ hlq2).1
  have hset : ((τ.hp.set r (some (f, A ++ (B ++ C)))).set q (some (false, []))).set q2 (some (false, [])) ++ T = (((τ.hp ++ T).set r (some (f, A ++ (B ++ C)))).set q (some (false, []))).set q2 (some (false, [])) := by
    have h1 : (τ.hp.set r (some (f, A ++ (B ++ C))))[q]? = some (some (f, B)) := by rw [get_set_other (Ne.symm nrq)]; exact hq
    have h2 : ((τ.hp.set r (some (f, A ++ (B ++ C)))).set q (some (false, [])))[q2]? = some (some (f, C)) := by rw [get_set_other (Ne.symm hqq), get_set_other (Ne.symm nrq2)]; exact hq2
    rw [set_append h2, set_append h1, set_append hr]
  have hfill : (⟨τ.tm, ((τ.hp.set r (some (f, A ++ (B ++ C)))).set q (some (false, []))).set q2 (some (false, [])), τ.loc⟩ : TS).fill g T
      = ⟨(τ.fill g T).tm, (((τ.fill g T).hp.set r (some (f, A ++ (B ++ C)))).set q (some (false, []))).set q2 (some (false, [])), True, 0⟩ := by
    simp only [TS.fill]; rw [hset]
  have hmono : mono (τ.fill g T).hp ((((τ.fill g T).hp.set r (some (f, A ++ (B ++ C)))).set q (some (false, []))).set q2 (some (false, []))) := (mono_set.trans mono_set).trans mono_set
  generalize hH : (((τ.fill g T).hp.set r (some (f, A ++ (B ++ C)))).set q (some (false, []))).set q2 (some (false, [])) = hp' at *
  have gr : hp'[r]? = some (some (f, A ++ (B ++ C))) := by rw [← hH, get_set_other nrq2, get_set_other nrq, get_set_same hr']
  have gq : hp'[q]? = some (some (false, [])) := by rw [← hH, get_set_other hqq, get_set_same (by rw [get_set_other (Ne.symm nrq)]; exact hq')]
  have gq2 : hp'[q2]? = some (some (false, [])) := by rw [← hH, get_set_same (by rw [get_set_other (Ne.symm hqq), get_set_other (Ne.symm nrq2)]; exact hq2')]
  have go : ∀ k, k ≠ r → k ≠ q → k ≠ q2 → hp'[k]? = (τ.fill g T).hp[k]? := fun k h1 h2 h3 => by rw [← hH, get_set_other h3, get_set_other h2, get_set_other h1]
  refine ⟨g, T, ρ, ?_, fun k b' o' hk => ⟨(hloc k b' o' hk).1, ((mono_set.trans mono_set).trans mono_set) k (hloc k b' o' hk).2⟩⟩
  rw [hfill]
  refine ⟨⟨fun v hv => (hs.ok.tm v hv).mono hmono, fun k f' cs hk v hv => ?_⟩, hs.tm, ?_⟩
  · simp only at hk
    refine ok0.mono hmono ?_
    by_cases h1 : k = r
    · subst h1; rw [gr] at hk; cases hk
      simp only [List.mem_append] at hv
      rcases hv with hv | hv | hv
      · exact hs.ok.hp _ _ _ hr' v hv
      · exact hs.ok.hp _ _ _ hq' v hv
      · exact hs.ok.hp _ _ _ hq2' v hv
    by_cases h2 : k = q
    · subst h2; rw [gq] at hk; cases hk; simp at hv
    by_cases h3 : k = q2
    · subst h3; rw [gq2] at hk; cases hk; simp at hv
    rw [go k h1 h2 h3] at hk
    exact hs.ok.hp k f' cs hk v hv
  · let tg : Nat → Nat → Nat × Nat := fun k i => if k = r then (if i < A.length then (r, i) else if i < A.length + B.length then (q, i - A.length) else (q2, i - A.length - B.length)) else (k, i)
    have t1 : ∀ i, i < A.length → tg r i = (r, i) := fun i hi => by simp only [tg, if_true, if_pos hi]
    have t2 : ∀ i, ¬ i < A.length → i < A.length + B.length → tg r i = (q, i - A.length) := fun i hi hi2 => by simp only [tg, if_true, if_neg hi, if_pos hi2]
    have t3 : ∀ i, ¬ i < A.length → ¬ i < A.length + B.length → tg r i = (q2, i - A.length - B.length) := fun i hi hi2 => by simp only [tg, if_true, if_neg hi, if_neg hi2]
    have t4 : ∀ k i, k ≠ r → tg k i = (k, i) := fun k i hk => by simp only [tg, if_neg hk]
    have one : ∀ i, (tg r i).1 = r ∨ (tg r i).1 = q ∨ (tg r i).1 = q2 := by
      intro i
      by_cases l1 : i < A.length
      · rw [t1 i l1]; exact .inl rfl
      · by_cases l2 : i < A.length + B.length
        · rw [t2 i l1 l2]; exact .inr (.inl rfl)
        · rw [t3 i l1 l2]; exact .inr (.inr rfl)
    refine hs.inv.cover tg (fun k f' cs hk i v hi => ?_) (fun k k' f1 cs f2 cs' i i' hne hk hk' hi hi' hb => ?_)
    · simp only at hk
      by_cases h1 : k = r
      · rw [h1, gr] at hk
        simp only [Option.some.injEq, Prod.mk.injEq] at hk
        obtain ⟨rfl, rfl⟩ := hk
        rw [h1]
        by_cases l1 : i < A.length
        · rw [t1 i l1]
          rw [List.getElem?_append_left l1] at hi
          exact ⟨f, A, v, hr', hi, rfl, id, rfl, rfl⟩
        rw [List.getElem?_append_right (by omega)] at hi
        by_cases l2 : i < A.length + B.length
        · rw [t2 i l1 l2]
          rw [List.getElem?_append_left (by omega)] at hi
          exact ⟨f, B, v, hq', hi, rfl, id, by rw [hρq, hρ], by rw [hρq, hρ]; simp only; omega⟩
        · rw [t3 i l1 l2]
          rw [List.getElem?_append_right (by omega)] at hi
          exact ⟨f, C, v, hq2', hi, rfl, id, by rw [hρq2, hρ], by rw [hρq2, hρ]; simp only; omega⟩
      rw [t4 k i h1]
      by_cases h2 : k = q
      · rw [h2, gq] at hk; cases hk; simp at hi
      by_cases h3 : k = q2
      · rw [h3, gq2] at hk; cases hk; simp at hi
      rw [go k h1 h2 h3] at hk
      exact ⟨f', cs, v, hk, hi, rfl, id, rfl, rfl⟩
    · simp only at hk hk'
      have nq : ∀ {k : Nat} {f1 : Bool} {cs : List Value} {i : Nat}, hp'[k]? = some (some (f1, cs)) → i < cs.length → k ≠ q ∧ k ≠ q2 := by
        intro k f1 cs i h hi
        refine ⟨fun e => ?_, fun e => ?_⟩
        · rw [e, gq] at h; cases h; simp at hi
        · rw [e, gq2] at h; cases h; simp at hi
      have a := nq hk hi
      have b' := nq hk' hi'
      intro he
      by_cases h1 : k = r
      · have h2 : k' ≠ r := fun e => hne (h1.trans e.symm)
        rw [h1, t4 k' i' h2] at he
        have := one i
        rw [he] at this
        simp only at this
        rcases this with h | h | h
        · exact h2 h
        · exact b'.1 h
        · exact b'.2 h
      · rw [t4 k i h1] at he
        by_cases h2 : k' = r
        · rw [h2] at he
          have := one i'
          rw [← he] at this
          simp only at this
          rcases this with h | h | h
          · exact h1 h
          · exact a.1 h
          · exact a.2 h
        · rw [t4 k' i' h2] at he
          exact hne (congrArg Prod.fst he)

/-- A form told by less. -/
theorem turn_view {τ : TS} {nt m : Nat} {keep : Keep} {L : List Nat} {V : View} {loc : List (Nat × Nat × Nat)} (hv : ∀ g T, viewK m keep L .normal (τ.fill g T) = some V) (hnt : τ.tm.length = nt) (hk : keepOK m keep = true) (hflat : flatK keep V.rg) (hloc : LocK keep τ.loc loc) :
    Turns τ ⟨mkT nt V.sl, mkT m V.rg, loc⟩ := by
  rintro w0 W a w ⟨g, T, ρ, hs, hl⟩
  have h := hv g T
  have h' := h
  unfold viewK at h'
  split at h'
  case h_2 => cases h'
  rename_i rs hrs
  split at h'
  case h_2 => cases h'
  cases h'
  have := view_sound (loc := loc) hs hk h (flatK_spec _ _ hrs hflat) fun q b o hq => by
    obtain ⟨r, f, h1, h2⟩ := hloc q b o hq
    exact ⟨r, f, h1, (hl r b o h2).1⟩
  rw [show (τ.fill g T).tm.length = nt by simp [TS.fill, fillT_length, hnt]] at this
  exact this

/-- What the forms behind a piece of code may be turned into. -/
theorem tri_post {c : Code} {τ : TS} {K K' : Xt → TS → Prop} (h : Tri P c τ K) (hk : ∀ x τ', K x τ' → ∃ τ'', Turns τ' τ'' ∧ K' x τ'') : Tri P c τ K' :=
  fun w0 W a w hs Q hQ => h w0 W a w hs Q fun x τ' a' w' hx ht => by
    obtain ⟨τ'', h1, h2⟩ := hk x τ' hx
    exact hQ x τ'' a' w' h2 (h1 w0 W a' w' ht)
theorem Turns.trans {a b c : TS} (h : Turns a b) (k : Turns b c) : Turns a c := fun w0 W x w hs => k w0 W x w (h w0 W x w hs)

/-- The numbers of a region's head have turned, and nothing else. -/
theorem Inv.wrote {r : Nat} {cs new : List Value} (h : Inv w0 W ρ hp w) (hr : hp[r]? = some (some (true, cs))) (hfr : Fr (fun k j => k = (ρ r).1 ∧ ∃ i, i < new.length ∧ j = (ρ r).2 + i) w w') (hn : new.length ≤ cs.length)
    (hh : Holds w' ⟨(ρ r).1, (ρ r).2, none⟩ new) (hf : ∀ v ∈ new, ren0 ρ v = v) : Inv w0 W ρ (hp.set r (some (true, new ++ cs.drop new.length))) w' := by
  have hlt : ∀ {k : Nat} {f : Bool} {ds : List Value} {i : Nat}, hp[k]? = some (some (f, ds)) → i < ds.length → (ρ k).1 < w.heap.size := fun hk hi => World.block_lt_of_cell? _ _ (h.cell _ _ _ hk _ _ (List.getElem?_eq_getElem hi))
  have hnw : ∀ {k : Nat} {f : Bool} {ds : List Value} {i : Nat}, k ≠ r → hp[k]? = some (some (f, ds)) → i < ds.length → ¬ ((ρ k).1 = (ρ r).1 ∧ ∃ j, j < new.length ∧ (ρ k).2 + i = (ρ r).2 + j) := by
    rintro k f ds i hne hk hi ⟨h1, j, hj, h2⟩
    rcases h.dis k r f ds true cs hne hk hr (by simp) i j hi (by omega) with h3 | h3
    · exact h3 h1
    · exact h3 h2
  have hlen : (new ++ cs.drop new.length).length = cs.length := by rw [List.length_append, List.length_drop]; omega
  refine ⟨fun k f ds hk i v hi => ?_, fun k ds hk i hi => ?_, fun k k' f ds f' ds' hne hk hk' hb i i' hi hi' => ?_, ?_⟩
  · by_cases hkr : k = r
    · subst hkr
      rw [get_set_same hr] at hk
      simp only [Option.some.injEq, Prod.mk.injEq] at hk
      obtain ⟨rfl, rfl⟩ := hk
      by_cases hin : i < new.length
      · rw [List.getElem?_append_left hin] at hi
        rw [hf v (List.mem_of_getElem? hi)]
        exact hh i v hi
      · rw [List.getElem?_append_right (by omega), List.getElem?_drop, show new.length + (i - new.length) = i by omega] at hi
        refine hfr.cell (h.cell _ _ _ hr i v hi) ?_
        rintro ⟨_, j, hj, h2⟩
        simp only at h2
        omega
    · rw [get_set_other hkr] at hk
      exact hfr.cell (h.cell k f ds hk i v hi) (hnw hkr hk (len_of hi))
  · by_cases hkr : k = r
    · subst hkr
      rw [get_set_same hr] at hk
      simp only [Option.some.injEq, Prod.mk.injEq, true_and] at hk
      subst hk
      rw [hlen] at hi
      obtain ⟨h1, h2⟩ := h.own _ _ hr i hi
      exact ⟨by rw [hfr.frozen (hlt hr hi)]; exact h1, h2⟩
    · rw [get_set_other hkr] at hk
      obtain ⟨h1, h2⟩ := h.own _ _ hk i hi
      exact ⟨by rw [hfr.frozen (hlt hk hi)]; exact h1, h2⟩
  · have back : ∀ {k : Nat} {f : Bool} {ds : List Value}, (hp.set r (some (true, new ++ cs.drop new.length)))[k]? = some (some (f, ds)) → ∃ ds0, hp[k]? = some (some (f, ds0)) ∧ ds0.length = ds.length := by
      intro k f ds hk
      by_cases hkr : k = r
      · subst hkr
        rw [get_set_same hr] at hk
        simp only [Option.some.injEq, Prod.mk.injEq] at hk
        obtain ⟨rfl, rfl⟩ := hk
        exact ⟨cs, hr, hlen.symm⟩
      · rw [get_set_other hkr] at hk
        exact ⟨ds, hk, rfl⟩
    obtain ⟨ds0, k1, k2⟩ := back hk
    obtain ⟨ds0', k1', k2'⟩ := back hk'
    exact h.dis k k' f ds0 f' ds0' hne k1 k1' hb i i' (by omega) (by omega)
  · refine h.fr.through hfr fun k j hk => ?_
    obtain ⟨rfl, i, hi, rfl⟩ := hk
    exact (h.own _ _ hr i (by omega)).2
end
end Vm
end Go.Proofs.YtbbifiogcpcpfaaDoor
