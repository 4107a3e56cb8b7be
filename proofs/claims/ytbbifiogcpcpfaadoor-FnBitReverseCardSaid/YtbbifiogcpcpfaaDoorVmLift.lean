/-
  A small symbolic machine, part 15: a contract serves inside a virtual run.
-/
import Derived.Test.YtbbifiogcpcpfaaDoorVmCall
namespace Go.Proofs.YtbbifiogcpcpfaaDoor
namespace Vm
section
variable {P : Program}

theorem Fr.through {W W1 : Nat → Nat → Prop} {w0 w w' : World} (h : Fr W w0 w) (k : Fr W1 w w') (hW : ∀ b o, W1 b o → w0.heap.size ≤ b ∨ W b o) : Fr W w0 w' := by
  refine ⟨k.os.trans h.os, k.tape.trans h.tape, k.output.trans h.output, Nat.le_trans h.size k.size, fun i hi => ?_⟩
  have hi' := Nat.lt_of_lt_of_le hi h.size
  have hsub : ∀ j, ¬ W i j → ¬ W1 i j := fun j hj h1 => (hW i j h1).elim (fun h => by omega) hj
  rcases h.blk i hi with h1 | ⟨c1, c2, e, f, h1, h2, h3, h4⟩ <;> rcases k.blk i hi' with k1 | ⟨d1, d2, e', f', k1, k2, k3, k4⟩
  · exact .inl (k1.trans h1)
  · exact .inr ⟨d1, d2, e', f', h1 ▸ k1, k2, k3, fun j hj => k4 j (hsub j hj)⟩
  · exact .inr ⟨c1, c2, e, f, h1, k1.trans h2, h3, h4⟩
  · rw [h2] at k1
    simp only [Option.some.injEq, Obj.cells.injEq] at k1
    obtain ⟨rfl, rfl, rfl⟩ := k1
    exact .inr ⟨c1, d2, e, f, h1, k2, k3.trans h3, fun j hj => (k4 j (hsub j hj)).trans (h4 j hj)⟩

theorem pairsB_spec : ∀ (ps : List AP), pairsB ps = true → ∀ (i j : Nat) p q, i ≠ j → ps[i]? = some p → ps[j]? = some q → pairB p q = true
  | [], _, i, j, p, q, _, h, _ => by simp at h
  | x :: ps, h, i, j, p, q, hne, hi, hj => by
    simp only [pairsB, Bool.and_eq_true, List.all_eq_true] at h
    cases i with
    | zero =>
      simp only [List.getElem?_cons_zero, Option.some.injEq] at hi
      subst hi
      cases j with
      | zero => exact absurd rfl hne
      | succ j => exact (h.1 q (List.mem_of_getElem? (by simpa using hj))).1
    | succ i =>
      cases j with
      | zero =>
        simp only [List.getElem?_cons_zero, Option.some.injEq] at hj
        subst hj
        exact (h.1 p (List.mem_of_getElem? (by simpa using hi))).2
      | succ j => exact pairsB_spec ps h.2 i j p q (by omega) (by simpa using hi) (by simpa using hj)

theorem at_ren {ρ : Emb} {p : AP} {A : Addr} {cs : List Value} (h : (p.ren ρ).at? = some (A, cs)) : ∃ B, p.at? = some (B, cs) ∧ A = rena ρ B := by
  cases p with
  | v x => cases h
  | r B ds => simp only [AP.ren, AP.at?, Option.some.injEq, Prod.mk.injEq] at h; obtain ⟨rfl, rfl⟩ := h; exact ⟨B, rfl, rfl⟩
  | s B ds c => simp only [AP.ren, AP.at?, Option.some.injEq, Prod.mk.injEq] at h; obtain ⟨rfl, rfl⟩ := h; exact ⟨B, rfl, rfl⟩
  | w B ds => simp only [AP.ren, AP.at?, Option.some.injEq, Prod.mk.injEq] at h; obtain ⟨rfl, rfl⟩ := h; exact ⟨B, rfl, rfl⟩
theorem con_ren (ρ : Emb) (p : AP) : (p.ren ρ).con = p.con := by cases p <;> rfl

theorem rd_get {hp : Hp} {r o : Nat} {cs : List Value} (h : rd hp r o cs.length = some cs) : ∃ b c, hp[r]? = some (some (b, c)) ∧ o + cs.length ≤ c.length ∧ ∀ i v, cs[i]? = some v → c[o + i]? = some v := by
  obtain ⟨b, c, hc, hle, he⟩ := rd_spec h
  refine ⟨b, c, hc, hle, fun i v hi => ?_⟩
  have hlt : i < cs.length := by
    rcases Nat.lt_or_ge i cs.length with h' | h'
    · exact h'
    · rw [List.getElem?_eq_none h'] at hi; cases hi
  rw [he, List.getElem?_take_of_lt hlt, List.getElem?_drop] at hi
  exact hi

/-- The parsed parameters lie in the world. -/
theorem lie_of {w0 w : World} {W : Nat → Nat → Prop} {ρ : Emb} {hp hp1 : Hp} {ps : List AP} {news : List (List Value)} (hI : Inv w0 W ρ hp w)
    (hps : ∀ p ∈ ps, (∀ u ∈ p.con, ok2 [] u) ∧ ∀ A cs, p.at? = some (A, cs) → A.spot = none ∧ pres hp A.block ∧ rd hp A.block A.off cs.length = some cs ∧ ∀ u ∈ cs, ok0 [] u)
    (hpr : pairsB ps = true) (hw : writes hp ps news = some hp1) : Lie w (ps.map (AP.ren ρ)) := by
  have hold : ∀ p ∈ ps, ∀ B cs, p.at? = some (B, cs) → Holds w (rena ρ B) cs := by
    intro p hp' B cs hat i v hi
    obtain ⟨_, _, h3, h4⟩ := (hps p hp').2 B cs hat
    obtain ⟨b, c, hc, hle, hg⟩ := rd_get h3
    have := hI.cell B.block b c hc (B.off + i) v (hg i v hi)
    rw [ok0_nil_ren (h4 v (List.mem_of_getElem? hi))] at this
    simp only [rena]
    rw [Nat.add_assoc]; exact this
  refine ⟨fun p hp' A cs hat => ?_, fun p hp' A cs he => ?_, fun p hp' u hu => ?_, fun p hp' A cs hat => ?_, fun i j p q hne hi hj => ?_⟩
  · obtain ⟨q, hq, rfl⟩ := List.mem_map.1 hp'
    obtain ⟨B, hB, rfl⟩ := at_ren hat
    exact ⟨rfl, hold q hq B cs hB⟩
  · obtain ⟨q, hq, rfl⟩ := List.mem_map.1 hp'
    cases q <;> simp only [AP.ren, reduceCtorEq, AP.w.injEq] at he
    rename_i B ds
    obtain ⟨rfl, rfl⟩ := he
    obtain ⟨c, hc, hle⟩ := writes_own ps hp hp1 news hw B ds hq
    intro i hi
    have := (hI.own B.block c hc (B.off + i) (by omega)).1
    simp only [rena]
    rw [Nat.add_assoc]; exact this
  · obtain ⟨q, hq, rfl⟩ := List.mem_map.1 hp'
    rw [con_ren] at hu
    exact (hps q hq).1 u hu
  · obtain ⟨q, hq, rfl⟩ := List.mem_map.1 hp'
    obtain ⟨B, hB, rfl⟩ := at_ren hat
    exact ((hps q hq).2 B cs hB).2.2.2
  · simp only [List.getElem?_map, Option.map_eq_some_iff] at hi hj
    obtain ⟨p', hi, rfl⟩ := hi
    obtain ⟨q', hj, rfl⟩ := hj
    have hb := pairsB_spec ps hpr i j p' q' hne hi hj
    have mp := List.mem_of_getElem? hi
    have mq := List.mem_of_getElem? hj
    have ap : ∀ A cs B ds, p' = .w A cs → q'.at? = some (B, ds) → apartB A cs.length B ds.length = true → Apart (rena ρ A) cs.length (rena ρ B) ds.length := by
      intro A cs B ds hp' hq' ha
      obtain ⟨_, _, h3, _⟩ := (hps p' mp).2 A cs (by rw [hp']; rfl)
      obtain ⟨_, _, k3, _⟩ := (hps q' mq).2 B ds hq'
      obtain ⟨c, hc, _⟩ := writes_own ps hp hp1 news hw A cs (hp' ▸ mp)
      exact apart_ren hI (apartB_spec ha) h3 k3 ⟨c, .inl hc⟩
    have sm : ∀ A cs B ds, p' = .w A cs → q'.at? = some (B, ds) → sameB A cs.length B ds.length = true → rena ρ A = rena ρ B ∧ cs = ds := by
      intro A cs B ds hp' hq' hs
      obtain ⟨h1, _, h3, _⟩ := (hps p' mp).2 A cs (by rw [hp']; rfl)
      obtain ⟨k1, _, k3, _⟩ := (hps q' mq).2 B ds hq'
      obtain ⟨rfl, hn⟩ := sameB_spec hs h1 k1
      rw [hn, k3] at h3
      exact ⟨rfl, (Option.some.inj h3).symm⟩
    cases p' with
    | w A cs =>
      cases q' with
      | v x => trivial
      | r B ds =>
        simp only [pairB, Bool.or_eq_true] at hb
        exact hb.imp (sm A cs B ds rfl rfl) (ap A cs B ds rfl rfl)
      | s B ds c =>
        simp only [pairB, Bool.or_eq_true] at hb
        exact hb.imp (sm A cs B ds rfl rfl) (ap A cs B ds rfl rfl)
      | w B ds =>
        simp only [pairB] at hb
        exact ap A cs B ds rfl rfl hb
    | _ => trivial

theorem wof_ren {ρ : Emb} {ps : List AP} {b o : Nat} (h : Wof (ps.map (AP.ren ρ)) b o) : ∃ A cs, AP.w A cs ∈ ps ∧ b = (ρ A.block).1 ∧ ∃ i, i < cs.length ∧ o = (ρ A.block).2 + (A.off + i) := by
  obtain ⟨A, cs, hm, hb, i, hi, ho⟩ := h
  obtain ⟨q, hq, he⟩ := List.mem_map.1 hm
  cases q <;> simp only [AP.ren, reduceCtorEq, AP.w.injEq] at he
  rename_i B ds
  obtain ⟨rfl, rfl⟩ := he
  exact ⟨B, ds, hq, hb, i, hi, by simp only [rena] at ho; omega⟩

/-- The memory behind the call. -/
theorem inv_after {w0 w w' : World} {W : Nat → Nat → Prop} {ρ : Emb} {hp hp1 : Hp} {ps : List AP} {news : List (List Value)} (hI : Inv w0 W ρ hp w)
    (hw : writes hp ps news = some hp1) (hfr : Fr (Wof (ps.map (AP.ren ρ))) w w') (hnews : News w' (ps.map (AP.ren ρ)) news) (hok : ∀ n ∈ news, ∀ u ∈ n, ok0 [] u) : Inv w0 W ρ hp1 w' := by
  have lt : ∀ (r : Nat) (b : Bool) (cs : List Value), hp[r]? = some (some (b, cs)) → ∀ i, i < cs.length → (ρ r).1 < w.heap.size := fun r b cs hr i hi =>
    World.block_lt_of_cell? _ ⟨(ρ r).1, (ρ r).2 + i, none⟩ (hI.cell r b cs hr i _ (List.getElem?_eq_getElem hi))
  have filt : ∀ (j : Nat) A ds, (ps.filter AP.isW)[j]? = some (.w A ds) → ((ps.map (AP.ren ρ)).filter AP.isW)[j]? = some (.w (rena ρ A) ds) := by
    intro j A ds h
    have e : (ps.map (AP.ren ρ)).filter AP.isW = (ps.filter AP.isW).map (AP.ren ρ) := by
      rw [List.filter_map]
      congr 1
      exact List.filter_congr fun p _ => by cases p <;> rfl
    rw [e, List.getElem?_map, h]; rfl
  refine ⟨fun r b cs hr i v hi => ?_, fun r cs hr i hi => ?_, fun r r' b cs b' cs' hne hr hr' hb i i' hi hi' => ?_, ?_⟩
  · obtain ⟨cs0, h1, h2, h3⟩ := writes_get ps hp hp1 news hw r b cs hr
    rcases h3 i v hi with ⟨j, A, ds, n, a1, a2, rfl, a4, a5, a6⟩ | ⟨h, hn⟩
    · obtain ⟨hh, _⟩ := news_get w' _ _ hnews j _ _ n (filt j A ds a1) a2
      have := hh (i - A.off) v a6
      simp only [rena] at this
      rw [ok0_nil_ren (hok n (List.mem_of_getElem? a2) v (List.mem_of_getElem? a6))]
      rw [show (ρ A.block).2 + i = (ρ A.block).2 + A.off + (i - A.off) by omega]
      exact this
    · have hlt : i < cs0.length := by
        rcases Nat.lt_or_ge i cs0.length with h' | h'
        · exact h'
        · rw [List.getElem?_eq_none h'] at h; cases h
      refine hfr.cell (hI.cell r b cs0 h1 i v h) fun hW => ?_
      obtain ⟨A, ds, hm, hb, k, hk, ho⟩ := wof_ren hW
      simp only at hb ho
      obtain ⟨c, hc, hle⟩ := writes_own ps hp hp1 news hw A ds hm
      by_cases hrA : r = A.block
      · subst hrA
        exact hn A ds hm ⟨rfl, by omega, by omega⟩
      · have := hI.dis r A.block b cs0 true c hrA h1 hc (by simp) i (A.off + k) hlt (by omega)
        omega
  · obtain ⟨cs0, h1, h2, _⟩ := writes_get ps hp hp1 news hw r true cs hr
    obtain ⟨k1, k2⟩ := hI.own r cs0 h1 i (by omega)
    refine ⟨?_, k2⟩
    rw [hfr.frozen (a := ⟨(ρ r).1, (ρ r).2 + i, none⟩) (lt r true cs0 h1 i (by omega))]
    exact k1
  · obtain ⟨c0, h1, h2, _⟩ := writes_get ps hp hp1 news hw r b cs hr
    obtain ⟨c0', k1, k2, _⟩ := writes_get ps hp hp1 news hw r' b' cs' hr'
    exact hI.dis r r' b c0 b' c0' hne h1 k1 hb i i' (by omega) (by omega)
  · refine Fr.through hI.fr hfr fun b o hW => ?_
    obtain ⟨A, ds, hm, rfl, k, hk, rfl⟩ := wof_ren hW
    obtain ⟨c, hc, hle⟩ := writes_own ps hp hp1 news hw A ds hm
    exact (hI.own A.block c hc (A.off + k) (by omega)).2

theorem writes_ok : ∀ (ps : List AP) (hp hp' : Hp) (news : List (List Value)), writes hp ps news = some hp' → okH hp → (∀ n ∈ news, ∀ u ∈ n, ok0 [] u) → okH hp'
  | [], hp, hp', news, h, hH, _ => by
    cases news with
    | nil => simp only [writes, Option.some.injEq] at h; subst h; exact hH
    | cons _ _ => simp [writes] at h
  | .v _ :: ps, hp, hp', news, h, hH, hn => writes_ok ps hp hp' news h hH hn
  | .r _ _ :: ps, hp, hp', news, h, hH, hn => writes_ok ps hp hp' news h hH hn
  | .s _ _ _ :: ps, hp, hp', news, h, hH, hn => writes_ok ps hp hp' news h hH hn
  | .w A ds :: ps, hp, hp', news, h, hH, hn => by
    cases news with
    | nil => simp [writes] at h
    | cons n ns =>
      simp only [writes] at h
      split at h
      case isFalse => cases h
      split at h
      case h_2 => cases h
      rename_i hp1 hw
      exact writes_ok ps hp1 hp' ns h (wr_ok hH (fun v hv => (hn n (by simp) v hv).mono (nil_mono hp)) hw) fun m hm => hn m (by simp [hm])

theorem writes_free : ∀ (ps : List AP) (hp hp' : Hp) (news : List (List Value)) (d : Nat), writes hp ps news = some hp' → hp'[d]? = some none → hp[d]? = some none
  | [], hp, hp', news, d, h, hd => by
    cases news with
    | nil => simp only [writes, Option.some.injEq] at h; subst h; exact hd
    | cons _ _ => simp [writes] at h
  | .v _ :: ps, hp, hp', news, d, h, hd => writes_free ps hp hp' news d h hd
  | .r _ _ :: ps, hp, hp', news, d, h, hd => writes_free ps hp hp' news d h hd
  | .s _ _ _ :: ps, hp, hp', news, d, h, hd => writes_free ps hp hp' news d h hd
  | .w A ds :: ps, hp, hp', news, d, h, hd => by
    cases news with
    | nil => simp [writes] at h
    | cons n ns =>
      simp only [writes] at h
      split at h
      case isFalse => cases h
      split at h
      case h_2 => cases h
      rename_i hp1 hw
      have := writes_free ps hp1 hp' ns d h hd
      obtain ⟨c, hc, _, rfl⟩ := wr_spec hw
      by_cases hda : d = A.block
      · subst hda; rw [get_set_same hc] at this; cases this
      · rw [get_set_other hda] at this; exact this

/-- One more region, that the callee made. -/
theorem Inv.gain {w0 w w1 : World} {W : Nat → Nat → Prop} {ρ : Emb} {hp : Hp} (h : Inv w0 W ρ hp w1) (hok : okH hp) {d : Nat} (hd : hp[d]? = some none) {cs : List Value} (hcs : ∀ v ∈ cs, ok0 [] v) {b o : Nat}
    (hold : ∀ r x c, hp[r]? = some (some (x, c)) → 0 < c.length → (ρ r).1 < w.heap.size) (hw0 : w0.heap.size ≤ w.heap.size) (hb : w.heap.size ≤ b) (hh : Holds w1 ⟨b, o, none⟩ cs) (hf : Free w1 ⟨b, o, none⟩ cs.length) :
    Inv w0 W (upd ρ d (b, o)) (hp.set d (some (true, cs))) w1 := by
  have ha := agree_upd ρ (b, o) (not_pres hd)
  have new : (hp.set d (some (true, cs)))[d]? = some (some (true, cs)) := get_set_same hd
  refine ⟨fun r x c hr i v hi => ?_, fun r c hr i hi => ?_, fun r r' x c1 x' c2 hne hr hr' hb' i i' hi hi' => ?_, h.fr⟩
  · by_cases hrd : r = d
    · subst hrd
      rw [new] at hr
      simp only [Option.some.injEq, Prod.mk.injEq] at hr
      obtain ⟨rfl, rfl⟩ := hr
      rw [upd_same, ok0_nil_ren (hcs v (List.mem_of_getElem? hi))]
      exact hh i v hi
    · rw [get_set_other hrd] at hr
      rw [upd_other ρ _ hrd, ren0_agree ha (hok r x c hr v (List.mem_of_getElem? hi))]
      exact h.cell r x c hr i v hi
  · by_cases hrd : r = d
    · subst hrd
      rw [new] at hr
      simp only [Option.some.injEq, Prod.mk.injEq, true_and] at hr
      subst hr
      rw [upd_same]
      exact ⟨hf i hi, .inl (by omega)⟩
    · rw [get_set_other hrd] at hr
      rw [upd_other ρ _ hrd]
      exact h.own r c hr i hi
  · by_cases hrd : r = d
    · subst hrd
      have hne' : r' ≠ r := Ne.symm hne
      rw [get_set_other hne'] at hr'
      rw [upd_same, upd_other ρ _ hne']
      left; have := hold r' x' c2 hr' (by omega); simp; omega
    · rw [get_set_other hrd] at hr
      rw [upd_other ρ _ hrd]
      by_cases hrd' : r' = d
      · subst hrd'
        rw [upd_same]
        left; have := hold r x c1 hr (by omega); simp; omega
      · rw [get_set_other hrd'] at hr'
        rw [upd_other ρ _ hrd']
        exact h.dis r r' x c1 x' c2 hne hr hr' hb' i i' hi hi'

theorem kinds_ren (ρ : Emb) : ∀ (ps : List AP) (ks : List PK), kindsOK ps ks → kindsOK (ps.map (AP.ren ρ)) ks
  | [], [], h => h
  | [], _ :: _, h => h.elim
  | _ :: _, [], h => h.elim
  | p :: ps, k :: ks, h => ⟨by have := h.1; cases p <;> cases k <;> exact this, kinds_ren ρ ps ks h.2⟩

theorem mem_ok {f : FuncId} {ks : List PK} {g : Gf} (hac : AC P f ks g) : SmOK P f (.mem (memF ks g)) := by
  intro d vs hp v hp' φ h hvs hH
  simp only [Sm.run, memF] at h
  split at h
  · cases h
  rename_i ps hparse
  obtain ⟨hk, hps, hval, hren⟩ := parse_spec hH ks vs ps hparse hvs
  split at h
  case isFalse => cases h
  rename_i hpr
  split at h
  · cases h
  rename_i news rv ψ hg
  split at h
  · cases h
  rename_i hp1 hw
  obtain ⟨⟨hn, hrv⟩, hcall⟩ := hac ps news rv ψ hk hg (fun p hp => (hps p hp).1)
  obtain ⟨hm1, hm2⟩ := writes_mono ps hp hp1 news hw
  have hH1 := writes_ok ps hp hp1 news hw hH hn
  have hcall' : ∀ w0 W ρ w, Inv w0 W ρ hp w → due ψ → Calld P f (vs.map (ren ρ)).toArray w fun v w' => Fr (Wof (ps.map (AP.ren ρ))) w w' ∧ News w' (ps.map (AP.ren ρ)) news ∧ Hands w w' (ps.map (AP.ren ρ)) (.returned v) rv := by
    intro w0 W ρ w hI hd
    obtain ⟨_, hc⟩ := hac (ps.map (AP.ren ρ)) news rv ψ (by
        exact kinds_ren ρ ps ks hk)
      (by rw [List.map_map, show AP.con ∘ AP.ren ρ = AP.con from funext (con_ren ρ)]; exact hg)
      (fun p hp => by obtain ⟨q, hq, rfl⟩ := List.mem_map.1 hp; rw [con_ren]; exact (hps q hq).1)
    rw [hren ρ]
    exact hc w (lie_of hI hps hpr hw) hd
  cases rv with
  | val u =>
    simp only [Option.some.injEq, Prod.mk.injEq] at h
    obtain ⟨rfl, rfl, rfl⟩ := h
    refine ⟨⟨hm1, (show ok2 [] u from hrv).mono (nil_mono hp1), hH1⟩, fun w0 W ρ w hI hd => (hcall' w0 W ρ w hI hd).mono fun z w' ⟨h1, h2, h3⟩ => ?_⟩
    refine ⟨ρ, Agree.refl _ _, ?_, inv_after hI hw h1 h2 hn⟩
    simp only [Hands, Ending.returned.injEq] at h3
    rw [h3, ok2_nil_ren hrv ρ]
  | same j =>
    simp only at h
    split at h
    case h_2 => cases h
    rename_i u hj
    simp only [Option.some.injEq, Prod.mk.injEq] at h
    obtain ⟨rfl, rfl, rfl⟩ := h
    have hu := hvs u (List.mem_of_getElem? hj)
    refine ⟨⟨hm1, hu.mono hm1, hH1⟩, fun w0 W ρ w hI hd => (hcall' w0 W ρ w hI hd).mono fun z w' ⟨h1, h2, h3⟩ => ?_⟩
    refine ⟨ρ, Agree.refl _ _, ?_, inv_after hI hw h1 h2 hn⟩
    obtain ⟨p, hp2, he⟩ := h3
    simp only [Ending.returned.injEq] at he
    have e1 : (vs.map (ren ρ))[j]? = some (ren ρ u) := by rw [List.getElem?_map, hj]; rfl
    rw [hren ρ, List.getElem?_map, hp2] at e1
    simp only [Option.map_some, Option.some.injEq] at e1
    rw [he, e1]
  | fresh cs us =>
    simp only at h
    split at h
    case h_2 => cases h
    rename_i u hp2 ψ' hnew
    simp only [Option.some.injEq, Prod.mk.injEq] at h
    obtain ⟨rfl, rfl, rfl⟩ := h
    obtain ⟨hd1, rfl, rfl, _⟩ := newR_spec hnew
    have hcs : ∀ u ∈ cs, ok0 [] u := hrv.1
    refine ⟨⟨hm1.trans mono_set, ok_freshV ⟨rfl, ⟨_, get_set_same hd1⟩⟩ (fun u hu => (hrv.2 u hu).mono (nil_mono _)), okH_new hH1 hd1 fun u hu => (hcs u hu).mono (nil_mono hp1)⟩, fun w0 W ρ w hI hd => (hcall' w0 W ρ w hI hd).mono fun z w' ⟨h1, h2, h3⟩ => ?_⟩
    obtain ⟨b, o, hb, he, hh, hf⟩ := h3
    have hI1 := inv_after hI hw h1 h2 hn
    have hdn : ¬ pres hp d := fun hp' => not_pres hd1 (hm1 d hp')
    refine ⟨upd ρ d (b, o), agree_upd ρ _ hdn, ?_, hI1.gain (w := w) hH1 hd1 hcs (fun r x c hr hc => ?_) hI.fr.size hb hh hf⟩
    · simp only [Ending.returned.injEq] at he
      rw [he, ren_freshV _ _ _ _ hrv.2]; simp [rena, upd_same]
    · obtain ⟨c0, k1, k2, _⟩ := writes_get ps hp hp1 news hw r x c hr
      have hc0 : 0 < c0.length := by omega
      exact World.block_lt_of_cell? _ ⟨(ρ r).1, (ρ r).2 + 0, none⟩ (hI.cell r x c0 k1 0 _ (List.getElem?_eq_getElem hc0))

theorem parse_nil_V : ∀ (ks : List PK) (vs : List Value) (ps : List AP), parse [] ks vs = some ps → (∀ p ∈ ps, ∃ x, p = .v x)
  | [], [], ps, h => by cases h; intro p hp; simp at hp
  | [], _ :: _, ps, h => by cases h
  | _ :: _, [], ps, h => by cases h
  | k :: ks, v :: vs, ps, h => by
    simp only [parse] at h
    split at h
    case h_2 => cases h
    rename_i p hp1
    split at h
    case h_2 => cases h
    rename_i ps' hps
    cases h
    intro q hq
    rcases List.mem_cons.1 hq with rfl | hq
    · unfold parse1 at hp1
      split at hp1
      · split at hp1 <;> cases hp1
        exact ⟨_, rfl⟩
      · simp [rd] at hp1
      · split at hp1
        · simp [rd] at hp1
        · cases hp1
      · simp [rd] at hp1
      · cases hp1
    · exact parse_nil_V ks vs ps' hps q hq

theorem val_ok {f : FuncId} {ks : List PK} {g : Gf} (hac : AC P f ks g) : SmOK P f (.val (valG ks g)) := by
  intro d vs hp v hp' φ h hvs hH
  simp only [Sm.run, valG] at h
  split at h
  case h_2 => cases h
  rename_i u ψ hv
  simp only [Option.some.injEq, Prod.mk.injEq] at h
  obtain ⟨rfl, rfl, rfl⟩ := h
  split at hv
  · cases hv
  rename_i ps hparse
  have hV := parse_nil_V ks vs ps hparse
  have hvs' : ∀ u ∈ vs, ok2 [] u := by
    have : ∀ (ks : List PK) (vs : List Value) (ps : List AP), parse [] ks vs = some ps → (∀ p ∈ ps, ∃ x, p = .v x) → (∀ u ∈ vs, ok2 hp u) → ∀ u ∈ vs, ok2 [] u := by
      intro ks
      induction ks with
      | nil => intro vs ps h _ _; cases vs with
        | nil => intro u hu; simp at hu
        | cons _ _ => cases h
      | cons k ks ih =>
        intro vs ps h hV hvs
        cases vs with
        | nil => cases h
        | cons x vs =>
          simp only [parse] at h
          split at h
          case h_2 => cases h
          rename_i p hp1
          split at h
          case h_2 => cases h
          rename_i ps' hps
          cases h
          intro u hu
          rcases List.mem_cons.1 hu with rfl | hu
          · obtain ⟨y, rfl⟩ := hV p (by simp)
            unfold parse1 at hp1
            split at hp1
            · split at hp1 <;> cases hp1
              rename_i hn
              exact noPtr_ok hn (hvs _ (by simp))
            · simp [rd] at hp1
            · split at hp1
              · simp [rd] at hp1
              · cases hp1
            · simp [rd] at hp1
            · cases hp1
          · exact ih vs ps' hps (fun p hp => hV p (by simp [hp])) (fun u hu => hvs u (by simp [hu])) u hu
    exact this ks vs ps hparse hV hvs
  have hH0 : okH [] := fun r b cs h => by simp at h
  obtain ⟨hk, hps, hval, hren⟩ := parse_spec hH0 ks vs ps hparse hvs'
  split at hv
  case h_2 => cases hv
  rename_i x ψ' hg
  simp only [Option.some.injEq, Prod.mk.injEq] at hv
  obtain ⟨rfl, rfl⟩ := hv
  obtain ⟨⟨_, hrv⟩, hcall⟩ := hac ps [] (.val x) ψ' hk hg (fun p hp => (hps p hp).1)
  refine ⟨⟨mono.refl _, (show ok2 [] x from hrv).mono (nil_mono hp), hH⟩, fun w0 W ρ w hI hd => ?_⟩
  have hlie : Lie w ps := by
    refine ⟨fun p hp A cs hat => ?_, fun p hp A cs he => ?_, fun p hp => (hps p hp).1, fun p hp A cs hat => ?_, fun i j p q _ hi hj => ?_⟩
    · obtain ⟨y, rfl⟩ := hV p hp; cases hat
    · obtain ⟨y, rfl⟩ := hV p hp; cases he
    · obtain ⟨y, rfl⟩ := hV p hp; cases hat
    · obtain ⟨y, rfl⟩ := hV p (List.mem_of_getElem? hi); trivial
  have hargs : vs.map (ren ρ) = ps.map AP.val := by
    rw [hren ρ]
    congr 1
    exact (List.map_congr_left (g := id) fun p hp => by obtain ⟨y, rfl⟩ := hV p hp; rfl).trans (by simp)
  rw [hargs]
  refine (hcall w hlie hd).mono fun z w' ⟨h1, h2, h3⟩ => ⟨ρ, Agree.refl _ _, ?_, ?_⟩
  · simp only [Hands, Ending.returned.injEq] at h3
    rw [h3, ok2_nil_ren hrv ρ]
  · have hno : ∀ b o, ¬ Wof ps b o := fun b o ⟨A, cs, hm, _⟩ => by obtain ⟨y, hy⟩ := hV _ hm; cases hy
    have lt : ∀ (r : Nat) (b : Bool) (cs : List Value), hp[r]? = some (some (b, cs)) → ∀ i, i < cs.length → (ρ r).1 < w.heap.size := fun r b cs hr i hi =>
      World.block_lt_of_cell? _ ⟨(ρ r).1, (ρ r).2 + i, none⟩ (hI.cell r b cs hr i _ (List.getElem?_eq_getElem hi))
    exact ⟨fun r b cs hr i v hi => h1.cell (hI.cell r b cs hr i v hi) (hno _ _), fun r cs hr i hi => by
        have := hI.own r cs hr i hi
        rw [h1.frozen (a := ⟨(ρ r).1, (ρ r).2 + i, none⟩) (lt r true cs hr i hi)]; exact this, hI.dis, Fr.through hI.fr h1 fun b o hW => absurd hW (hno b o)⟩

end
end Vm
end Go.Proofs.YtbbifiogcpcpfaaDoor
