/-
  A small symbolic machine, part 11: a region that draws its order: soundness.
-/
import Derived.Test.YtbbifiogcpcpfaaDoorVmDraw
namespace Go.Proofs.YtbbifiogcpcpfaaDoor
namespace Vm
section
variable {P : Program} {E : Env} {ops : Array Oper}

def eff (P : Program) (E : Env) (ops : Array Oper) (B : Nat) (o : Oper) (tm : List Value) (hp : Hp) : Option (Value × Hp × Option Prop) :=
  if wantedS ops o tm then if opsOK o then vsem P E o.op (B + o.dst.getD 0) (o.op.operands.toList.map (evS tm)) hp else none else some (undef, hp, none)
theorem step1_eff (o : Oper) (σ : VS) : step1 P E ops o σ = (eff P E ops σ.bs o σ.tm σ.hp).map fun x => ⟨putT σ.tm o.dst x.1, x.2.1, addvc σ.vc x.2.2, σ.bs⟩ := by
  unfold step1 eff exec1
  split
  · split
    · cases vsem P E o.op (σ.bs + o.dst.getD 0) (o.op.operands.toList.map (evS σ.tm)) σ.hp with
      | none => rfl
      | some x => rfl
    · rfl
  · rfl

theorem putT_get_other {tm : List Value} {dst : Option Tmp} {v : Value} {t : Tmp} (h : dst ≠ some t) : (putT tm dst v)[t]? = tm[t]? := by
  cases dst with
  | none => rfl
  | some d => simp only [putT]; rw [List.getElem?_set_ne]; intro e; exact h (by rw [e])
theorem evS_put {tm : List Value} {dst : Option Tmp} {v : Value} {x : Operand} (h : ∀ d, dst = some d → x ≠ .tmp d) : evS (putT tm dst v) x = evS tm x := by
  cases x with
  | tmp t => simp only [evS]; rw [putT_get_other (fun e => h t e rfl)]
  | _ => rfl
theorem args_put {o : Oper} {tm : List Value} {dst : Option Tmp} {v : Value} (h : ∀ d, dst = some d → d ∉ o.looksAt ops) : o.op.operands.toList.map (evS (putT tm dst v)) = o.op.operands.toList.map (evS tm) :=
  List.map_congr_left fun x hx => evS_put fun d hd hxd => h d hd (by
    subst hxd
    exact List.mem_append_left _ (List.mem_filterMap.2 ⟨.tmp d, hx, rfl⟩))
theorem wanted_put' {o : Oper} {tm : List Value} {dst : Option Tmp} {v : Value} (h : ∀ d, dst = some d → d ∉ o.looksAt ops) : wantedS ops o (putT tm dst v) = wantedS ops o tm := by
  unfold wantedS
  cases hg : o.guard with
  | none => rfl
  | some gw =>
    obtain ⟨g, want⟩ := gw
    have hy : guardB ops (putT tm dst v) g = guardB ops tm g := by
      unfold guardB
      cases ht : (ops[g]?).bind (·.dst) with
      | none => rfl
      | some t =>
        have hne : dst ≠ some t := fun e => h t e (by simp [Oper.looksAt, hg, ht])
        simp only [Option.bind_some, putT_get_other hne]
    simp only [hy]
theorem eff_put {B : Nat} {o : Oper} {tm : List Value} {hp : Hp} {dst : Option Tmp} {v : Value} (h : ∀ d, dst = some d → d ∉ o.looksAt ops) : eff P E ops B o (putT tm dst v) hp = eff P E ops B o tm hp := by
  unfold eff; rw [wanted_put' h, args_put h]

theorem putT_comm (tm : List Value) {x y : Option Tmp} (v u : Value) (h : ∀ d, x = some d → y ≠ some d) : putT (putT tm x v) y u = putT (putT tm y u) x v := by
  cases x with
  | none => rfl
  | some d => cases y with
    | none => rfl
    | some e =>
      have hne : d ≠ e := fun he => h d rfl (he ▸ rfl)
      simp only [putT]; exact List.set_comm _ _ hne

theorem funcArgs (o : Oper) (tm : List Value) : ∀ c f, o.op = .call c → c.callee = .value (.func f) → ∃ args, o.op.operands.toList.map (evS tm) = .func (.func f) #[] #[] :: args := by
  intro c f ho hc
  rw [ho]
  exact ⟨c.args.toList.map (evS tm), by simp [Op.operands, Call.operands, hc, evS]⟩

theorem eff_comm {B : Nat} {oi oj : Oper} {tm : List Value} {hp hp1 hp2 : Hp} {x y : Value} {φi φj : Option Prop} (hap : oi.apart ops oj = true) (hc : clsOK (cls E oi.op) (cls E oj.op) = true)
    (hdi : dstOK E oi = true) (hdj : dstOK E oj = true) (hok : ∀ v ∈ tm, ok2 hp v)
    (hi : eff P E ops B oi tm hp = some (x, hp1, φi)) (hj : eff P E ops B oj tm hp1 = some (y, hp2, φj)) :
    ∃ hp1', eff P E ops B oj tm hp = some (y, hp1', φj) ∧ eff P E ops B oi tm hp1' = some (x, hp2, φi) := by
  unfold eff at *
  by_cases hwi : wantedS ops oi tm = true
  · simp only [if_pos hwi] at hi ⊢
    by_cases hwj : wantedS ops oj tm = true
    · simp only [if_pos hwj] at hj ⊢
      split at hi
      case isFalse => cases hi
      rename_i h1
      split at hj
      case isFalse => cases hj
      rename_i h2
      have okargs : ∀ (o : Oper), opsOK o = true → ∀ u ∈ o.op.operands.toList.map (evS tm), ok2 hp u := by
        intro o ho u hu
        simp only [opsOK, List.all_eq_true] at ho
        obtain ⟨z, hz, rfl⟩ := List.mem_map.1 hu
        have := ho z hz
        cases z with
        | tmp t =>
          simp only [evS]
          cases ht : tm[t]? with
          | none => exact ok_undef _
          | some v => exact hok v (List.mem_of_getElem? ht)
        | const v => exact (plain_ok this hp).1
        | func f => exact ⟨fun _ h => by simp at h, fun _ h => by simp at h⟩
        | global g => cases this
      obtain ⟨_, hdd, _⟩ := Oper.apart_spec hap
      simp only [if_pos h1, if_pos h2]
      refine vsem_comm (funcArgs oi tm) (funcArgs oj tm) hc (fun c1 c2 => ?_) hi hj (okargs oj h2) (okargs oi h1)
      simp [dstOK, c1, c2] at hdi hdj
      cases e1 : oi.dst with
      | none => rw [e1] at hdi; cases hdi
      | some d1 =>
        cases e2 : oj.dst with
        | none => rw [e2] at hdj; cases hdj
        | some d2 =>
          intro he
          simp only [Option.getD_some, Nat.add_left_cancel_iff] at he
          exact hdd d1 e1 (by rw [e2, he])
    · simp only [if_neg hwj] at hj ⊢
      cases hj
      exact ⟨hp, rfl, hi⟩
  · simp only [if_neg hwi] at hi ⊢
    cases hi
    exact ⟨hp2, hj, rfl⟩

theorem step1_comm {oi oj : Oper} {σ σ1 σ2 : VS} (hap : oi.apart ops oj = true) (hc : clsOK (cls E oi.op) (cls E oj.op) = true) (hdi : dstOK E oi = true) (hdj : dstOK E oj = true) (hok : OkS σ)
    (hi : step1 P E ops oi σ = some σ1) (hj : step1 P E ops oj σ1 = some σ2) : ∃ σ1', step1 P E ops oj σ = some σ1' ∧ step1 P E ops oi σ1' = some σ2 := by
  obtain ⟨a1, a2, a3⟩ := Oper.apart_spec hap
  rw [step1_eff] at hi hj
  cases e1 : eff P E ops σ.bs oi σ.tm σ.hp with
  | none => rw [e1] at hi; cases hi
  | some z =>
    obtain ⟨x, hp1, φi⟩ := z
    rw [e1] at hi
    simp only [Option.map_some, Option.some.injEq] at hi
    subst hi
    simp only at hj
    rw [eff_put a1] at hj
    cases e2 : eff P E ops σ.bs oj σ.tm hp1 with
    | none => rw [e2] at hj; cases hj
    | some z =>
      obtain ⟨y, hp2, φj⟩ := z
      rw [e2] at hj
      simp only [Option.map_some, Option.some.injEq] at hj
      subst hj
      obtain ⟨hp1', h1, h2⟩ := eff_comm hap hc hdi hdj hok.tm e1 e2
      refine ⟨⟨putT σ.tm oj.dst y, hp1', addvc σ.vc φj, σ.bs⟩, by rw [step1_eff, h1]; rfl, ?_⟩
      rw [step1_eff]
      simp only
      rw [eff_put a3, h2]
      simp only [Option.map_some, Option.some.injEq, VS.mk.injEq, true_and, and_true]
      refine ⟨(putT_comm σ.tm x y a2).symm, ?_⟩
      cases φi <;> cases φj <;> simp only [addvc]
      exact propext ⟨fun ⟨⟨a, b⟩, c⟩ => ⟨⟨a, c⟩, b⟩, fun ⟨⟨a, b⟩, c⟩ => ⟨⟨a, c⟩, b⟩⟩

def stepI (P : Program) (E : Env) (ops : Array Oper) (i : Nat) (σ : VS) : Option VS :=
  match ops[i]? with
  | some o => step1 P E ops o σ
  | none => none
def runI (P : Program) (E : Env) (ops : Array Oper) : List Nat → VS → Option VS
  | [], σ => some σ
  | i :: rest, σ => match stepI P E ops i σ with
    | some σ' => runI P E ops rest σ'
    | none => none

theorem runL_runI : ∀ (l : List Oper) (k : Nat) (σ : VS), (∀ j, l[j]? = ops[k + j]?) → runL P E ops l σ = runI P E ops (List.range' k l.length) σ
  | [], k, σ, _ => rfl
  | o :: l, k, σ, h => by
    have h0 : ops[k]? = some o := by simpa using (h 0).symm
    simp only [List.length_cons, List.range'_succ, runL, runI, stepI, h0]
    cases step1 P E ops o σ with
    | none => rfl
    | some σ' => exact runL_runI l (k + 1) σ' fun j => by have := h (j + 1); simpa [Nat.add_assoc, Nat.add_comm 1 j] using this

structure DrawOK (E : Env) (ops : Array Oper) : Prop where
  sel : ∀ (i : Nat) o cs b, ops[i]? = some o → o.op ≠ .select cs b
  dst : ∀ (i : Nat) o, ops[i]? = some o → dstOK E o = true
  low : ∀ (i : Nat) o, ops[i]? = some o → ∀ p ∈ preds o, p < i
  pair : ∀ (i j : Nat) oi oj, i < j → ops[i]? = some oi → ops[j]? = some oj → ((((bfs ops.toList [])[j]?).getD 0).testBit i = true) ∨ (oi.apart ops oj = true ∧ clsOK (cls E oi.op) (cls E oj.op) = true)

theorem drawOK_spec (h : drawOK E ops = true) : DrawOK E ops := by
  simp only [drawOK, Bool.and_eq_true, List.all_eq_true] at h
  obtain ⟨⟨⟨h1, h2⟩, h3⟩, h4⟩ := h
  have mem : ∀ (i : Nat) o, ops[i]? = some o → o ∈ ops.toList := fun i o ho => by simpa using Array.mem_of_getElem? ho
  refine ⟨fun i o cs b ho hs => ?_, fun i o ho => h2 o (mem i o ho), fun i o ho p hp => ?_, fun i j oi oj hij hi hj => ?_⟩
  · have := h1 o (mem i o ho); simp [noSel, hs] at this
  · have := predsLow_spec ops.toList 0 h3 i o (by simpa using ho) p hp; omega
  · have := pairsOK_spec ops.toList 0 h4 j oj (by simpa using hj) i oi (by omega) (by simpa using hi)
    simpa using this

theorem stepI_ok (hE : EnvOK P E) (hD : DrawOK E ops) {i : Nat} {σ σ' : VS} (h : stepI P E ops i σ = some σ') (hok : OkS σ) (hal : AlP E σ.hp) : ∃ o, ops[i]? = some o ∧ Goes P E ops o σ σ' := by
  unfold stepI at h
  split at h
  · rename_i o ho
    exact ⟨o, ho, step1_sound hE h hok hal (fun cs b => hD.sel i o cs b ho)⟩
  · cases h

/-- An operation that nothing ahead of it holds back may be taken first. -/
theorem runI_first (hE : EnvOK P E) (hD : DrawOK E ops) {j : Nat} {oj : Oper} (hj : ops[j]? = some oj) (post : List Nat) : ∀ (pre : List Nat) (σ σ' : VS), OkS σ → AlP E σ.hp →
    (∀ i ∈ pre, ∀ oi, ops[i]? = some oi → oi.apart ops oj = true ∧ clsOK (cls E oi.op) (cls E oj.op) = true) →
    runI P E ops (pre ++ j :: post) σ = some σ' → ∃ σ1, stepI P E ops j σ = some σ1 ∧ runI P E ops (pre ++ post) σ1 = some σ'
  | [], σ, σ', _, _, _, h => by
    simp only [List.nil_append, runI] at h
    split at h
    · rename_i σ1 h1; exact ⟨σ1, h1, h⟩
    · cases h
  | i :: pre, σ, σ', hok, hal, hp, h => by
    simp only [List.cons_append, runI] at h
    split at h
    · rename_i σ1 h1
      obtain ⟨oi, hoi, hg⟩ := stepI_ok hE hD h1 hok hal
      obtain ⟨σ2, h2, h3⟩ := runI_first hE hD hj post pre σ1 σ' hg.1 (hal.mono hg.2.2.1) (fun i hi => hp i (by simp [hi])) h
      obtain ⟨ha, hc⟩ := hp i (by simp) oi hoi
      have h1' : step1 P E ops oi σ = some σ1 := by simpa [stepI, hoi] using h1
      have h2' : step1 P E ops oj σ1 = some σ2 := by simpa [stepI, hj] using h2
      obtain ⟨σ1', k1, k2⟩ := step1_comm ha hc (hD.dst i oi hoi) (hD.dst j oj hj) hok h1' h2'
      refine ⟨σ1', by simpa [stepI, hj] using k1, ?_⟩
      simp only [List.cons_append, runI, stepI, hoi, k2]
      exact h3
    · cases h

def rem (ops : Array Oper) (listed : Array Bool) : List Nat := (List.range ops.size).filter fun i => !listed.getD i true

theorem mem_rem {listed : Array Bool} {i : Nat} : i ∈ rem ops listed ↔ i < ops.size ∧ listed.getD i true = false := by
  simp [rem, List.mem_filter]
theorem rem_sorted (listed : Array Bool) : (rem ops listed).Pairwise (· < ·) := List.Pairwise.filter _ List.pairwise_lt_range

theorem listed_or {listed : Array Bool} (hs : listed.size = ops.size) {p : Nat} (hp : p < ops.size) (h : p ∉ rem ops listed) : listed.getD p false = true := by
  rw [mem_rem] at h
  have hlt : p < listed.size := by omega
  simp only [hp, true_and] at h
  simp [hlt] at h ⊢
  exact h

theorem rem_set {listed : Array Bool} (hs : listed.size = ops.size) {j : Nat} {pre post : List Nat} (h : rem ops listed = pre ++ j :: post) : rem ops (listed.setIfInBounds j true) = pre ++ post := by
  have hso := rem_sorted (ops := ops) listed
  have hj : j ∈ rem ops listed := by rw [h]; simp
  have hjl : j < listed.size := by have := (mem_rem.1 hj).1; omega
  have e : rem ops (listed.setIfInBounds j true) = (rem ops listed).filter fun i => i != j := by
    unfold rem
    rw [List.filter_filter]
    refine List.filter_congr fun i _ => ?_
    by_cases hij : i = j
    · subst hij; simp [hjl]
    · rw [getD_set_ne true (Ne.symm hij)]
      simp [hij]
  rw [e, h]
  rw [h] at hso
  rw [List.pairwise_append] at hso
  obtain ⟨_, h2, h3⟩ := hso
  rw [List.pairwise_cons] at h2
  rw [List.filter_append, List.filter_cons]
  simp only [bne_self_eq_false, Bool.false_eq_true, if_false]
  congr 1
  · rw [List.filter_eq_self]; intro i hi; have := h3 i hi j (by simp); simp; omega
  · rw [List.filter_eq_self]; intro i hi; have := h2.1 i hi; simp; omega

theorem any_sound (hE : EnvOK P E) (hD : DrawOK E ops) (w0 : World) (W : Nat → Nat → Prop) (Q : Exit → Act → World → Prop) : ∀ (fuel : Nat) (listed : Array Bool) (σ σ' : VS),
    listed.size = ops.size → Closed ops (fun k => listed.getD k false = true) → (rem ops listed).length = fuel → runI P E ops (rem ops listed) σ = some σ' → OkS σ → AlP E σ.hp → σ'.vc →
    ∀ ρ a w, SimA ρ σ.tm a → Inv w0 W ρ σ.hp w → AlOK E ρ → (∀ ρ' a' w', Agree σ.hp ρ ρ' → SimA ρ' σ'.tm a' → Inv w0 W ρ' σ'.hp w' → Q .normal a' w') → wpAny P .any ops Q fuel listed a w
  | 0, listed, σ, σ', hs, hcl, hlen, hrun, hok, hal, hvc, ρ, a, w, hA, hI, hAl, hn => by
    have hnil : rem ops listed = [] := List.eq_nil_of_length_eq_zero hlen
    refine ⟨?_, ?_⟩
    · cases hr : Region.ready .any ops listed with
      | nil => rfl
      | cons j l =>
        have hj : j ∈ Region.ready .any ops listed := by rw [hr]; simp
        obtain ⟨h1, o, ho, _⟩ := mem_ready.1 hj
        have : j ∈ rem ops listed := mem_rem.2 ⟨(Array.getElem?_eq_some_iff.1 ho).1, h1⟩
        rw [hnil] at this; cases this
    · rw [hnil] at hrun
      cases hrun
      exact hn ρ a w (Agree.refl _ _) hA hI
  | fuel + 1, listed, σ, σ', hs, hcl, hlen, hrun, hok, hal, hvc, ρ, a, w, hA, hI, hAl, hn => by
    have hso := rem_sorted (ops := ops) listed
    refine ⟨fun h => ?_, fun j hj => ?_⟩
    · exfalso
      cases hr : rem ops listed with
      | nil => rw [hr] at hlen; cases hlen
      | cons i0 l =>
        have hi0 : i0 ∈ rem ops listed := by rw [hr]; simp
        obtain ⟨hlt, hun⟩ := mem_rem.1 hi0
        have : i0 ∈ Region.ready .any ops listed := by
          refine mem_ready.2 ⟨hun, ops[i0], Array.getElem?_eq_getElem hlt, fun e he hb => ?_⟩
          have hp : e.on ∈ preds ops[i0] := List.mem_map.2 ⟨e, List.mem_filter.2 ⟨by simpa using he, hb⟩, rfl⟩
          have hlow := hD.low i0 _ (Array.getElem?_eq_getElem hlt) e.on hp
          refine listed_or hs (by omega) fun hm => ?_
          rw [hr] at hm hso
          rw [List.pairwise_cons] at hso
          rcases List.mem_cons.1 hm with h' | h'
          · omega
          · have := hso.1 _ h'; omega
        rw [h] at this; cases this
    · obtain ⟨hun, oj, hoj, hall⟩ := mem_ready.1 hj
      have hjlt : j < ops.size := (Array.getElem?_eq_some_iff.1 hoj).1
      have hjrem : j ∈ rem ops listed := mem_rem.2 ⟨hjlt, hun⟩
      obtain ⟨pre, post, hsplit⟩ := List.append_of_mem hjrem
      have hpl : ∀ p ∈ preds oj, listed.getD p false = true := by
        intro p hp
        obtain ⟨e, he, rfl⟩ := List.mem_map.1 hp
        obtain ⟨he1, he2⟩ := List.mem_filter.1 he
        exact hall e (by simpa using he1) he2
      have hfree : ∀ i ∈ pre, ∀ oi, ops[i]? = some oi → oi.apart ops oj = true ∧ clsOK (cls E oi.op) (cls E oj.op) = true := by
        intro i hi oi hoi
        have hij : i < j := by
          rw [hsplit, List.pairwise_append] at hso
          exact hso.2.2 i hi j (by simp)
        refine (hD.pair i j oi oj hij hoi hoj).resolve_left fun hb => ?_
        have hl := bfs_spec ops (fun k => listed.getD k false = true) hcl ops.toList [] (fun j => by simp) (fun j o hj => by simp at hj) j oj hoj (by rw [bfs_length]; simpa using hjlt) hpl i hb
        have hirem : i ∈ rem ops listed := by rw [hsplit]; simp [hi]
        have := (mem_rem.1 hirem).2
        have hil : i < listed.size := by have := (mem_rem.1 hirem).1; omega
        simp [hil] at hl this
        rw [hl] at this; cases this
      rw [hsplit] at hrun hlen
      obtain ⟨σ1, h1, h2⟩ := runI_first hE hD hoj post pre σ σ' hok hal hfree hrun
      obtain ⟨o', ho', hg⟩ := stepI_ok hE hD h1 hok hal
      rw [hoj] at ho'; cases ho'
      obtain ⟨hok1, hvc1, hm1, hs1⟩ := hg
      have hrem := rem_set hs hsplit
      have hcl' : Closed ops (fun k => (listed.setIfInBounds j true).getD k false = true) := by
        intro k o ho hk p hp
        by_cases hkj : k = j
        · subst hkj
          rw [hoj] at ho; cases ho
          exact getD_set_true (hpl p hp)
        · have hk' : listed.getD k false = true := by
            have h' : (listed.setIfInBounds j true).getD k false = true := hk
            rwa [getD_set_ne false (Ne.symm hkj)] at h'
          exact getD_set_true (hcl k o ho hk' p hp)
      have hvcs : σ1.vc := by
        have mono_vc : ∀ (l : List Nat) (σ σ' : VS), OkS σ → AlP E σ.hp → runI P E ops l σ = some σ' → σ'.vc → σ.vc := by
          intro l
          induction l with
          | nil => intro σ σ' _ _ h hv; cases h; exact hv
          | cons i l ih =>
            intro σ σ' hok hal h hv
            simp only [runI] at h
            split at h
            · rename_i σ2 hh
              obtain ⟨o, _, hg⟩ := stepI_ok hE hD hh hok hal
              exact hg.2.1 (ih σ2 σ' hg.1 (hal.mono hg.2.2.1) h hv)
            · cases h
        exact mono_vc _ σ1 σ' hok1 (hal.mono hm1) h2 hvc
      have := hs1 w0 W ρ a w hA hI hAl hvcs (wpAny P .any ops Q fuel (listed.setIfInBounds j true)) Q fun ρ' a' w' hag hA' hI' =>
        any_sound hE hD w0 W Q fuel (listed.setIfInBounds j true) σ1 σ' (by simp [hs]) hcl' (by rw [hrem]; simp at hlen ⊢; omega) (by rw [hrem]; exact h2) hok1 (hal.mono hm1) hvc ρ' a' w' hA' hI' (hAl.agree hal hag)
          (fun ρ2 a2 w2 hag2 hA2 hI2 => hn ρ2 a2 w2 (hag.trans hm1 hag2) hA2 hI2)
      unfold wpOp
      simp only [hoj]
      split
      · rename_i hw; rw [if_pos hw] at this; exact .inl this
      · rename_i hw; rw [if_neg hw] at this; exact this

end
end Vm
end Go.Proofs.YtbbifiogcpcpfaaDoor
