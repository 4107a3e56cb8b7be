/-
  A small symbolic machine, part 16: from a virtual run of a function to its contract.
-/
import Derived.Test.YtbbifiogcpcpfaaDoorVmLift
namespace Go.Proofs.YtbbifiogcpcpfaaDoor
namespace Vm

/-- Whose row a parameter's is: its own, or (read and written at one place) that of a written one. -/
abbrev Al := List (Option Nat)
def okAl (ks : List PK) : List PK → Al → Bool
  | [], [] => true
  | .V :: l, none :: as => okAl ks l as
  | .W _ :: l, none :: as => okAl ks l as
  | .R _ :: l, none :: as => okAl ks l as
  | .S _ :: l, none :: as => okAl ks l as
  | .R n :: l, some i :: as => (match ks[i]? with
    | some (.W m) => Nat.beq n m
    | _ => false) && okAl ks l as
  | .S n :: l, some i :: as => (match ks[i]? with
    | some (.W m) => Nat.beq n m
    | _ => false) && okAl ks l as
  | _, _ => false
/-- The regions that a virtual call starts with, behind the function's own. -/
def vregs : List PK → Al → List (List Value) → Hp
  | .V :: ks, _ :: as, _ :: cs => none :: vregs ks as cs
  | .W _ :: ks, _ :: as, c :: cs => some (true, c) :: vregs ks as cs
  | _ :: ks, none :: as, c :: cs => some (false, c) :: vregs ks as cs
  | _ :: ks, some _ :: as, _ :: cs => none :: vregs ks as cs
  | _, _, _ => []
def vargs (nt : Nat) : Nat → List PK → Al → List (List Value) → List Nat → List Value
  | j, .V :: ks, _ :: as, c :: cs, _ :: caps => c.headD undef :: vargs nt (j + 1) ks as cs caps
  | j, .W _ :: ks, _ :: as, _ :: cs, _ :: caps => .pointer (some ⟨nt + j, 0, none⟩) :: vargs nt (j + 1) ks as cs caps
  | j, .R _ :: ks, none :: as, _ :: cs, _ :: caps => .pointer (some ⟨nt + j, 0, none⟩) :: vargs nt (j + 1) ks as cs caps
  | j, .R _ :: ks, some i :: as, _ :: cs, _ :: caps => .pointer (some ⟨nt + i, 0, none⟩) :: vargs nt (j + 1) ks as cs caps
  | j, .S n :: ks, none :: as, _ :: cs, cap :: caps => .slice (some ⟨nt + j, 0, none⟩) n cap :: vargs nt (j + 1) ks as cs caps
  | j, .S n :: ks, some i :: as, _ :: cs, cap :: caps => .slice (some ⟨nt + i, 0, none⟩) n cap :: vargs nt (j + 1) ks as cs caps
  | _, _, _, _, _ => []
def pad (n : Nat) (l : Hp) : Hp := List.replicate n none ++ l
/-- Where the written rows are found behind a run. -/
def newsAt (hp : Hp) (nt : Nat) : Nat → List PK → List (List Value) → Prop
  | _, [], ns => ns = []
  | j, .W n :: ks, ns => (match ns with
    | m :: ns => m.length = n ∧ hp[nt + j]? = some (some (true, m)) ∧ newsAt hp nt (j + 1) ks ns
    | [] => False)
  | j, _ :: ks, ns => newsAt hp nt (j + 1) ks ns
def handsAt (args : List Value) (out : Out) (nt : Nat) : RV → Prop
  | .val v => out.val = v
  | .same j => args[j]? = some out.val
  | .fresh cs vs => 0 < cs.length ∧ ∃ l, (l < nt ∨ nt + args.length ≤ l) ∧ out.val = freshV (.slice (some ⟨l, 0, none⟩) cs.length cs.length) vs ∧ out.hp[l]? = some (some (true, cs))

/-- The contents hang together with who shares a row with whom. -/
def alSame (cs0 : List (List Value)) : Al → List (List Value) → Prop
  | none :: as, _ :: cs => alSame cs0 as cs
  | some i :: as, c :: cs => cs0[i]? = some c ∧ alSame cs0 as cs
  | _, _ => True

def PK.len : PK → Nat
  | .V => 1
  | .R n => n
  | .S n => n
  | .W n => n
def lens : List PK → List (List Value) → Prop
  | [], [] => True
  | k :: ks, c :: cs => c.length = k.len ∧ lens ks cs
  | _, _ => False
/-- **What is to be shown of a function's virtual runs.** -/
def RunOK (P : Program) (E : Env) (fn : Func) (ks : List PK) (g : Gf) : Prop :=
  ∀ (cs : List (List Value)) news rv φ, g cs = some (news, rv, φ) → lens ks cs → (∀ c ∈ cs, ∀ u ∈ c, ok2 [] u) →
    ((∀ n ∈ news, ∀ u ∈ n, ok0 [] u) ∧ RVok rv) ∧
    ∀ (as : Al) caps, okAl ks ks as = true → alSame cs as cs → caps.length = ks.length →
      (due φ → ∃ n out, frun P E n fn (vargs fn.ntmps 0 ks as cs caps) (pad fn.ntmps (vregs ks as cs)) = some out ∧ out.vc ∧
        newsAt out.hp fn.ntmps 0 ks news ∧ handsAt (vargs fn.ntmps 0 ks as cs caps) out fn.ntmps rv)

section
variable {P : Program} {E : Env}

/-- Whose row: found among the written ones. -/
def findW (A : Addr) (n : Nat) : Nat → List AP → Option Nat
  | _, [] => none
  | i, .w B ds :: ps => if A.block = B.block ∧ A.off = B.off ∧ n = ds.length then some i else findW A n (i + 1) ps
  | i, _ :: ps => findW A n (i + 1) ps
def alOf (all : List AP) : List AP → Al
  | [] => []
  | .v _ :: ps => none :: alOf all ps
  | .w _ _ :: ps => none :: alOf all ps
  | .r A cs :: ps => findW A cs.length 0 all :: alOf all ps
  | .s A cs _ :: ps => findW A cs.length 0 all :: alOf all ps
def capOf : AP → Nat
  | .s _ _ c => c
  | _ => 0
def placeOf (ps : List AP) (j : Nat) : Nat × Nat :=
  match (ps[j]?).bind AP.at? with
  | some (A, _) => (A.block, A.off)
  | none => (0, 0)
def embOf (nt : Nat) (ps : List AP) : Emb := fun r => if r < nt then (0, 0) else placeOf ps (r - nt)

theorem findW_some {A : Addr} {n : Nat} : ∀ (ps : List AP) (i k : Nat), findW A n i ps = some k → ∃ B ds, i ≤ k ∧ ps[k - i]? = some (.w B ds) ∧ A.block = B.block ∧ A.off = B.off ∧ n = ds.length
  | [], i, k, h => by cases h
  | p :: ps, i, k, h => by
    have rest : findW A n (i + 1) ps = some k → ∃ B ds, i ≤ k ∧ (p :: ps)[k - i]? = some (.w B ds) ∧ A.block = B.block ∧ A.off = B.off ∧ n = ds.length := fun h => by
      obtain ⟨B, ds, h1, h2, h3⟩ := findW_some ps (i + 1) k h
      refine ⟨B, ds, by omega, ?_, h3⟩
      rw [show k - i = (k - (i + 1)) + 1 by omega]
      simpa using h2
    cases p with
    | w B ds =>
      simp only [findW] at h
      split at h
      · rename_i hc
        cases h
        exact ⟨B, ds, Nat.le_refl _, by simp, hc⟩
      · exact rest h
    | v x => exact rest h
    | r B ds => exact rest h
    | s B ds c => exact rest h
theorem findW_none {A : Addr} {n : Nat} : ∀ (ps : List AP) (i : Nat), findW A n i ps = none → ∀ B ds, AP.w B ds ∈ ps → ¬ (A.block = B.block ∧ A.off = B.off ∧ n = ds.length)
  | [], i, h, B, ds, hm => by simp at hm
  | p :: ps, i, h, B, ds, hm => by
    cases p with
    | w C es =>
      simp only [findW] at h
      split at h
      · cases h
      · rename_i hc
        rcases List.mem_cons.1 hm with he | hm
        · simp only [AP.w.injEq] at he; obtain ⟨rfl, rfl⟩ := he; exact hc
        · exact findW_none ps (i + 1) h B ds hm
    | v x => rcases List.mem_cons.1 hm with he | hm; cases he; exact findW_none ps (i + 1) h B ds hm
    | r C es => rcases List.mem_cons.1 hm with he | hm; cases he; exact findW_none ps (i + 1) h B ds hm
    | s C es c => rcases List.mem_cons.1 hm with he | hm; cases he; exact findW_none ps (i + 1) h B ds hm

theorem kinds_length : ∀ (ps : List AP) (ks : List PK), kindsOK ps ks → ps.length = ks.length
  | [], [], _ => rfl
  | [], _ :: _, h => h.elim
  | _ :: _, [], h => h.elim
  | p :: ps, k :: ks, h => by simp [kinds_length ps ks h.2]
theorem kinds_get : ∀ (ps : List AP) (ks : List PK), kindsOK ps ks → ∀ (i : Nat) p, ps[i]? = some p → ∃ k, ks[i]? = some k ∧ p.is k
  | [], [], _, i, p, h => by simp at h
  | [], _ :: _, h, _, _, _ => h.elim
  | _ :: _, [], h, _, _, _ => h.elim
  | x :: ps, k :: ks, h, i, p, hi => by
    cases i with
    | zero => simp only [List.getElem?_cons_zero, Option.some.injEq] at hi; subst hi; exact ⟨k, rfl, h.1⟩
    | succ i => simpa using kinds_get ps ks h.2 i p (by simpa using hi)

theorem al_ok {all : List AP} {ks0 : List PK} (h0 : kindsOK all ks0) : ∀ (ps : List AP) (ks : List PK), kindsOK ps ks → okAl ks0 ks (alOf all ps) = true
  | [], [], _ => rfl
  | [], _ :: _, h => h.elim
  | _ :: _, [], h => h.elim
  | p :: ps, k :: ks, h => by
    have ih := al_ok h0 ps ks h.2
    have hk := h.1
    have wk : ∀ {A : Addr} {n i}, findW A n 0 all = some i → ∃ m, ks0[i]? = some (.W m) ∧ n = m := by
      intro A n i hf
      obtain ⟨B, ds, _, h2, _, _, h5⟩ := findW_some all 0 i hf
      obtain ⟨k', h3, h4⟩ := kinds_get all ks0 h0 i _ (by simpa using h2)
      cases k' <;> try exact h4.elim
      rename_i m
      exact ⟨m, h3, h5.trans h4⟩
    cases p <;> cases k <;> try exact hk.elim
    · exact ih
    · rename_i A cs n
      have hn : cs.length = n := hk
      simp only [alOf]
      cases hf : findW A cs.length 0 all with
      | none => exact ih
      | some i =>
        obtain ⟨m, h1, h2⟩ := wk hf
        simp only [okAl, h1, ih, Bool.and_true]
        rw [← hn, h2]; simp
    · rename_i A cs c n
      have hn : cs.length = n := hk
      simp only [alOf]
      cases hf : findW A cs.length 0 all with
      | none => exact ih
      | some i =>
        obtain ⟨m, h1, h2⟩ := wk hf
        simp only [okAl, h1, ih, Bool.and_true]
        rw [← hn, h2]; simp
    · exact ih

theorem addr_eq {A B : Addr} (h1 : A.block = B.block) (h2 : A.off = B.off) (hA : A.spot = none) (hB : B.spot = none) : A = B := by
  cases A; cases B; simp_all

theorem al_same {w : World} {all : List AP} (hl : Lie w all) : ∀ (ps : List AP) (k : Nat), (∀ j, ps[j]? = all[k + j]?) → alSame (all.map AP.con) (alOf all ps) (ps.map AP.con)
  | [], _, _ => trivial
  | p :: ps, k, h => by
    have ih := al_same hl ps (k + 1) (fun j => by have := h (j + 1); simpa [Nat.add_assoc, Nat.add_comm 1 j] using this)
    have hp : all[k]? = some p := by simpa using (h 0).symm
    have key : ∀ A cs, p.at? = some (A, cs) → p.isW = false → ∀ i, findW A cs.length 0 all = some i → (all.map AP.con)[i]? = some cs := by
      intro A cs hat hpw i hf
      obtain ⟨B, ds, _, h2, h3, h4, h5⟩ := findW_some all 0 i hf
      simp only [Nat.sub_zero] at h2
      have hne : i ≠ k := by
        intro e; subst e; rw [hp] at h2; cases h2; cases hpw
      have hpair := hl.pair i k _ _ hne h2 hp
      have hmem := List.mem_of_getElem? h2
      have hsB := (hl.holds _ hmem B ds rfl)
      have hsA := (hl.holds p (List.mem_of_getElem? hp) A cs hat)
      have hAB : A = B := addr_eq h3 h4 hsA.1 hsB.1
      subst hAB
      rw [List.getElem?_map, h2]
      simp only [Option.map_some, AP.con, Option.some.injEq]
      -- both read the same cells
      apply List.ext_getElem?
      intro t
      by_cases ht : t < ds.length
      · have e1 := hsB.2 t _ (List.getElem?_eq_getElem ht)
        have e2 := hsA.2 t _ (List.getElem?_eq_getElem (l := cs) (i := t) (by omega))
        rw [e1] at e2
        rw [List.getElem?_eq_getElem ht, List.getElem?_eq_getElem (l := cs) (i := t) (by omega)]
        exact e2
      · rw [List.getElem?_eq_none (by omega), List.getElem?_eq_none (by omega)]
    cases p with
    | v x => exact ih
    | w A cs => exact ih
    | r A cs =>
      simp only [alOf, List.map_cons]
      cases hf : findW A cs.length 0 all with
      | none => exact ih
      | some i => exact ⟨key A cs rfl rfl i hf, ih⟩
    | s A cs c =>
      simp only [alOf, List.map_cons]
      cases hf : findW A cs.length 0 all with
      | none => exact ih
      | some i => exact ⟨key A cs rfl rfl i hf, ih⟩

theorem vregs_get {all : List AP} : ∀ (ps : List AP) (ks : List PK), kindsOK ps ks → ∀ (j : Nat) b cs, (vregs ks (alOf all ps) (ps.map AP.con))[j]? = some (some (b, cs)) →
    ∃ p A, ps[j]? = some p ∧ p.at? = some (A, cs) ∧ b = p.isW ∧ (p.isW = false → findW A cs.length 0 all = none)
  | [], [], _, j, b, cs, h => by simp [vregs] at h
  | [], _ :: _, h, _, _, _, _ => h.elim
  | _ :: _, [], h, _, _, _, _ => h.elim
  | p :: ps, k :: ks, hk, j, b, cs, h => by
    have ih := vregs_get (all := all) ps ks hk.2
    have hk1 := hk.1
    cases j with
    | succ j =>
      obtain ⟨q, A, h1, h2⟩ := ih j b cs (by
        revert h
        cases p <;> cases k <;> try exact hk1.elim
        · exact fun h => by simpa [alOf, vregs] using h
        · rename_i A ds n
          simp only [alOf, List.map_cons]
          cases findW A ds.length 0 all <;> exact fun h => by simpa [vregs] using h
        · rename_i A ds c n
          simp only [alOf, List.map_cons]
          cases findW A ds.length 0 all <;> exact fun h => by simpa [vregs] using h
        · exact fun h => by simpa [alOf, vregs] using h)
      exact ⟨q, A, by simpa using h1, h2⟩
    | zero =>
      cases p <;> cases k <;> try exact hk1.elim
      · simp [alOf, vregs] at h
      · rename_i A ds n
        simp only [alOf, List.map_cons] at h
        cases hf : findW A ds.length 0 all with
        | none => rw [hf] at h; simp only [vregs, AP.con, List.getElem?_cons_zero, Option.some.injEq, Prod.mk.injEq] at h; obtain ⟨rfl, rfl⟩ := h; exact ⟨_, A, rfl, rfl, rfl, fun _ => hf⟩
        | some i => rw [hf] at h; simp [vregs] at h
      · rename_i A ds c n
        simp only [alOf, List.map_cons] at h
        cases hf : findW A ds.length 0 all with
        | none => rw [hf] at h; simp only [vregs, AP.con, List.getElem?_cons_zero, Option.some.injEq, Prod.mk.injEq] at h; obtain ⟨rfl, rfl⟩ := h; exact ⟨_, A, rfl, rfl, rfl, fun _ => hf⟩
        | some i => rw [hf] at h; simp [vregs] at h
      · rename_i A ds n
        simp only [alOf, List.map_cons, vregs, AP.con, List.getElem?_cons_zero, Option.some.injEq, Prod.mk.injEq] at h
        obtain ⟨rfl, rfl⟩ := h
        exact ⟨_, A, rfl, rfl, rfl, fun h => by cases h⟩

theorem pad_get {n : Nat} {l : Hp} {r : Nat} {x : Bool × List Value} : (pad n l)[r]? = some (some x) ↔ n ≤ r ∧ l[r - n]? = some (some x) := by
  unfold pad
  by_cases h : r < n
  · rw [List.getElem?_append_left (by simpa using h), List.getElem?_replicate]
    simp [h]
    intro hn; omega
  · rw [List.getElem?_append_right (by simpa using Nat.le_of_not_lt h), List.length_replicate]
    simp [Nat.le_of_not_lt h]

theorem inv_of {w : World} {ps : List AP} {ks : List PK} (hk : kindsOK ps ks) (hl : Lie w ps) (nt : Nat) :
    Inv w (Wof ps) (embOf nt ps) (pad nt (vregs ks (alOf ps ps) (ps.map AP.con))) w := by
  have place : ∀ {r p A cs}, nt ≤ r → ps[r - nt]? = some p → p.at? = some (A, cs) → embOf nt ps r = (A.block, A.off) := by
    intro r p A cs hr hp hat
    simp only [embOf, if_neg (Nat.not_lt.2 hr), placeOf, hp, Option.bind_some, hat]
  refine ⟨fun r b cs hr i v hi => ?_, fun r cs hr i hi => ?_, fun r r' b cs b' cs' hne hr hr' hb i i' hi hi' => ?_, Fr.refl _ _⟩
  · obtain ⟨h1, h2⟩ := pad_get.1 hr
    obtain ⟨p, A, h3, h4, h5, h6⟩ := vregs_get ps ks hk _ b cs h2
    have hm := List.mem_of_getElem? h3
    rw [place h1 h3 h4, ok0_nil_ren (hl.flat p hm A cs h4 v (List.mem_of_getElem? hi))]
    exact (hl.holds p hm A cs h4).2 i v hi
  · obtain ⟨h1, h2⟩ := pad_get.1 hr
    obtain ⟨p, A, h3, h4, h5, h6⟩ := vregs_get ps ks hk _ true cs h2
    have hm := List.mem_of_getElem? h3
    cases p <;> simp only [AP.isW, Bool.true_eq_false] at h5 <;> try cases h5
    rename_i B ds
    simp only [AP.at?, Option.some.injEq, Prod.mk.injEq] at h4
    obtain ⟨rfl, rfl⟩ := h4
    rw [place h1 h3 rfl]
    exact ⟨hl.free _ hm B ds rfl i hi, .inr ⟨B, ds, hm, rfl, i, hi, rfl⟩⟩
  · obtain ⟨h1, h2⟩ := pad_get.1 hr
    obtain ⟨p, A, h3, h4, h5, h6⟩ := vregs_get ps ks hk _ b cs h2
    obtain ⟨k1, k2⟩ := pad_get.1 hr'
    obtain ⟨q, B, k3, k4, k5, k6⟩ := vregs_get ps ks hk _ b' cs' k2
    rw [place h1 h3 h4, place k1 k3 k4]
    simp only
    have hne' : r - nt ≠ r' - nt := by omega
    have mp := List.mem_of_getElem? h3
    have mq := List.mem_of_getElem? k3
    have half : ∀ {a a' : Nat} {p q : AP} {A B : Addr} {cs cs' : List Value}, a ≠ a' → ps[a]? = some p → ps[a']? = some q → p.isW = true → p.at? = some (A, cs) → q.at? = some (B, cs') →
        (q.isW = false → findW B cs'.length 0 ps = none) → Apart A cs.length B cs'.length := by
      intro a a' p q A B cs cs' hne hp hq hw hA hB hfn
      have hpair := hl.pair a a' p q hne hp hq
      cases p <;> simp only [AP.isW, Bool.false_eq_true] at hw
      rename_i C es
      simp only [AP.at?, Option.some.injEq, Prod.mk.injEq] at hA
      obtain ⟨rfl, rfl⟩ := hA
      have hmp := List.mem_of_getElem? hp
      cases q with
      | v x => cases hB
      | r D fs =>
        simp only [AP.at?, Option.some.injEq, Prod.mk.injEq] at hB
        obtain ⟨rfl, rfl⟩ := hB
        rcases hpair with ⟨rfl, rfl⟩ | h
        · exact absurd ⟨rfl, rfl, rfl⟩ (findW_none ps 0 (hfn rfl) _ _ hmp)
        · exact h
      | s D fs c =>
        simp only [AP.at?, Option.some.injEq, Prod.mk.injEq] at hB
        obtain ⟨rfl, rfl⟩ := hB
        rcases hpair with ⟨rfl, rfl⟩ | h
        · exact absurd ⟨rfl, rfl, rfl⟩ (findW_none ps 0 (hfn rfl) _ _ hmp)
        · exact h
      | w D fs =>
        simp only [AP.at?, Option.some.injEq, Prod.mk.injEq] at hB
        obtain ⟨rfl, rfl⟩ := hB
        exact hpair
    simp only [Bool.or_eq_true] at hb
    rcases hb with hb | hb
    · exact half hne' h3 k3 (h5 ▸ hb) h4 k4 k6 i i' hi hi'
    · have := half (Ne.symm hne') k3 h3 (k5 ▸ hb) k4 h4 h6 i' i hi' hi
      rcases this with h | h
      · exact .inl (Ne.symm h)
      · exact .inr (Ne.symm h)

theorem vargs_ren {w : World} {all : List AP} (hl : Lie w all) (nt : Nat) : ∀ (ps : List AP) (ks : List PK) (j : Nat), kindsOK ps ks → (∀ i, ps[i]? = all[j + i]?) →
    (vargs nt j ks (alOf all ps) (ps.map AP.con) (ps.map capOf)).map (ren (embOf nt all)) = ps.map AP.val
  | [], [], _, _, _ => rfl
  | [], _ :: _, _, h, _ => h.elim
  | _ :: _, [], _, h, _ => h.elim
  | p :: ps, k :: ks, j, hk, hsub => by
    have ih := vargs_ren hl nt ps ks (j + 1) hk.2 (fun i => by have := hsub (i + 1); simpa [Nat.add_assoc, Nat.add_comm 1 i] using this)
    have hp : all[j]? = some p := by simpa using (hsub 0).symm
    have hm := List.mem_of_getElem? hp
    have place : ∀ {i q A cs}, all[i]? = some q → q.at? = some (A, cs) → embOf nt all (nt + i) = (A.block, A.off) := by
      intro i q A cs hq hat
      simp only [embOf, if_neg (Nat.not_lt.2 (Nat.le_add_right nt i)), Nat.add_sub_cancel_left, placeOf, hq, Option.bind_some, hat]
    have ptr : ∀ {i q A cs}, all[i]? = some q → q.at? = some (A, cs) → rena (embOf nt all) ⟨nt + i, 0, none⟩ = A := by
      intro i q A cs hq hat
      have hs := (hl.holds q (List.mem_of_getElem? hq) A cs hat).1
      simp only [rena, place hq hat, Nat.add_zero]
      cases A; simp_all
    have al : ∀ {A : Addr} {cs : List Value} {i}, A.spot = none → findW A cs.length 0 all = some i → rena (embOf nt all) ⟨nt + i, 0, none⟩ = A := by
      intro A cs i hA hf
      obtain ⟨B, ds, _, h2, h3, h4, h5⟩ := findW_some all 0 i hf
      simp only [Nat.sub_zero] at h2
      rw [ptr h2 rfl]
      exact (addr_eq h3 h4 hA (hl.holds _ (List.mem_of_getElem? h2) B ds rfl).1).symm
    have hk1 := hk.1
    cases p <;> cases k <;> try exact hk1.elim
    · rename_i x
      simp only [alOf, List.map_cons, AP.con, vargs, List.headD_cons, ih, AP.val]
      rw [ok2_nil_ren (hl.ok _ hm x (by simp [AP.con]))]
    · rename_i A cs n
      simp only [alOf, List.map_cons]
      cases hf : findW A cs.length 0 all with
      | none => simp only [vargs, List.map_cons, ih, AP.val]; simp only [ren, ren1, ren0, ptr hp rfl]
      | some i => simp only [vargs, List.map_cons, ih, AP.val]; simp only [ren, ren1, ren0, al (hl.holds _ hm A cs rfl).1 hf]
    · rename_i A cs c n
      have hn : cs.length = n := hk1
      simp only [alOf, List.map_cons]
      cases hf : findW A cs.length 0 all with
      | none => simp only [vargs, List.map_cons, ih, AP.val, capOf]; simp only [ren, ren1, ren0, ptr hp rfl, hn]
      | some i => simp only [vargs, List.map_cons, ih, AP.val, capOf]; simp only [ren, ren1, ren0, al (hl.holds _ hm A cs rfl).1 hf, hn]
    · rename_i A cs n
      simp only [alOf, List.map_cons, vargs, ih, AP.val]
      simp only [ren, ren1, ren0, ptr hp rfl]

end
end Vm
end Go.Proofs.YtbbifiogcpcpfaaDoor
