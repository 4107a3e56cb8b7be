/-
  Words for runs from form to form.
-/
import Derived.Test.YtbbifiogcpcpfaaNum
import Derived.Test.YtbbifiogcpcpfaaVmTri2
namespace Go.Proofs.Ytbbifiogcpcpfaa
open Vm

/-- What is known, with lengths and places unknown. -/
def lookS (l : List (Nat × Sm)) (al : List (Nat × Nat × Nat)) (ta : List (Nat × Bool)) : Env := { look l with sym := true, al := al, asl := ta }
theorem lookS_ok {P : Program} {l : List (Nat × Sm)} {al : List (Nat × Nat × Nat)} {ta : List (Nat × Bool)} (h : ∀ p ∈ l, SmOK P p.1 p.2) : EnvOK P (lookS l al ta) := look_ok l h
def cAt : Code → List Nat → Code
  | c, [] => c
  | c, 0 :: l => cAt (cFst c) l
  | c, _ :: l => cAt (cSnd c) l
def bodyOf (fn : Func) : Code := fn.body.getD .skip
def opsOf : Code → Array Oper
  | .region _ ops _ => ops
  | _ => #[]
def opAt (ops : Array Oper) (i : Nat) : Option (Option Tmp × Op) := match ops[i]? with
  | some o => (match o.guard with
    | none => some (o.dst, o.op)
    | some _ => none)
  | none => none
theorem ops_split {ops : Array Oper} {k : Nat} {d : Option Tmp} {op : Op} (h : opAt ops k = some (d, op)) : ∃ o : Oper, o.guard = none ∧ o.dst = d ∧ o.op = op ∧ ops.toList = ops.toList.take k ++ (o :: ops.toList.drop (k + 1)) := by
  unfold opAt at h
  split at h
  case h_2 => cases h
  rename_i o ho
  split at h
  case h_2 => cases h
  rename_i hg
  simp only [Option.some.injEq, Prod.mk.injEq] at h
  refine ⟨o, hg, h.1, h.2, ?_⟩
  obtain ⟨hk, he⟩ := Array.getElem?_eq_some_iff.1 ho
  have hk' : k < ops.toList.length := by simpa using hk
  conv => lhs; rw [← List.take_append_drop k ops.toList, List.drop_eq_getElem_cons hk']
  congr 2
def isReg : Code → Bool
  | .region _ _ false => true
  | _ => false
def regId : Code → Nat
  | .region i _ _ => i
  | _ => 0
theorem region_of {c : Code} (h : isReg c = true) : c = .region (regId c) (opsOf c) false := by
  cases c with
  | region i ops d => cases d with
    | false => rfl
    | true => cases h
  | _ => cases h
abbrev slc (r n c : Nat) : Value := .slice (some ⟨r, 0, none⟩) n c
abbrev num (i : Int) : Value := .int .i64 i
theorem flat4 (x : L4) : Flat x.cells := fun v hv π => by
  simp only [L4.cells, List.mem_cons, List.not_mem_nil, or_false] at hv
  rcases hv with rfl | rfl | rfl | rfl <;> rfl
theorem num_next {i : Nat} (h : i < 9223372036854775807) : num (IntKind.i64.wrap ((i : Int) + 1)) = num ((i + 1 : Nat) : Int) := by
  show Value.int .i64 _ = Value.int .i64 _
  rw [IntWalk.i64_in _ (by omega)]; rfl
theorem alT_nil (l : List (Nat × Sm)) (ta : List (Nat × Bool)) (τ : TS) : AlT (lookS l [] ta) τ := fun r s q h => by simp [lookS] at h
theorem locK_nil (keep : Keep) (loc : List (Nat × Nat × Nat)) : LocK keep loc [] := fun q b o h => by simp at h

/-- A contract out of calls. -/
theorem ac_of_calls {P : Program} {f : FuncId} {fn : Func} {c : Code} (hf : P.funcs[f]? = some fn) (hname : (fn.name == "runtime.NumGoroutine") = false) (hb : fn.body = some c) {ks : List PK} {g : Gf}
    (h : ∀ (ps : List AP) news rv φ, kindsOK ps ks → g (ps.map AP.con) = some (news, rv, φ) → (∀ p ∈ ps, ∀ u ∈ p.con, ok2 [] u) →
      ((∀ n ∈ news, ∀ u ∈ n, ok0 [] u) ∧ RVok rv) ∧
      ∀ w, Lie w ps → Vm.due φ → Calls P f (ps.map AP.val).toArray w fun e w' => ∃ v, e = .returned v ∧ Fr (Wof ps) w w' ∧ News w' ps news ∧ Hands w w' ps (.returned v) rv) : AC P f ks g := by
  intro ps news rv φ hk hg hok
  obtain ⟨h1, h2⟩ := h ps news rv φ hk hg hok
  exact ⟨h1, fun w hl hd => calld_of hf hname hb (h2 w hl hd)⟩
theorem two_S {n m : Nat} {ps : List AP} (hk : kindsOK ps [.S n, .S m]) : ∃ A cs ca B ds cb, ps = [.s A cs ca, .s B ds cb] ∧ cs.length = n ∧ ds.length = m := by
  cases ps with
  | nil => exact hk.elim
  | cons p ps => cases ps with
    | nil => exact hk.2.elim
    | cons q ps => cases ps with
      | cons r ps => exact hk.2.2.elim
      | nil =>
        obtain ⟨h1, h2, _⟩ := hk
        cases p <;> try exact h1.elim
        cases q <;> try exact h2.elim
        exact ⟨_, _, _, _, _, _, rfl, h1, h2⟩
/-- The state in which a function of two read slices begins. -/
theorem start_SS {nt n m : Nat} {A B : Addr} {cs ds : List Value} {ca cb : Nat} {w : World} (hl : Lie w [.s A cs ca, .s B ds cb]) (hk : kindsOK [.s A cs ca, .s B ds cb] [.S n, .S m]) (hnt : 2 ≤ nt) :
    TSim w (Wof [.s A cs ca, .s B ds cb]) ⟨some (slc nt n ca) :: some (slc (nt + 1) m cb) :: List.replicate (nt - 2) none, List.replicate nt none ++ [some (false, cs), some (false, ds)], []⟩
      { tmps := #[AP.val (.s A cs ca), AP.val (.s B ds cb)] ++ Array.replicate (nt - 2) undef, defers := [] } w := by
  have hn : cs.length = n := hk.1
  have hm : ds.length = m := hk.2.1
  have hi := inv_of hk hl nt
  have hpd : pad nt (vregs [.S n, .S m] (alOf [.s A cs ca, .s B ds cb] [.s A cs ca, .s B ds cb]) ([.s A cs ca, .s B ds cb].map AP.con)) = List.replicate nt none ++ [some (false, cs), some (false, ds)] ++ [] := by
    rw [List.append_nil]; rfl
  rw [hpd] at hi
  have hg : ∀ k i, fillT (fun _ => undef) i (List.replicate k (none : Option Value)) = List.replicate k undef := by
    intro k
    induction k with
    | zero => intro i; rfl
    | succ k ih => intro i; simp only [List.replicate_succ, fillT, ih]
  have pr : ∀ r, (r = nt ∨ r = nt + 1) → pres (List.replicate nt none ++ [some (false, cs), some (false, ds)] ++ [] : Hp) r := by
    intro r hr
    rw [List.append_nil]
    rcases hr with rfl | rfl
    · exact ⟨_, by rw [List.getElem?_append_right (by simp)]; simp; rfl⟩
    · exact ⟨_, by rw [List.getElem?_append_right (by simp)]; simp; rfl⟩
  have e1 := (hl.holds (.s A cs ca) (by simp) A cs rfl).1
  have e2 := (hl.holds (.s B ds cb) (by simp) B ds rfl).1
  refine ⟨fun _ => undef, [], embOf nt [.s A cs ca, .s B ds cb], ⟨⟨fun v hv => ?_, fun r b xs hr v hv => ?_⟩, ⟨?_, rfl⟩, hi⟩, fun r b o h => by simp at h⟩
  · simp only [TS.fill, fillT, hg, List.mem_cons] at hv ⊢
    rcases hv with rfl | rfl | hv
    · exact ⟨rfl, pr _ (.inl rfl)⟩
    · exact ⟨rfl, pr _ (.inr rfl)⟩
    · rw [List.eq_of_mem_replicate hv]; exact ok_undef _
  · have hr' : (List.replicate nt none ++ [some (false, cs), some (false, ds)] ++ [] : Hp)[r]? = some (some (b, xs)) := hr
    rw [List.append_nil] at hr'
    by_cases hlt : r < nt
    · rw [List.getElem?_append_left (by simpa using hlt), List.getElem?_replicate] at hr'
      split at hr' <;> cases hr'
    · rw [List.getElem?_append_right (by simpa using Nat.le_of_not_lt hlt), List.length_replicate] at hr'
      have : r - nt = 0 ∨ r - nt = 1 := by
        rcases Nat.lt_or_ge (r - nt) 2 with h | h
        · omega
        · rw [List.getElem?_eq_none (by simpa using h)] at hr'; cases hr'
      rcases this with h | h <;> rw [h] at hr' <;> simp only [List.getElem?_cons_zero, List.getElem?_cons_succ, Option.some.injEq, Prod.mk.injEq] at hr' <;> obtain ⟨rfl, rfl⟩ := hr'
      · exact (hl.flat (.s A cs ca) (by simp) A cs rfl v hv).mono (nil_mono _)
      · exact (hl.flat (.s B ds cb) (by simp) B ds rfl v hv).mono (nil_mono _)
  · have p0 : placeOf [.s A cs ca, .s B ds cb] 0 = (A.block, A.off) := rfl
    have p1 : placeOf [.s A cs ca, .s B ds cb] 1 = (B.block, B.off) := rfl
    simp only [TS.fill, fillT, hg, List.map_cons, List.map_replicate, ren_undef]
    simp only [ren, ren1, ren0, rena, embOf, Nat.lt_irrefl, if_false, Nat.sub_self, p0, show ¬ nt + 1 < nt by omega, Nat.add_sub_cancel_left, p1, AP.val]
    obtain ⟨ab, ao, as⟩ := A
    obtain ⟨bb, bo, bs⟩ := B
    simp only at e1 e2
    subst e1; subst e2; subst hn; subst hm
    simp


end Go.Proofs.Ytbbifiogcpcpfaa
