/-
  A small symbolic machine, part 13: a function's call; the same run with what follows handed on (for the kernel: a test on an unknown truth parts the run).
-/
import Derived.Test.YtbbifiogcpcpfaaDoorVmCode
namespace Go.Proofs.YtbbifiogcpcpfaaDoor
namespace Vm

def notTup : Value → Bool
  | .tuple _ => false
  | _ => true
def vres1 (P : Program) (σ : VS) : ResultVar → Option Value
  | .tmp t => some ((σ.tm[t]?).getD undef)
  | .cell a t => match (σ.tm[a]?).getD undef with
    | .pointer (some ad) => loadSem P t [.pointer (some ad)] σ.hp
    | _ => none
def vresL (P : Program) (σ : VS) : List ResultVar → Option (List Value)
  | [] => some []
  | r :: rs => match vres1 P σ r with
    | some v => (match vresL P σ rs with
      | some vs => some (v :: vs)
      | none => none)
    | none => none
def oneOf (vs : List Value) : Option Value :=
  match vs with
  | [v] => some v
  | vs => if vs.all notTup then some (.tuple vs.toArray) else none
def vres (P : Program) (fn : Func) (σ : VS) : Option Value :=
  match vresL P σ fn.results.toList with
  | some vs => oneOf vs
  | none => none

/-- What a call comes to: its value, the memory, and what is to be proved. -/
structure Out where
  val : Value
  hp : Hp
  vc : Prop

def fout (P : Program) (fn : Func) (x : Xt) (σ : VS) : Option Out :=
  match x with
  | .exit _ => none
  | _ => match vres P fn σ with
    | some v => some ⟨v, σ.hp, σ.vc⟩
    | none => none
def start (fn : Func) (vs : List Value) (hp : Hp) : VS := ⟨vs ++ List.replicate (fn.ntmps - vs.length) undef, hp, True, 0⟩
def frun (P : Program) (E : Env) (n : Nat) (fn : Func) (vs : List Value) (hp : Hp) : Option Out :=
  match fn.body with
  | none => none
  | some c => match vrun P E n c (start fn vs hp) with
    | some (x, σ) => fout P fn x σ
    | none => none

section
variable {P : Program} {E : Env}

theorem ok1_of_notTup {hp : Hp} {v : Value} (h : ok2 hp v) (hn : notTup v = true) : ok1 hp v := by
  cases v <;> first | exact h | cases hn

theorem vres1_sound {σ : VS} {r : ResultVar} {v : Value} (h : vres1 P σ r = some v) (hok : OkS σ) : ok2 σ.hp v ∧
    ∀ w0 W ρ a w, SimA ρ σ.tm a → Inv w0 W ρ σ.hp w → (match r with
      | .tmp t => (pure (a.tmps.getD t undef) : Sem Value)
      | .cell ad t => (do loadVar t (← asAddr (a.tmps.getD ad undef)) : Sem Value)).run P w = .ok (ren ρ v) w := by
  have hget : ∀ {ρ : Emb} {a : Act} (t : Nat), SimA ρ σ.tm a → a.tmps.getD t undef = ren ρ ((σ.tm[t]?).getD undef) := by
    intro ρ a t hA
    simp only [Array.getD_eq_getD_getElem?, hA.get t]
    cases σ.tm[t]? with
    | none => simp [ren_undef]
    | some v => simp
  have hokt : ∀ t : Nat, ok2 σ.hp ((σ.tm[t]?).getD undef) := by
    intro t
    cases ht : σ.tm[t]? with
    | none => exact ok_undef _
    | some v => exact hok.tm v (List.mem_of_getElem? ht)
  cases r with
  | tmp t =>
    simp only [vres1, Option.some.injEq] at h
    subst h
    exact ⟨hokt t, fun w0 W ρ a w hA hI => by simp only [hget t hA]; rfl⟩
  | cell ad t =>
    simp only [vres1] at h
    split at h
    · rename_i x hx
      obtain ⟨h1, h2⟩ := load_sound h hok.hp
      refine ⟨h1, fun w0 W ρ a w hA hI => ?_⟩
      have e1 : a.tmps.getD ad undef = .pointer (some (rena ρ x)) := by rw [hget ad hA, hx]; rfl
      simp only [e1, asAddr, Sem.run_bind, Sem.run_pure, Result.andThen_ok, h2 w0 W ρ w hI]
    · cases h

theorem vres_sound {fn : Func} {σ : VS} {v : Value} (h : vres P fn σ = some v) (hok : OkS σ) : ok2 σ.hp v ∧
    ∀ w0 W ρ a w, SimA ρ σ.tm a → Inv w0 W ρ σ.hp w → (results fn a.tmps).run P w = .ok (ren ρ v) w := by
  unfold vres at h
  split at h
  case h_2 => cases h
  rename_i vs hvs
  have key : ∀ (rs : List ResultVar) (vs : List Value), vresL P σ rs = some vs → (∀ u ∈ vs, ok2 σ.hp u) ∧
      ∀ w0 W ρ a w, SimA ρ σ.tm a → Inv w0 W ρ σ.hp w → (rs.mapM fun (r : ResultVar) => (match r with
        | .tmp t => (pure (a.tmps.getD t undef) : Sem Value)
        | .cell ad t => (do loadVar t (← asAddr (a.tmps.getD ad undef)) : Sem Value))).run P w = .ok (vs.map (ren ρ)) w := by
    intro rs
    induction rs with
    | nil => intro vs h; simp only [vresL, Option.some.injEq] at h; subst h; exact ⟨fun _ h => by simp at h, fun _ _ _ _ _ _ _ => rfl⟩
    | cons r rs ih =>
      intro vs h
      simp only [vresL] at h
      split at h
      case h_2 => cases h
      rename_i u hu
      split at h
      case h_2 => cases h
      rename_i us hus
      cases h
      obtain ⟨h1, h2⟩ := vres1_sound hu hok
      obtain ⟨h3, h4⟩ := ih us hus
      refine ⟨fun z hz => ?_, fun w0 W ρ a w hA hI => ?_⟩
      · rcases List.mem_cons.1 hz with rfl | hz
        · exact h1
        · exact h3 z hz
      · simp only [List.mapM_cons, Sem.run_bind, h2 w0 W ρ a w hA hI, Result.andThen_ok, h4 w0 W ρ a w hA hI, Sem.run_pure, List.map_cons]
  obtain ⟨k1, k2⟩ := key _ _ hvs
  have hrun : ∀ w0 W ρ a w, SimA ρ σ.tm a → Inv w0 W ρ σ.hp w → ∃ arr : Array Value, arr.toList = vs.map (ren ρ) ∧
      (fn.results.mapM fun (r : ResultVar) => (match r with
        | .tmp t => (pure (a.tmps.getD t undef) : Sem Value)
        | .cell ad t => (do loadVar t (← asAddr (a.tmps.getD ad undef)) : Sem Value))).run P w = .ok arr w := by
    intro w0 W ρ a w hA hI
    refine ⟨(vs.map (ren ρ)).toArray, rfl, ?_⟩
    rw [Array.mapM_eq_mapM_toList]
    simp only [Sem.run_map]
    rw [k2 w0 W ρ a w hA hI]
    rfl
  unfold oneOf at h
  split at h
  · rename_i u
    cases h
    refine ⟨k1 v (by simp), fun w0 W ρ a w hA hI => ?_⟩
    obtain ⟨arr, ha, hr⟩ := hrun w0 W ρ a w hA hI
    have harr : arr = #[ren ρ v] := by apply Array.ext'; simpa using ha
    subst harr
    unfold results
    rw [Sem.run_bind]
    refine (congrArg (fun r => Result.andThen r _) hr).trans ?_
    simp
  · rename_i hne
    split at h
    case isFalse => cases h
    rename_i hall
    cases h
    simp only [List.all_eq_true] at hall
    have hok1 : ∀ u ∈ vs, ok1 σ.hp u := fun u hu => ok1_of_notTup (k1 u hu) (hall u hu)
    refine ⟨fun u hu => hok1 u (by simpa using hu), fun w0 W ρ a w hA hI => ?_⟩
    obtain ⟨arr, ha, hr⟩ := hrun w0 W ρ a w hA hI
    have hsz : arr.size ≠ 1 := by
      intro hs
      have hl : vs.length = 1 := by
        have : arr.toList.length = 1 := by simpa using hs
        rw [ha] at this; simpa using this
      obtain ⟨u, hu⟩ := List.length_eq_one_iff.1 hl
      exact hne u hu
    unfold results
    rw [Sem.run_bind]
    refine (congrArg (fun r => Result.andThen r _) hr).trans ?_
    simp only [Result.andThen_ok, dif_neg hsz, Sem.run_pure]
    congr 1
    simp only [ren]
    congr 1
    apply Array.ext'
    rw [ha]
    simp only [Array.toList_map]
    exact List.map_congr_left fun u hu => ren_of_ok1 ρ (hok1 u hu)

/-- **A call.** -/
theorem fn_sound (hE : EnvOK P E) (hal : E.al = []) (hm : P.follows .mixedOrders = true) {f : FuncId} {fn : Func} (hf : P.funcs[f]? = some fn) {n : Nat} {vs : List Value} {hp0 : Hp} {out : Out}
    (h : frun P E n fn vs hp0 = some out) (hvs : ∀ u ∈ vs, ok2 hp0 u) (hH : okH hp0) :
    (mono hp0 out.hp ∧ ok2 out.hp out.val ∧ okH out.hp) ∧
    ∀ w0 W ρ w, Inv w0 W ρ hp0 w → out.vc → Calls P f (vs.map (ren ρ)).toArray w fun e w' => ∃ ρ', Agree hp0 ρ ρ' ∧ e = .returned (ren ρ' out.val) ∧ Inv w0 W ρ' out.hp w' := by
  unfold frun at h
  split at h
  · cases h
  · rename_i c hc
    split at h
    case h_2 => cases h
    rename_i x σ hr
    have hok0 : OkS (start fn vs hp0) := by
      refine ⟨fun v hv => ?_, hH⟩
      simp only [start, List.mem_append] at hv
      rcases hv with hv | hv
      · exact hvs v hv
      · rw [List.eq_of_mem_replicate hv]; exact ok_undef _
    obtain ⟨a1, a2, a3, a4⟩ := vrun_sound hE hm n c _ σ x hr hok0 (AlP.nil hal _)
    have hout : vres P fn σ = some out.val ∧ out.hp = σ.hp ∧ out.vc = σ.vc ∧ (∀ id, x ≠ .exit id) := by
      unfold fout at h
      split at h
      · cases h
      · rename_i hx
        split at h
        · rename_i v hv; cases h; exact ⟨hv, rfl, rfl, fun id he => hx id he⟩
        · cases h
    obtain ⟨o1, o2, o3, o4⟩ := hout
    obtain ⟨b1, b2⟩ := vres_sound o1 a1
    rw [o2, o3]
    refine ⟨⟨a3, b1, a1.hp⟩, fun w0 W ρ w hI hvc => ?_⟩
    refine calls_of_wp hf hc ?_
    refine a4 w0 W ρ _ w ⟨?_, rfl⟩ hI (AlOK.nil hal _) hvc _ fun ρ' a' w' hag hA' hI' => ?_
    · simp [start, ren_undef, List.map_replicate]
    · have hpost : a'.defers = [] ∧ ∃ v, (results fn a'.tmps).run P w' = .ok v w' ∧ (∃ ρ'', Agree hp0 ρ ρ'' ∧ Ending.returned v = .returned (ren ρ'' out.val) ∧ Inv w0 W ρ'' σ.hp w') :=
        ⟨hA'.defers, _, b2 w0 W ρ' a' w' hA' hI', ρ', hag, rfl, hI'⟩
      cases x with
      | normal => exact hpost
      | exit id => exact absurd rfl (o4 id)
      | ret => exact hpost

/-! ### The run with what follows handed on -/
def setB (σ : VS) (t : Nat) (b : Bool) : VS := { σ with tm := σ.tm.set t (.bool b) }
def skipO (o : Oper) (σ : VS) : VS := { σ with tm := putT σ.tm o.dst undef }
def exec1K {R : Type} (P : Program) (E : Env) (o : Oper) (σ : VS) (K : VS → Option R) : Option R :=
  match o.op with
  | .pick c a b => (match E.sym with
    | false => if opsOK o then (match evS σ.tm c with
      | .bool x => (match x with
        | true => K { σ with tm := putT σ.tm o.dst (evS σ.tm a) }
        | false => K { σ with tm := putT σ.tm o.dst (evS σ.tm b) })
      | _ => none) else none
    | true => match exec1 P E o σ with
      | some σ' => K σ'
      | none => none)
  | _ => match exec1 P E o σ with
    | some σ' => K σ'
    | none => none
def step1K {R : Type} (P : Program) (E : Env) (ops : Array Oper) (o : Oper) (σ : VS) (K : VS → Option R) : Option R :=
  match o.guard with
  | none => exec1K P E o σ K
  | some (j, w) => match (ops[j]?).bind (·.dst) with
    | none => K (skipO o σ)
    | some t => match σ.tm[t]? with
      | some (.bool b) => (match b with
        | true => (match w with
          | true => exec1K P E o (setB σ t true) K
          | false => K (skipO o (setB σ t true)))
        | false => (match w with
          | true => K (skipO o (setB σ t false))
          | false => exec1K P E o (setB σ t false) K))
      | _ => K (skipO o σ)
def runLK {R : Type} (P : Program) (E : Env) (ops : Array Oper) : List Oper → VS → (VS → Option R) → Option R
  | [], σ, K => K σ
  | o :: rest, σ, K => step1K P E ops o σ fun σ' => runLK P E ops rest σ' K
def iterK {R : Type} (f : VS → (Xt → VS → Option R) → Option R) : Nat → VS → (Xt → VS → Option R) → Option R
  | 0, _, _ => none
  | n + 1, σ, K => f σ fun x σ1 => match x with
    | .normal => iterK f n (renew σ1) K
    | x => K x σ1
def vrunK {R : Type} (P : Program) (E : Env) (n : Nat) : Code → VS → (Xt → VS → Option R) → Option R
  | .skip, σ, K => K .normal σ
  | .region _ ops draw, σ, K => if regOK E ops draw then runLK P E ops ops.toList σ (fun σ1 => K .normal σ1) else none
  | .seq a b, σ, K => vrunK P E n a σ fun x σ1 => match x with
    | .normal => vrunK P E n b σ1 K
    | x => K x σ1
  | .cond c x y, σ, K => (match c with
    | .tmp t => (match σ.tm[t]? with
      | some (.bool b) => (match b with
        | true => vrunK P E n x (setB σ t true) K
        | false => vrunK P E n y (setB σ t false) K)
      | _ => none)
    | .const (.bool true) => vrunK P E n x σ K
    | .const (.bool false) => vrunK P E n y σ K
    | _ => none)
  | .block id b, σ, K => vrunK P E n b σ fun x σ1 => match x with
    | .exit i => if i = id then K .normal σ1 else K (.exit i) σ1
    | x => K x σ1
  | .loop b, σ, K => iterK (vrunK P E n b) n σ K
  | .scope b, σ, K => vrunK P E n b σ K
  | .exit id, σ, K => K (.exit id) σ
  | .ret, σ, K => K .ret σ
  | _, _, _ => none
def frunK (P : Program) (E : Env) (n : Nat) (fn : Func) (vs : List Value) (hp : Hp) : Option Out :=
  match fn.body with
  | none => none
  | some c => vrunK P E n c (start fn vs hp) (fout P fn)

theorem setB_self {σ : VS} {t : Nat} {b : Bool} (h : σ.tm[t]? = some (.bool b)) : setB σ t b = σ := by
  unfold setB
  have : σ.tm.set t (.bool b) = σ.tm := by
    apply List.ext_getElem?
    intro i
    by_cases hi : i = t
    · subst hi
      have hlt : i < σ.tm.length := by
        rcases Nat.lt_or_ge i σ.tm.length with h' | h'
        · exact h'
        · rw [List.getElem?_eq_none h'] at h; cases h
      rw [List.getElem?_set_self hlt, h]
    · rw [List.getElem?_set_ne (Ne.symm hi)]
  rw [this]

theorem exec1K_some {R : Type} {o : Oper} {σ : VS} {K : VS → Option R} {r : R} (h : exec1K P E o σ K = some r) : ∃ σ', exec1 P E o σ = some σ' ∧ K σ' = some r := by
  unfold exec1K at h
  split at h
  · rename_i c a b hop
    split at h
    · rename_i hsym
      split at h
      case isFalse => cases h
      rename_i hops
      split at h
      case h_2 => cases h
      rename_i x hx
      have hv : vsem P E o.op (σ.bs + o.dst.getD 0) (o.op.operands.toList.map (evS σ.tm)) σ.hp = some (pickV x (evS σ.tm a) (evS σ.tm b), σ.hp, none) := by
        rw [hop]
        simp only [Op.operands, List.map_cons, List.map_nil, hx, vsem, pureE, hsym, pureSem]
      split at h
      · exact ⟨_, by unfold exec1; rw [if_pos hops, hv]; rfl, h⟩
      · exact ⟨_, by unfold exec1; rw [if_pos hops, hv]; rfl, h⟩
    · split at h
      · rename_i σ' h1; exact ⟨σ', h1, h⟩
      · cases h
  · split at h
    · rename_i σ' h1; exact ⟨σ', h1, h⟩
    · cases h

theorem step1K_some {R : Type} {ops : Array Oper} {o : Oper} {σ : VS} {K : VS → Option R} {r : R} (h : step1K P E ops o σ K = some r) : ∃ σ', step1 P E ops o σ = some σ' ∧ K σ' = some r := by
  unfold step1K at h
  unfold step1
  split at h
  · rename_i hg
    have : wantedS ops o σ.tm = true := by simp [wantedS, hg]
    rw [if_pos this]
    exact exec1K_some h
  · rename_i j w hg
    split at h
    · rename_i hd
      have : wantedS ops o σ.tm = false := by simp [wantedS, hg, guardB, hd]
      rw [if_neg (by rw [this]; simp)]
      exact ⟨_, rfl, h⟩
    · rename_i t hd
      split at h
      · rename_i b hb
        have hw : wantedS ops o σ.tm = (b == w) := by
          have : guardB ops σ.tm j = some b := by simp [guardB, hd, hb]
          simp [wantedS, hg, this]
        cases b <;> cases w <;> simp only at h
        · rw [setB_self hb] at h; rw [if_pos (by rw [hw]; rfl)]; exact exec1K_some h
        · rw [setB_self hb] at h; rw [if_neg (by rw [hw]; simp)]; exact ⟨_, rfl, h⟩
        · rw [setB_self hb] at h; rw [if_neg (by rw [hw]; simp)]; exact ⟨_, rfl, h⟩
        · rw [setB_self hb] at h; rw [if_pos (by rw [hw]; rfl)]; exact exec1K_some h
      · rename_i hb
        have hgn : guardB ops σ.tm j = none := by
          unfold guardB
          rw [hd]
          simp only [Option.bind_some]
        have : wantedS ops o σ.tm = false := by simp [wantedS, hg, hgn]
        rw [if_neg (by rw [this]; simp)]
        exact ⟨_, rfl, h⟩

theorem runLK_some {R : Type} {ops : Array Oper} : ∀ (l : List Oper) (σ : VS) (K : VS → Option R) (r : R), runLK P E ops l σ K = some r → ∃ σ', runL P E ops l σ = some σ' ∧ K σ' = some r
  | [], σ, K, r, h => ⟨σ, rfl, h⟩
  | o :: rest, σ, K, r, h => by
    obtain ⟨σ1, h1, h2⟩ := step1K_some h
    obtain ⟨σ', h3, h4⟩ := runLK_some rest σ1 K r h2
    exact ⟨σ', by simp only [runL, h1]; exact h3, h4⟩

theorem vrunK_some {R : Type} (n : Nat) : ∀ (c : Code) (σ : VS) (K : Xt → VS → Option R) (r : R), vrunK P E n c σ K = some r → ∃ x σ', vrun P E n c σ = some (x, σ') ∧ K x σ' = some r := by
  intro c
  induction c with
  | skip => intro σ K r h; exact ⟨_, _, rfl, h⟩
  | region id ops draw =>
    intro σ K r h
    simp only [vrunK] at h
    by_cases hc : regOK E ops draw = true
    · rw [if_pos hc] at h
      obtain ⟨σ', h1, h2⟩ := runLK_some _ _ _ _ h
      exact ⟨.normal, σ', by simp only [vrun, runRegion]; rw [if_pos hc, h1], h2⟩
    · rw [if_neg hc] at h; cases h
  | seq a b iha ihb =>
    intro σ K r h
    simp only [vrunK] at h
    obtain ⟨x, σ1, h1, h2⟩ := iha _ _ _ h
    cases x with
    | normal =>
      obtain ⟨x, σ2, h3, h4⟩ := ihb _ _ _ h2
      exact ⟨x, σ2, by simp only [vrun, h1]; exact h3, h4⟩
    | exit id => exact ⟨_, _, by simp only [vrun, h1], h2⟩
    | ret => exact ⟨_, _, by simp only [vrun, h1], h2⟩
  | cond c p q ihp ihq =>
    intro σ K r h
    simp only [vrunK] at h
    split at h
    · rename_i t
      split at h
      · rename_i b hb
        have he : evS σ.tm (.tmp t) = .bool b := by simp [evS, hb]
        cases b <;> simp only at h
        · rw [setB_self hb] at h
          obtain ⟨x, σ1, h1, h2⟩ := ihq _ _ _ h
          exact ⟨x, σ1, by simp only [vrun, opdOK, if_true, he]; exact h1, h2⟩
        · rw [setB_self hb] at h
          obtain ⟨x, σ1, h1, h2⟩ := ihp _ _ _ h
          exact ⟨x, σ1, by simp only [vrun, opdOK, if_true, he]; exact h1, h2⟩
      · cases h
    · obtain ⟨x, σ1, h1, h2⟩ := ihp _ _ _ h
      exact ⟨x, σ1, by simp only [vrun, opdOK, plain, plain0, if_true, evS]; exact h1, h2⟩
    · obtain ⟨x, σ1, h1, h2⟩ := ihq _ _ _ h
      exact ⟨x, σ1, by simp only [vrun, opdOK, plain, plain0, if_true, evS]; exact h1, h2⟩
    · cases h
  | block id b ih =>
    intro σ K r h
    simp only [vrunK] at h
    obtain ⟨x, σ1, h1, h2⟩ := ih _ _ _ h
    cases x with
    | normal => exact ⟨_, _, by simp only [vrun, h1], h2⟩
    | exit i =>
      simp only at h2
      by_cases hi : i = id
      · rw [if_pos hi] at h2
        exact ⟨_, _, by simp only [vrun, h1, if_pos hi], h2⟩
      · rw [if_neg hi] at h2
        exact ⟨_, _, by simp only [vrun, h1, if_neg hi], h2⟩
    | ret => exact ⟨_, _, by simp only [vrun, h1], h2⟩
  | loop b ih =>
    intro σ K r h
    simp only [vrunK] at h
    have key : ∀ (m : Nat) (σ : VS), iterK (vrunK P E n b) m σ K = some r → ∃ x σ', iter (vrun P E n b) m σ = some (x, σ') ∧ K x σ' = some r := by
      intro m
      induction m with
      | zero => intro σ h; cases h
      | succ m ihm =>
        intro σ h
        simp only [iterK] at h
        obtain ⟨x, σ1, h1, h2⟩ := ih _ _ _ h
        cases x with
        | normal =>
          obtain ⟨x, σ2, h3, h4⟩ := ihm _ h2
          exact ⟨x, σ2, by simp only [iter, h1]; exact h3, h4⟩
        | exit id => exact ⟨_, _, by simp only [iter, h1], h2⟩
        | ret => exact ⟨_, _, by simp only [iter, h1], h2⟩
    obtain ⟨x, σ', h1, h2⟩ := key n σ h
    exact ⟨x, σ', by simp only [vrun]; exact h1, h2⟩
  | scope b ih =>
    intro σ K r h
    simp only [vrunK] at h
    obtain ⟨x, σ1, h1, h2⟩ := ih _ _ _ h
    exact ⟨x, σ1, by simp only [vrun]; exact h1, h2⟩
  | exit id => intro σ K r h; exact ⟨_, _, rfl, h⟩
  | ret => intro σ K r h; exact ⟨_, _, rfl, h⟩
  | _ => intro σ K r h; simp only [vrunK] at h; cases h

theorem frunK_some {n : Nat} {fn : Func} {vs : List Value} {hp : Hp} {out : Out} (h : frunK P E n fn vs hp = some out) : frun P E n fn vs hp = some out := by
  unfold frunK at h
  unfold frun
  split at h
  · cases h
  · rename_i c hc
    obtain ⟨x, σ, h1, h2⟩ := vrunK_some n c _ _ _ h
    simp only [h1]
    exact h2

end
end Vm
end Go.Proofs.YtbbifiogcpcpfaaDoor
