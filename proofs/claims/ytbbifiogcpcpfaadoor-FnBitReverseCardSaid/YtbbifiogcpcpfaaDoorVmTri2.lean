/-
  A small symbolic machine, part 21: pieces of code from form to form: runs, sequences, loops, calls of functions.
-/
import Derived.Test.YtbbifiogcpcpfaaDoorVmTri
namespace Go.Proofs.YtbbifiogcpcpfaaDoor
namespace Vm

/-- Code c, from form τ: it ends in some way x, in a form τ', as K says. -/
def Tri (P : Program) (c : Code) (τ : TS) (K : Xt → TS → Prop) : Prop :=
  ∀ w0 W a w, TSim w0 W τ a w → ∀ (Q : Exit → Act → World → Prop), (∀ x τ' a' w', K x τ' → TSim w0 W τ' a' w' → Q x.to a' w') → c.wp P Q a w

/-- A run whose state is brought into form. -/
def runV (P : Program) (E : Env) (n : Nat) (c : Code) (σ : VS) (nt m : Nat) (keep : Keep) (L : List Nat) : Option View :=
  match vrun P E n c σ with
  | some (x, σ') => (match Nat.beq σ'.tm.length nt with
    | true => viewK m keep L x σ'
    | false => none)
  | none => none
/-- No addresses stand in these cells. -/
def Flat (cs : List Value) : Prop := ∀ v ∈ cs, ∀ π, ren0 π v = v
def flatK : Keep → List (Nat × Bool × List Value) → Prop
  | (_, _, true) :: k, _ :: r => flatK k r
  | (_, _, false) :: k, (_, _, cs) :: r => Flat cs ∧ flatK k r
  | _, _ => True
/-- The other regions that are told of lie where the form says. -/
def AlT (E : Env) (τ : TS) : Prop := ∀ r s q, (r, s, q) ∈ E.al → ∃ b o, (r, b, o) ∈ τ.loc ∧ (q, b, o + s) ∈ τ.loc
/-- Where the kept regions lie. -/
def LocK (keep : Keep) (loc loc' : List (Nat × Nat × Nat)) : Prop := ∀ q b o, (q, b, o) ∈ loc' → ∃ r f, (r, q, f) ∈ keep ∧ (r, b, o) ∈ loc

theorem flatK_spec {m : Nat} {all : Keep} {hp : Hp} : ∀ (l : Keep) (rs : List (Nat × Bool × List Value)), regsK m all hp l = some rs → flatK l rs →
    ∀ r h, (r, h, false) ∈ l → ∀ b cs, hp[r]? = some (some (b, cs)) → ∀ v ∈ cs, ∀ π, ren0 π v = v
  | [], rs, _, _ => by simp
  | (r, q, f) :: l, rs, h, hf => by
    simp only [regsK] at h
    split at h
    case h_2 => cases h
    rename_i b0 cs0 hr
    split at h
    case h_2 => cases h
    rename_i rs' hrs
    cases h
    have ih := flatK_spec l rs' hrs (by cases f with
      | true => exact hf
      | false => exact hf.2)
    intro r' h' hm b cs hb
    rcases List.mem_cons.1 hm with he | hm
    · simp only [Prod.mk.injEq] at he
      obtain ⟨rfl, rfl, rfl⟩ := he
      rw [hr] at hb
      simp only [Option.some.injEq, Prod.mk.injEq] at hb
      obtain ⟨rfl, rfl⟩ := hb
      exact hf.1
    · exact ih r' h' hm b cs hb

theorem pres_append {a b : Hp} {r : Nat} (h : pres a r) : pres (a ++ b) r := by
  obtain ⟨x, hx⟩ := h
  have hlt : r < a.length := by
    rcases Nat.lt_or_ge r a.length with h' | h'
    · exact h'
    · rw [List.getElem?_eq_none h'] at hx; cases hx
  exact ⟨x, by rw [List.getElem?_append_left hlt]; exact hx⟩

section
variable {P : Program} {E : Env}

theorem fill_al {τ : TS} (h : AlT E τ) {ρ : Emb} (hl : LocOK ρ τ.hp τ.loc) (g : Nat → Value) (T : Hp) : AlP E (τ.fill g T).hp ∧ AlOK E ρ := by
  refine ⟨fun r s q hx => ?_, fun r s q hx => ?_⟩
  · obtain ⟨b, o, h1, h2⟩ := h r s q hx
    exact ⟨pres_append (hl _ _ _ h1).2, pres_append (hl _ _ _ h2).2⟩
  · obtain ⟨b, o, h1, h2⟩ := h r s q hx
    rw [(hl _ _ _ h1).1, (hl _ _ _ h2).1]
    exact ⟨rfl, rfl⟩

/-- **A run, from form to form.** -/
theorem tri_run (hE : EnvOK P E) (hm : P.follows .mixedOrders = true) {n nt m : Nat} {c : Code} {τ : TS} {keep : Keep} {L : List Nat} {V : View} {loc : List (Nat × Nat × Nat)} {K : Xt → TS → Prop}
    (hrun : ∀ g T, runV P E n c (τ.fill g T) nt m keep L = some V) (hk : keepOK m keep = true) (hvc : V.vc) (hal : AlT E τ) (hflat : flatK keep V.rg) (hloc : LocK keep τ.loc loc)
    (hK : K V.x ⟨mkT nt V.sl, mkT m V.rg, loc⟩) : Tri P c τ K := by
  intro w0 W a w ⟨g, T, ρ, hs, hl⟩ Q hQ
  obtain ⟨al1, al2⟩ := fill_al hal hl g T
  have hr := hrun g T
  unfold runV at hr
  split at hr
  case h_2 => cases hr
  rename_i x σ' hv
  split at hr
  case h_2 => cases hr
  rename_i hnt
  have hnt' := Nat.eq_of_beq_eq_true hnt
  obtain ⟨c1, c2, c3, c4⟩ := vrun_sound hE hm n c _ σ' x hv hs.ok al1
  have hV := hr
  unfold viewK at hV
  split at hV
  case h_2 => cases hV
  rename_i rs hrs
  split at hV
  case h_2 => cases hV
  cases hV
  refine c4 w0 W ρ a w hs.tm hs.inv al2 hvc Q fun ρ' a' w' hag hA hI => ?_
  refine hQ _ _ a' w' hK ?_
  have := view_sound (loc := loc) ⟨c1, hA, hI⟩ hk hr (flatK_spec _ _ hrs hflat) fun q b o hq => by
    obtain ⟨r, f, h1, h2⟩ := hloc q b o hq
    obtain ⟨h3, h4⟩ := hl r b o h2
    exact ⟨r, f, h1, by rw [hag r (pres_append h4), h3]⟩
  rw [hnt'] at this
  exact this

theorem tri_conseq {c : Code} {τ : TS} {K K' : Xt → TS → Prop} (h : Tri P c τ K) (hk : ∀ x τ', K x τ' → K' x τ') : Tri P c τ K' :=
  fun w0 W a w hs Q hQ => h w0 W a w hs Q fun x τ' a' w' hx ht => hQ x τ' a' w' (hk x τ' hx) ht
/-- Another form of the same. -/
def Turns (τ τ' : TS) : Prop := ∀ w0 W a w, TSim w0 W τ a w → TSim w0 W τ' a w
theorem tri_turn {c : Code} {τ τ1 : TS} {K : Xt → TS → Prop} (ht : Turns τ τ1) (h : Tri P c τ1 K) : Tri P c τ K :=
  fun w0 W a w hs Q hQ => h w0 W a w (ht w0 W a w hs) Q hQ
theorem tri_seq {x y : Code} {τ : TS} {K1 K : Xt → TS → Prop} (h1 : Tri P x τ K1) (h2 : ∀ τ1, K1 .normal τ1 → Tri P y τ1 K) (h3 : ∀ e τ1, e ≠ .normal → K1 e τ1 → K e τ1) : Tri P (.seq x y) τ K :=
  fun w0 W a w hs Q hQ => wp_seq (h1 w0 W a w hs _ fun e τ1 a1 w1 hk ht => by
    cases e with
    | normal => exact h2 τ1 hk w0 W a1 w1 ht Q hQ
    | exit i => exact hQ _ _ _ _ (h3 _ _ (by simp) hk) ht
    | ret => exact hQ _ _ _ _ (h3 _ _ (by simp) hk) ht)
theorem tri_block {id : Nat} {c : Code} {τ : TS} {K : Xt → TS → Prop} (h : Tri P c τ fun e τ' => match e with
    | .exit i => if i = id then K .normal τ' else K (.exit i) τ'
    | e => K e τ') : Tri P (.block id c) τ K :=
  fun w0 W a w hs Q hQ => wp_block (h w0 W a w hs _ fun e τ1 a1 w1 hk ht => by
    cases e with
    | normal => exact hQ .normal τ1 a1 w1 hk ht
    | ret => exact hQ .ret τ1 a1 w1 hk ht
    | exit i =>
      simp only [Xt.to, Exit.inBlock]
      simp only at hk
      split at hk
      · rename_i he; rw [if_pos he]; exact hQ .normal τ1 a1 w1 hk ht
      · rename_i he; rw [if_neg he]; exact hQ (.exit i) τ1 a1 w1 hk ht)
theorem tri_scope {c : Code} {τ : TS} {K : Xt → TS → Prop} (h : Tri P c τ K) : Tri P (.scope c) τ K :=
  fun w0 W a w hs Q hQ => wp_scope_straight (h w0 W a w hs _ fun e τ1 a1 w1 hk ht => by
    cases e <;> exact hQ _ τ1 a1 w1 hk ht)
theorem tri_skip {τ : TS} {K : Xt → TS → Prop} (h : K .normal τ) : Tri P .skip τ K :=
  fun _ _ a w hs _ hQ => wp_skip (hQ .normal τ a w h hs)
/-- A loop: forms τ s at its head; each round lowers μ, or ends. -/
theorem tri_loop {S : Type} {c : Code} {K : Xt → TS → Prop} (I : S → Prop) (τ : S → TS) (μ : S → Nat)
    (h : ∀ s, I s → Tri P c (τ s) fun e τ' => match e with
      | .normal => ∃ s', I s' ∧ μ s' < μ s ∧ τ' = τ s'
      | e => K e τ') {s : S} (hs : I s) : Tri P (.loop c) (τ s) K := by
  intro w0 W a w ht Q hQ
  have key : ∀ (n : Nat) (s : S) (a : Act) (w : World), I s → μ s < n → TSim w0 W (τ s) a w → Code.rounds P c Q n a w := by
    intro n
    induction n with
    | zero => intro s a w _ hlt; omega
    | succ n ih =>
      intro s a w hi hlt hs
      rw [rounds_succ]
      refine h s hi w0 W a w hs _ fun e τ1 a1 w1 hk ht => ?_
      cases e with
      | normal =>
        obtain ⟨s', h0, h1, rfl⟩ := hk
        exact ih s' a1 w1 h0 (by omega) ht
      | exit i => exact hQ _ _ _ _ hk ht
      | ret => exact hQ _ _ _ _ hk ht
  exact wp_loop_rounds (μ s + 1) (key (μ s + 1) s a w hs (by omega) ht)

/-! ### Code, taken apart -/
def cFst : Code → Code
  | .seq a _ => a
  | .block _ b => b
  | .loop b => b
  | .scope b => b
  | .cond _ a _ => a
  | c => c
def cSnd : Code → Code
  | .seq _ b => b
  | .cond _ _ b => b
  | c => c
def cId : Code → Nat
  | .block i _ => i
  | _ => 0
def isSeq : Code → Bool
  | .seq _ _ => true
  | _ => false
def isBlock : Code → Bool
  | .block _ _ => true
  | _ => false
def isLoop : Code → Bool
  | .loop _ => true
  | _ => false
def isScope : Code → Bool
  | .scope _ => true
  | _ => false
theorem seq_of {c : Code} (h : isSeq c = true) : c = .seq (cFst c) (cSnd c) := by cases c <;> first | rfl | cases h
theorem block_of {c : Code} (h : isBlock c = true) : c = .block (cId c) (cFst c) := by cases c <;> first | rfl | cases h
theorem loop_of {c : Code} (h : isLoop c = true) : c = .loop (cFst c) := by cases c <;> first | rfl | cases h
theorem scope_of {c : Code} (h : isScope c = true) : c = .scope (cFst c) := by cases c <;> first | rfl | cases h

theorem tri_seq' {c : Code} {τ : TS} {K1 K : Xt → TS → Prop} (hc : isSeq c = true) (h1 : Tri P (cFst c) τ K1) (h2 : ∀ τ1, K1 .normal τ1 → Tri P (cSnd c) τ1 K) (h3 : ∀ e τ1, e ≠ .normal → K1 e τ1 → K e τ1) : Tri P c τ K := by
  rw [seq_of hc]; exact tri_seq h1 h2 h3
/-- A first piece that always goes on. -/
theorem tri_next {c : Code} {τ τ1 : TS} {K : Xt → TS → Prop} (hc : isSeq c = true) (h1 : Tri P (cFst c) τ fun e τ' => e = .normal ∧ τ' = τ1) (h2 : Tri P (cSnd c) τ1 K) : Tri P c τ K :=
  tri_seq' hc h1 (fun _ h => h.2 ▸ h2) (fun _ _ he h => absurd h.1 he)
theorem tri_block' {c : Code} {τ : TS} {K : Xt → TS → Prop} (hc : isBlock c = true) (h : Tri P (cFst c) τ fun e τ' => match e with
    | .exit i => if i = cId c then K .normal τ' else K (.exit i) τ'
    | e => K e τ') : Tri P c τ K := by
  rw [block_of hc]; exact tri_block h
theorem tri_loop' {S : Type} {c : Code} {K : Xt → TS → Prop} (hc : isLoop c = true) (I : S → Prop) (τ : S → TS) (μ : S → Nat)
    (h : ∀ s, I s → Tri P (cFst c) (τ s) fun e τ' => match e with
      | .normal => ∃ s', I s' ∧ μ s' < μ s ∧ τ' = τ s'
      | e => K e τ') {s : S} (hs : I s) : Tri P c (τ s) K := by
  rw [loop_of hc]; exact tri_loop I τ μ h hs
theorem tri_scope' {c : Code} {τ : TS} {K : Xt → TS → Prop} (hc : isScope c = true) (h : Tri P (cFst c) τ K) : Tri P c τ K := by
  rw [scope_of hc]; exact tri_scope h

/-- **A call of a function, out of its body's way from form to form.** -/
theorem calls_of_tri {f : FuncId} {fn : Func} {c : Code} (hf : P.funcs[f]? = some fn) (hb : fn.body = some c) {args : Array Value} {w0 w : World} {W : Nat → Nat → Prop} {τ : TS} {K : Xt → TS → Prop} {R : Ending → World → Prop}
    (h0 : TSim w0 W τ { tmps := args ++ Array.replicate (fn.ntmps - args.size) undef, defers := [] } w) (ht : Tri P c τ K)
    (hR : ∀ x τ', K x τ' → (∀ id, x ≠ .exit id) ∧ ∀ a' w', TSim w0 W τ' a' w' → ∃ v, (results fn a'.tmps).run P w' = .ok v w' ∧ R (.returned v) w') : Calls P f args w R := by
  refine calls_of_wp hf hb (ht w0 W _ w h0 _ fun x τ' a' w' hk hs => ?_)
  obtain ⟨h1, h2⟩ := hR x τ' hk
  obtain ⟨v, h3, h4⟩ := h2 a' w' hs
  have hd : a'.defers = [] := by
    obtain ⟨g, T, ρ, hs, _⟩ := hs
    exact hs.tm.defers
  cases x with
  | normal => exact ⟨hd, v, h3, h4⟩
  | ret => exact ⟨hd, v, h3, h4⟩
  | exit id => exact absurd rfl (h1 id)

/-- What a function yields, read off the form. -/
theorem results_of {fn : Func} {τ : TS} {v : Value} (hv : ∀ g T, vres P fn (τ.fill g T) = some v) {w0 w : World} {W : Nat → Nat → Prop} {a : Act} (hs : TSim w0 W τ a w) :
    ∃ g T ρ, RSim w0 W ρ (τ.fill g T) a w ∧ LocOK ρ τ.hp τ.loc ∧ ok2 (τ.fill g T).hp v ∧ (results fn a.tmps).run P w = .ok (ren ρ v) w := by
  obtain ⟨g, T, ρ, h1, h2⟩ := hs
  obtain ⟨k1, k2⟩ := vres_sound (hv g T) h1.ok
  exact ⟨g, T, ρ, h1, h2, k1, k2 w0 W ρ a w h1.tm h1.inv⟩

end
end Vm
end Go.Proofs.YtbbifiogcpcpfaaDoor
