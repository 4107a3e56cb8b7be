/-
  A small symbolic machine, part 9: states, steps with guards, regions in the order of the text.
-/
import Derived.Test.YtbbifiogcpcpfaaDoorVmStep
import Derived.Orders
namespace Go.Proofs.YtbbifiogcpcpfaaDoor
namespace Vm

/-- Slots, regions, and what is to be proved. -/
structure VS where
  tm : List Value
  hp : Hp
  vc : Prop
  bs : Nat

def evS (tm : List Value) : Operand → Value
  | .tmp t => (tm[t]?).getD undef
  | .const v => v
  | .func f => .func (.func f) #[] #[]
  | .global _ => undef
def opdOK : Operand → Bool
  | .const v => plain v
  | .global _ => false
  | _ => true
def opsOK (o : Oper) : Bool := o.op.operands.toList.all opdOK
def putT (tm : List Value) (dst : Option Tmp) (v : Value) : List Value :=
  match dst with
  | some d => tm.set d v
  | none => tm
def addvc (p : Prop) : Option Prop → Prop
  | none => p
  | some q => p ∧ q
def guardB (ops : Array Oper) (tm : List Value) (j : Nat) : Option Bool :=
  match ((ops[j]?).bind (·.dst)).bind (tm[·]?) with
  | some (.bool b) => some b
  | _ => none
def wantedS (ops : Array Oper) (o : Oper) (tm : List Value) : Bool :=
  match o.guard with
  | none => true
  | some (j, w) => guardB ops tm j == some w
def exec1 (P : Program) (E : Env) (o : Oper) (σ : VS) : Option VS :=
  if opsOK o then
    match vsem P E o.op (σ.bs + o.dst.getD 0) (o.op.operands.toList.map (evS σ.tm)) σ.hp with
    | some (v, hp', φ) => some ⟨putT σ.tm o.dst v, hp', addvc σ.vc φ, σ.bs⟩
    | none => none
  else none
def step1 (P : Program) (E : Env) (ops : Array Oper) (o : Oper) (σ : VS) : Option VS :=
  if wantedS ops o σ.tm then exec1 P E o σ else some { σ with tm := putT σ.tm o.dst undef }
def runL (P : Program) (E : Env) (ops : Array Oper) : List Oper → VS → Option VS
  | [], σ => some σ
  | o :: rest, σ => match step1 P E ops o σ with
    | some σ' => runL P E ops rest σ'
    | none => none

/-- Behind a round of a loop: where memory was made, the next round makes its own behind all that there is. -/
def renew (σ : VS) : VS :=
  match ((σ.hp.drop σ.bs).take σ.tm.length).any Option.isSome with
  | true => { σ with hp := σ.hp ++ List.replicate σ.tm.length none, bs := σ.hp.length }
  | false => σ

structure OkS (σ : VS) : Prop where
  tm : ∀ v ∈ σ.tm, ok2 σ.hp v
  hp : okH σ.hp

structure SimA (ρ : Emb) (tm : List Value) (a : Act) : Prop where
  tmps : a.tmps.toList = tm.map (ren ρ)
  defers : a.defers = []

theorem ren_undef (ρ : Emb) : ren ρ undef = undef := by simp [undef, ren]
theorem ok_undef (hp : Hp) : ok2 hp undef := fun _ h => by simp at h

theorem SimA.get {ρ : Emb} {tm : List Value} {a : Act} (h : SimA ρ tm a) (t : Nat) : a.tmps[t]? = (tm[t]?).map (ren ρ) := by
  rw [← Array.getElem?_toList, h.tmps, List.getElem?_map]
theorem SimA.eval {ρ : Emb} {tm : List Value} {a : Act} (h : SimA ρ tm a) (hp : Hp) {x : Operand} (hx : opdOK x = true) : a.eval x = ren ρ (evS tm x) := by
  cases x with
  | tmp t =>
    simp only [Act.eval, evS, Array.getD_eq_getD_getElem?, h.get t]
    cases tm[t]? with
    | none => simp [ren_undef]
    | some v => simp
  | const v => exact ((plain_ok hx hp).2 ρ).symm
  | func f => simp [Act.eval, evS, ren, ren1]
  | global g => cases hx
theorem SimA.put {ρ : Emb} {tm : List Value} {a : Act} (h : SimA ρ tm a) (dst : Option Tmp) (v : Value) : SimA ρ (putT tm dst v) (a.put dst (ren ρ v)) := by
  cases dst with
  | none => exact h
  | some d => exact ⟨by simp [Act.put, putT, h.tmps, List.map_set], h.defers⟩
theorem SimA.agree {hp : Hp} {ρ ρ' : Emb} {tm : List Value} {a : Act} (h : SimA ρ tm a) (ha : Agree hp ρ ρ') (hok : ∀ v ∈ tm, ok2 hp v) : SimA ρ' tm a :=
  ⟨by rw [h.tmps]; exact (List.map_congr_left fun v hv => ren_agree ha (hok v hv)).symm, h.defers⟩
theorem ren_bool {ρ : Emb} {v : Value} {b : Bool} (h : ren ρ v = .bool b) : v = .bool b := by
  cases v with
  | pointer a => cases a <;> simp [ren, ren1, ren0] at h
  | slice a l c => cases a <;> simp [ren, ren1, ren0] at h
  | _ => simp [ren, ren1, ren0] at h ⊢ <;> exact h
theorem SimA.wanted {ρ : Emb} {tm : List Value} {a : Act} (h : SimA ρ tm a) (ops : Array Oper) (o : Oper) : Region.wanted o (yielded ops a.tmps) = wantedS ops o tm := by
  unfold Region.wanted wantedS
  cases o.guard with
  | none => rfl
  | some gw =>
    obtain ⟨j, w⟩ := gw
    have : yielded ops a.tmps j = guardB ops tm j := by
      unfold yielded guardB
      cases hd : (ops[j]?).bind (·.dst) with
      | none => rfl
      | some t =>
        simp only [Option.bind_some, h.get t]
        cases tm[t]? with
        | none => rfl
        | some v =>
          simp only [Option.map_some]
          cases v with
          | pointer a => cases a <;> simp [ren, ren1, ren0]
          | slice a l c => cases a <;> simp [ren, ren1, ren0]
          | _ => simp [ren, ren1, ren0]
    simp only [this]

section
variable {P : Program} {E : Env}

theorem evS_ok {σ : VS} (h : OkS σ) {x : Operand} (hx : opdOK x = true) : ok2 σ.hp (evS σ.tm x) := by
  cases x with
  | tmp t =>
    simp only [evS]
    cases ht : σ.tm[t]? with
    | none => exact ok_undef _
    | some v => exact h.tm v (List.mem_of_getElem? ht)
  | const v => exact (plain_ok hx σ.hp).1
  | func f => exact ⟨fun _ h => by simp at h, fun _ h => by simp at h⟩
  | global g => cases hx

theorem putT_mem {tm : List Value} {dst : Option Tmp} {v u : Value} (h : u ∈ putT tm dst v) : u ∈ tm ∨ u = v := by
  cases dst with
  | none => exact .inl h
  | some d => exact List.mem_or_eq_of_mem_set h

theorem renew_tm (σ : VS) : (renew σ).tm = σ.tm := by unfold renew; split <;> rfl
theorem renew_vc (σ : VS) : (renew σ).vc = σ.vc := by unfold renew; split <;> rfl
theorem renew_get (σ : VS) (r : Nat) (x : Bool × List Value) : (renew σ).hp[r]? = some (some x) ↔ σ.hp[r]? = some (some x) := by
  unfold renew
  split
  · by_cases h : r < σ.hp.length
    · simp only [List.getElem?_append_left h]
    · simp only [List.getElem?_append_right (Nat.le_of_not_lt h), List.getElem?_eq_none (Nat.le_of_not_lt h), List.getElem?_replicate]
      split <;> simp
  · rfl
theorem renew_mono (σ : VS) : mono σ.hp (renew σ).hp := fun r ⟨x, hx⟩ => ⟨x, (renew_get σ r x).2 hx⟩
theorem renew_ok {σ : VS} (h : OkS σ) : OkS (renew σ) :=
  ⟨fun v hv => (h.tm v (by rw [← renew_tm σ]; exact hv)).mono (renew_mono σ), fun r b cs hr v hv => (h.hp r b cs ((renew_get σ r _).1 hr) v hv).mono (renew_mono σ)⟩
theorem renew_inv {w0 w : World} {W : Nat → Nat → Prop} {ρ : Emb} {σ : VS} (h : Inv w0 W ρ σ.hp w) : Inv w0 W ρ (renew σ).hp w :=
  ⟨fun r b cs hr => h.cell r b cs ((renew_get σ r _).1 hr), fun r cs hr => h.own r cs ((renew_get σ r _).1 hr),
    fun r r' b cs b' cs' hne hr hr' => h.dis r r' b cs b' cs' hne ((renew_get σ r _).1 hr) ((renew_get σ r' _).1 hr'), h.fr⟩
theorem renew_agree {σ : VS} {ρ ρ' : Emb} (h : Agree (renew σ).hp ρ ρ') : Agree σ.hp ρ ρ' := fun r hr => h r (renew_mono σ r hr)

/-- What one step comes to, said of every world. -/
def Goes (P : Program) (E : Env) (ops : Array Oper) (o : Oper) (σ σ' : VS) : Prop :=
  OkS σ' ∧ (σ'.vc → σ.vc) ∧ mono σ.hp σ'.hp ∧
  ∀ w0 W ρ a w, SimA ρ σ.tm a → Inv w0 W ρ σ.hp w → AlOK E ρ → σ'.vc → ∀ (next : Act → World → Prop) (Q : Exit → Act → World → Prop),
    (∀ ρ' a' w', Agree σ.hp ρ ρ' → SimA ρ' σ'.tm a' → Inv w0 W ρ' σ'.hp w' → next a' w') →
    if Region.wanted o (yielded ops a.tmps) then o.wp P a w next Q else next (a.put o.dst undef) w

theorem addvc_left {p : Prop} {φ : Option Prop} (h : addvc p φ) : p := by
  cases φ with
  | none => exact h
  | some q => exact h.1
theorem addvc_right {p : Prop} {φ : Option Prop} (h : addvc p φ) : due φ := by
  cases φ with
  | none => trivial
  | some q => exact h.2

theorem step1_sound (hE : EnvOK P E) {ops : Array Oper} {o : Oper} {σ σ' : VS} (h : step1 P E ops o σ = some σ') (hok : OkS σ) (hal : AlP E σ.hp) (hsel : ∀ cs b, o.op ≠ .select cs b) : Goes P E ops o σ σ' := by
  unfold step1 at h
  by_cases hw : wantedS ops o σ.tm = true
  · rw [if_pos hw] at h
    unfold exec1 at h
    split at h
    case isFalse => cases h
    rename_i hops
    simp only [opsOK, List.all_eq_true] at hops
    have hops' : ∀ x ∈ o.op.operands, opdOK x = true := fun x hx => hops x (by simpa using hx)
    split at h
    case h_2 => cases h
    rename_i v hp' φ hv
    cases h
    obtain ⟨⟨hm, hvo, hH'⟩, hs⟩ := vsem_sound hE hv (fun x hx => evS_ok hok (hops' x hx)) hok.hp hal
    refine ⟨⟨fun u hu => ?_, hH'⟩, addvc_left, hm, fun w0 W ρ a w hA hI hAl hvc next Q hn => ?_⟩
    · rcases putT_mem hu with hu | rfl
      · exact (hok.tm u hu).mono hm
      · exact hvo
    · rw [hA.wanted, if_pos hw]
      have hex : execOp a.eval o = execOp (fun x => ren ρ (evS σ.tm x)) o := execOp_congr o hsel fun x hx => hA.eval σ.hp (hops' x hx)
      unfold Oper.wp
      rw [hex]
      refine hs w0 W ρ w hI hAl (addvc_right hvc) a next Q fun ρ' w' hag hI' => ?_
      exact hn ρ' _ w' hag ((hA.agree hag hok.tm).put o.dst v) hI'
  · rw [if_neg hw] at h
    cases h
    refine ⟨⟨fun u hu => ?_, hok.hp⟩, id, mono.refl _, fun w0 W ρ a w hA hI hAl hvc next Q hn => ?_⟩
    · rcases putT_mem hu with hu | rfl
      · exact hok.tm u hu
      · exact ok_undef _
    · rw [hA.wanted, if_neg hw]
      have := hA.put o.dst undef
      rw [ren_undef] at this
      exact hn ρ _ w (Agree.refl _ _) this hI

/-- A region in the order of the text. -/
theorem runL_sound (hE : EnvOK P E) {ops : Array Oper} : ∀ (l : List Oper) (σ σ' : VS), runL P E ops l σ = some σ' → OkS σ → AlP E σ.hp → (∀ o ∈ l, ∀ cs b, o.op ≠ .select cs b) →
    OkS σ' ∧ (σ'.vc → σ.vc) ∧ mono σ.hp σ'.hp ∧ ∀ w0 W ρ a w, SimA ρ σ.tm a → Inv w0 W ρ σ.hp w → AlOK E ρ → σ'.vc → ∀ (Q : Exit → Act → World → Prop),
      (∀ ρ' a' w', Agree σ.hp ρ ρ' → SimA ρ' σ'.tm a' → Inv w0 W ρ' σ'.hp w' → Q .normal a' w') → wpList P ops Q l a w
  | [], σ, σ', h, hok, _, _ => by
    cases h
    exact ⟨hok, id, mono.refl _, fun w0 W ρ a w hA hI _ _ Q hn => hn ρ a w (Agree.refl _ _) hA hI⟩
  | o :: rest, σ, σ', h, hok, hal, hsel => by
    simp only [runL] at h
    split at h
    · rename_i σ1 h1
      obtain ⟨hok1, hvc1, hm1, hs1⟩ := step1_sound hE h1 hok hal (hsel o (by simp))
      obtain ⟨hok2, hvc2, hm2, hs2⟩ := runL_sound hE rest σ1 σ' h hok1 (hal.mono hm1) (fun o ho => hsel o (by simp [ho]))
      refine ⟨hok2, fun h => hvc1 (hvc2 h), hm1.trans hm2, fun w0 W ρ a w hA hI hAl hvc Q hn => ?_⟩
      have := hs1 w0 W ρ a w hA hI hAl (hvc2 hvc) (wpList P ops Q rest) Q fun ρ' a' w' hag hA' hI' =>
        hs2 w0 W ρ' a' w' hA' hI' (hAl.agree hal hag) hvc Q fun ρ2 a2 w2 hag2 hA2 hI2 => hn ρ2 a2 w2 (hag.trans hm1 hag2) hA2 hI2
      unfold wpList
      split
      · rename_i hw; rw [if_pos hw] at this; exact .inl this
      · rename_i hw; rw [if_neg hw] at this; exact this
    · cases h

end
end Vm
end Go.Proofs.YtbbifiogcpcpfaaDoor
