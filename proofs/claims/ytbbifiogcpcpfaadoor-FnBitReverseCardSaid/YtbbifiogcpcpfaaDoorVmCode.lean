/-
  A small symbolic machine, part 12: code; a call of a function.
-/
import Derived.Test.YtbbifiogcpcpfaaDoorVmAny
import Derived.LoopN
import Derived.Scope
namespace Go.Proofs.YtbbifiogcpcpfaaDoor
namespace Vm

inductive Xt where
  | normal
  | exit (id : Nat)
  | ret
def Xt.to : Xt → Exit
  | .normal => .normal
  | .exit id => .exit id
  | .ret => .ret

def regOK (E : Env) (ops : Array Oper) (draw : Bool) : Bool :=
  match draw with
  | true => drawOK E ops
  | false => ops.toList.all noSel
def runRegion (P : Program) (E : Env) (ops : Array Oper) (draw : Bool) (σ : VS) : Option VS :=
  if regOK E ops draw then runL P E ops ops.toList σ else none
def iter (f : VS → Option (Xt × VS)) : Nat → VS → Option (Xt × VS)
  | 0, _ => none
  | n + 1, σ => match f σ with
    | some (.normal, σ1) => iter f n (renew σ1)
    | r => r
/-- Code, run on a virtual state; loops at most n rounds. -/
def vrun (P : Program) (E : Env) (n : Nat) : Code → VS → Option (Xt × VS)
  | .skip, σ => some (.normal, σ)
  | .region _ ops draw, σ => match runRegion P E ops draw σ with
    | some σ1 => some (.normal, σ1)
    | none => none
  | .seq a b, σ => match vrun P E n a σ with
    | some (.normal, σ1) => vrun P E n b σ1
    | r => r
  | .cond c x y, σ => if opdOK c then (match evS σ.tm c with
    | .bool true => vrun P E n x σ
    | .bool false => vrun P E n y σ
    | _ => none) else none
  | .block id b, σ => match vrun P E n b σ with
    | some (.exit i, σ1) => if i = id then some (.normal, σ1) else some (.exit i, σ1)
    | r => r
  | .loop b, σ => iter (vrun P E n b) n σ
  | .scope b, σ => vrun P E n b σ
  | .exit id, σ => some (.exit id, σ)
  | .ret, σ => some (.ret, σ)
  | _, _ => none

/-- What a piece of code comes to, said of every world. -/
def Comes (P : Program) (E : Env) (c : Code) (σ : VS) (x : Xt) (σ' : VS) : Prop :=
  OkS σ' ∧ (σ'.vc → σ.vc) ∧ mono σ.hp σ'.hp ∧
  ∀ w0 W ρ a w, SimA ρ σ.tm a → Inv w0 W ρ σ.hp w → AlOK E ρ → σ'.vc → ∀ (Q : Exit → Act → World → Prop),
    (∀ ρ' a' w', Agree σ.hp ρ ρ' → SimA ρ' σ'.tm a' → Inv w0 W ρ' σ'.hp w' → Q x.to a' w') → c.wp P Q a w

section
variable {P : Program} {E : Env}

theorem range_list (ops : Array Oper) : rem ops (Array.replicate ops.size false) = List.range' 0 ops.size := by
  unfold rem
  rw [← List.range_eq_range', List.filter_eq_self]
  intro i hi
  have : i < ops.size := by simpa using hi
  simp [this]

theorem region_sound (hE : EnvOK P E) (hm : P.follows .mixedOrders = true) {id : Nat} {ops : Array Oper} {draw : Bool} {σ σ' : VS} (h : runRegion P E ops draw σ = some σ') (hok : OkS σ) (hal : AlP E σ.hp) :
    Comes P E (.region id ops draw) σ .normal σ' := by
  unfold runRegion at h
  cases draw with
  | false =>
    by_cases hs : regOK E ops false = true
    case neg => rw [if_neg hs] at h; cases h
    rw [if_pos hs] at h
    replace hs : ops.toList.all noSel = true := hs
    simp only [List.all_eq_true] at hs
    have hsel : ∀ o ∈ ops.toList, ∀ cs b, o.op ≠ .select cs b := by
      intro o ho cs b hc
      have := hs o ho
      simp [noSel, hc] at this
    obtain ⟨h1, h2, h3, h4⟩ := runL_sound hE ops.toList σ σ' h hok hal hsel
    exact ⟨h1, h2, h3, fun w0 W ρ a w hA hI hAl hvc Q hn => wp_region_list (h4 w0 W ρ a w hA hI hAl hvc Q hn)⟩
  | true =>
    by_cases hD : regOK E ops true = true
    case neg => rw [if_neg hD] at h; cases h
    rw [if_pos hD] at h
    replace hD : drawOK E ops = true := hD
    have hD' := drawOK_spec hD
    have hsel : ∀ o ∈ ops.toList, ∀ cs b, o.op ≠ .select cs b := by
      intro o ho cs b
      obtain ⟨i, hi⟩ := List.getElem?_of_mem ho
      exact hD'.sel i o cs b (by simpa using hi)
    obtain ⟨h1, h2, h3, _⟩ := runL_sound hE ops.toList σ σ' h hok hal hsel
    refine ⟨h1, h2, h3, fun w0 W ρ a w hA hI hAl hvc Q hn => wp_region_any hm ?_⟩
    have hrun : runI P E ops (rem ops (Array.replicate ops.size false)) σ = some σ' := by
      rw [range_list, ← h, runL_runI ops.toList 0 σ (fun j => by simp)]
      simp
    exact any_sound hE hD' w0 W Q ops.size _ σ σ' (by simp) (fun k o ho hk => by
        exfalso
        have : (Array.replicate ops.size false).getD k false = true := hk
        simp only [Array.getD_eq_getD_getElem?, Array.getElem?_replicate] at this
        split at this <;> simp at this)
      (by rw [range_list]; simp) hrun hok hal hvc ρ a _ hA hI.drew hAl hn

theorem vrun_sound (hE : EnvOK P E) (hm : P.follows .mixedOrders = true) (n : Nat) : ∀ (c : Code) (σ σ' : VS) (x : Xt), vrun P E n c σ = some (x, σ') → OkS σ → AlP E σ.hp → Comes P E c σ x σ' := by
  intro c
  induction c with
  | skip =>
    intro σ σ' x h hok hal
    cases h
    exact ⟨hok, id, mono.refl _, fun w0 W ρ a w hA hI _ _ Q hn => wp_skip (hn ρ a w (Agree.refl _ _) hA hI)⟩
  | region id ops draw =>
    intro σ σ' x h hok hal
    simp only [vrun] at h
    split at h
    · rename_i σ1 h1
      cases h
      exact region_sound hE hm h1 hok hal
    · cases h
  | seq p q ihp ihq =>
    intro σ σ' x h hok hal
    simp only [vrun] at h
    split at h
    · rename_i σ1 h1
      obtain ⟨a1, a2, a3, a4⟩ := ihp σ σ1 .normal h1 hok hal
      obtain ⟨b1, b2, b3, b4⟩ := ihq σ1 σ' x h a1 (hal.mono a3)
      refine ⟨b1, fun h => a2 (b2 h), a3.trans b3, fun w0 W ρ a w hA hI hAl hvc Q hn => wp_seq ?_⟩
      exact a4 w0 W ρ a w hA hI hAl (b2 hvc) _ fun ρ' a' w' hag hA' hI' =>
        b4 w0 W ρ' a' w' hA' hI' (hAl.agree hal hag) hvc Q fun ρ2 a2 w2 hag2 hA2 hI2 => hn ρ2 a2 w2 (hag.trans a3 hag2) hA2 hI2
    · rename_i r hr
      obtain ⟨a1, a2, a3, a4⟩ := ihp σ σ' x h hok hal
      refine ⟨a1, a2, a3, fun w0 W ρ a w hA hI hAl hvc Q hn => wp_seq ?_⟩
      refine a4 w0 W ρ a w hA hI hAl hvc _ fun ρ' a' w' hag hA' hI' => ?_
      cases x with
      | normal => exact absurd h (hr σ')
      | exit id => exact hn ρ' a' w' hag hA' hI'
      | ret => exact hn ρ' a' w' hag hA' hI'
  | cond c p q ihp ihq =>
    intro σ σ' x h hok hal
    simp only [vrun] at h
    split at h
    case isFalse => cases h
    rename_i hc
    split at h
    · rename_i he
      obtain ⟨a1, a2, a3, a4⟩ := ihp σ σ' x h hok hal
      exact ⟨a1, a2, a3, fun w0 W ρ a w hA hI hAl hvc Q hn => wp_cond_true (by rw [hA.eval σ.hp hc, he]; rfl) (a4 w0 W ρ a w hA hI hAl hvc Q hn)⟩
    · rename_i he
      obtain ⟨a1, a2, a3, a4⟩ := ihq σ σ' x h hok hal
      exact ⟨a1, a2, a3, fun w0 W ρ a w hA hI hAl hvc Q hn => wp_cond_false (by rw [hA.eval σ.hp hc, he]; rfl) (a4 w0 W ρ a w hA hI hAl hvc Q hn)⟩
    · cases h
  | block id b ih =>
    intro σ σ' x h hok hal
    simp only [vrun] at h
    split at h
    · rename_i i σ1 h1
      obtain ⟨a1, a2, a3, a4⟩ := ih σ σ1 (.exit i) h1 hok hal
      split at h
      · rename_i hid
        cases h
        refine ⟨a1, a2, a3, fun w0 W ρ a w hA hI hAl hvc Q hn => wp_block (a4 w0 W ρ a w hA hI hAl hvc _ fun ρ' a' w' hag hA' hI' => ?_)⟩
        simp only [Xt.to, Exit.inBlock, hid, if_true]
        exact hn ρ' a' w' hag hA' hI'
      · rename_i hid
        cases h
        refine ⟨a1, a2, a3, fun w0 W ρ a w hA hI hAl hvc Q hn => wp_block (a4 w0 W ρ a w hA hI hAl hvc _ fun ρ' a' w' hag hA' hI' => ?_)⟩
        simp only [Xt.to, Exit.inBlock, hid, if_false]
        exact hn ρ' a' w' hag hA' hI'
    · rename_i r hr
      obtain ⟨a1, a2, a3, a4⟩ := ih σ σ' x h hok hal
      refine ⟨a1, a2, a3, fun w0 W ρ a w hA hI hAl hvc Q hn => wp_block (a4 w0 W ρ a w hA hI hAl hvc _ fun ρ' a' w' hag hA' hI' => ?_)⟩
      cases x with
      | normal => exact hn ρ' a' w' hag hA' hI'
      | exit i => exact absurd h (hr i σ')
      | ret => exact hn ρ' a' w' hag hA' hI'
  | loop b ih =>
    intro σ σ' x h hok hal
    simp only [vrun] at h
    have key : ∀ (m : Nat) (σ : VS), iter (vrun P E n b) m σ = some (x, σ') → OkS σ → AlP E σ.hp → OkS σ' ∧ (σ'.vc → σ.vc) ∧ mono σ.hp σ'.hp ∧
        ∀ w0 W ρ a w, SimA ρ σ.tm a → Inv w0 W ρ σ.hp w → AlOK E ρ → σ'.vc → ∀ (Q : Exit → Act → World → Prop),
          (∀ ρ' a' w', Agree σ.hp ρ ρ' → SimA ρ' σ'.tm a' → Inv w0 W ρ' σ'.hp w' → Q x.to a' w') → Code.rounds P b Q m a w := by
      intro m
      induction m with
      | zero => intro σ h; cases h
      | succ m ihm =>
        intro σ h hok hal
        simp only [iter] at h
        split at h
        · rename_i σ1 h1
          obtain ⟨a1, a2, a3, a4⟩ := ih σ σ1 .normal h1 hok hal
          obtain ⟨b1, b2, b3, b4⟩ := ihm (renew σ1) h (renew_ok a1) ((hal.mono a3).mono (renew_mono σ1))
          rw [renew_vc] at b2
          refine ⟨b1, fun h => a2 (b2 h), a3.trans ((renew_mono σ1).trans b3), fun w0 W ρ a w hA hI hAl hvc Q hn => ?_⟩
          rw [rounds_succ]
          exact a4 w0 W ρ a w hA hI hAl (b2 hvc) _ fun ρ' a' w' hag hA' hI' =>
            b4 w0 W ρ' a' w' (by rw [renew_tm]; exact hA') (renew_inv hI') (hAl.agree hal hag) hvc Q fun ρ2 a2 w2 hag2 hA2 hI2 => hn ρ2 a2 w2 (hag.trans a3 (renew_agree hag2)) hA2 hI2
        · rename_i r hr
          obtain ⟨a1, a2, a3, a4⟩ := ih σ σ' x h hok hal
          refine ⟨a1, a2, a3, fun w0 W ρ a w hA hI hAl hvc Q hn => ?_⟩
          rw [rounds_succ]
          refine a4 w0 W ρ a w hA hI hAl hvc _ fun ρ' a' w' hag hA' hI' => ?_
          cases x with
          | normal => exact absurd h (hr σ')
          | exit i => exact hn ρ' a' w' hag hA' hI'
          | ret => exact hn ρ' a' w' hag hA' hI'
    obtain ⟨a1, a2, a3, a4⟩ := key n σ h hok hal
    exact ⟨a1, a2, a3, fun w0 W ρ a w hA hI hAl hvc Q hn => wp_loop_rounds n (a4 w0 W ρ a w hA hI hAl hvc Q hn)⟩
  | scope b ih =>
    intro σ σ' x h hok hal
    simp only [vrun] at h
    obtain ⟨a1, a2, a3, a4⟩ := ih σ σ' x h hok hal
    refine ⟨a1, a2, a3, fun w0 W ρ a w hA hI hAl hvc Q hn => wp_scope_straight (a4 w0 W ρ a w hA hI hAl hvc _ fun ρ' a' w' hag hA' hI' => ?_)⟩
    cases x <;> exact hn ρ' a' w' hag hA' hI'
  | exit id =>
    intro σ σ' x h hok hal
    cases h
    exact ⟨hok, _root_.id, mono.refl _, fun w0 W ρ a w hA hI _ _ Q hn => wp_exit (hn ρ a w (Agree.refl _ _) hA hI)⟩
  | ret =>
    intro σ σ' x h hok hal
    cases h
    exact ⟨hok, id, mono.refl _, fun w0 W ρ a w hA hI _ _ Q hn => wp_ret (hn ρ a w (Agree.refl _ _) hA hI)⟩
  | _ => intro σ σ' x h; simp only [vrun] at h; cases h

end
end Vm
end Go.Proofs.YtbbifiogcpcpfaaDoor
