/-
  A small symbolic machine, part 20: states with slots and regions of which nothing is known; what a run leaves, brought into such a form; pieces of code from form to form.
-/
import Derived.Test.YtbbifiogcpcpfaaDoorVmSee
namespace Go.Proofs.YtbbifiogcpcpfaaDoor
namespace Vm

/-! ### Forms -/
def setAll {α : Type} : List (Option α) → List (Nat × α) → List (Option α)
  | l, [] => l
  | l, (i, x) :: r => setAll (l.set i (some x)) r
def mkT {α : Type} (n : Nat) (l : List (Nat × α)) : List (Option α) := setAll (List.replicate n none) l
def fillT (g : Nat → Value) : Nat → List (Option Value) → List Value
  | _, [] => []
  | i, some v :: l => v :: fillT g (i + 1) l
  | i, none :: l => g i :: fillT g (i + 1) l

/-- What is known of slots and of regions; where some regions lie. -/
structure TS where
  tm : List (Option Value)
  hp : Hp
  loc : List (Nat × Nat × Nat)
def TS.fill (τ : TS) (g : Nat → Value) (T : Hp) : VS := ⟨fillT g 0 τ.tm, τ.hp ++ T, True, 0⟩

structure RSim (w0 : World) (W : Nat → Nat → Prop) (ρ : Emb) (σ : VS) (a : Act) (w : World) : Prop where
  ok : OkS σ
  tm : SimA ρ σ.tm a
  inv : Inv w0 W ρ σ.hp w
def LocOK (ρ : Emb) (hp : Hp) (l : List (Nat × Nat × Nat)) : Prop := ∀ r b o, (r, b, o) ∈ l → ρ r = (b, o) ∧ pres hp r
def TSim (w0 : World) (W : Nat → Nat → Prop) (τ : TS) (a : Act) (w : World) : Prop :=
  ∃ g T ρ, RSim w0 W ρ (τ.fill g T) a w ∧ LocOK ρ τ.hp τ.loc

theorem setAll_length {α : Type} : ∀ (r : List (Nat × α)) (l : List (Option α)), (setAll l r).length = l.length
  | [], l => rfl
  | (i, x) :: r, l => by rw [setAll, setAll_length r]; simp
theorem mkT_length {α : Type} (n : Nat) (l : List (Nat × α)) : (mkT n l).length = n := by rw [mkT, setAll_length]; simp
theorem setAll_get {α : Type} : ∀ (r : List (Nat × α)) (l : List (Option α)) (i : Nat) (x : α), (setAll l r)[i]? = some (some x) → l[i]? = some (some x) ∨ (i, x) ∈ r
  | [], l, i, x, h => .inl h
  | (j, y) :: r, l, i, x, h => by
    rw [setAll] at h
    rcases setAll_get r _ i x h with h | h
    · by_cases hij : i = j
      · subst hij
        have hlt : i < l.length := by
          rcases Nat.lt_or_ge i l.length with h' | h'
          · exact h'
          · rw [List.getElem?_eq_none (by simpa using h')] at h; cases h
        rw [List.getElem?_set_self hlt] at h
        cases h
        exact .inr (by simp)
      · rw [List.getElem?_set_ne (Ne.symm hij)] at h
        exact .inl h
    · exact .inr (by simp [h])
theorem mkT_get {α : Type} {n : Nat} {l : List (Nat × α)} {i : Nat} {x : α} (h : (mkT n l)[i]? = some (some x)) : (i, x) ∈ l := by
  rcases setAll_get l _ i x h with h | h
  · rw [List.getElem?_replicate] at h; split at h <;> cases h
  · exact h

theorem fillT_length (g : Nat → Value) : ∀ (l : List (Option Value)) (i : Nat), (fillT g i l).length = l.length
  | [], i => rfl
  | some v :: l, i => by simp [fillT, fillT_length g l]
  | none :: l, i => by simp [fillT, fillT_length g l]
/-- A row of values of which some are said. -/
theorem fillT_eq : ∀ (l : List (Option Value)) (i : Nat) (vs : List Value), vs.length = l.length → (∀ (j : Nat) v, l[j]? = some (some v) → vs[j]? = some v) →
    vs = fillT (fun k => (vs[k - i]?).getD undef) i l
  | [], i, vs, h, _ => by cases vs with
    | nil => rfl
    | cons => simp at h
  | x :: l, i, [], h, _ => by simp at h
  | x :: l, i, v :: vs, h, hv => by
    have ih := fillT_eq l (i + 1) vs (by simpa using h) (fun j u hu => by simpa using hv (j + 1) u (by simpa using hu))
    have e : fillT (fun k => ((v :: vs)[k - i]?).getD undef) (i + 1) l = fillT (fun k => (vs[k - (i + 1)]?).getD undef) (i + 1) l := by
      have gen : ∀ (l : List (Option Value)) (m : Nat), i + 1 ≤ m → fillT (fun k => ((v :: vs)[k - i]?).getD undef) m l = fillT (fun k => (vs[k - (i + 1)]?).getD undef) m l := by
        intro l
        induction l with
        | nil => intro m _; rfl
        | cons y l ih =>
          intro m hm
          cases y with
          | some u => simp only [fillT, ih (m + 1) (by omega)]
          | none =>
            simp only [fillT, ih (m + 1) (by omega)]
            congr 1
            rw [show m - i = (m - (i + 1)) + 1 by omega, List.getElem?_cons_succ]
      exact gen l (i + 1) (Nat.le_refl _)
    cases x with
    | some u =>
      have hu : v = u := by have := hv 0 u (by simp); simpa using this
      subst hu
      simp only [fillT, e]
      exact congrArg _ ih
    | none =>
      simp only [fillT, Nat.sub_self, List.getElem?_cons_zero, Option.getD_some, e]
      exact congrArg _ ih

/-! ### Bringing a state into form -/
/-- Which regions are kept, and where they go; whether addresses may stand in them. -/
abbrev Keep := List (Nat × Nat × Bool)
def piOf (m : Nat) (keep : Keep) : Emb := fun r => match look2 keep r with
  | some (h, _) => (h, 0)
  | none => (m + r, 0)
structure View where
  x : Xt
  sl : List (Nat × Value)
  rg : List (Nat × Bool × List Value)
  vc : Prop
def slotsK (m : Nat) (keep : Keep) (tm : List Value) : List Nat → List (Nat × Value)
  | [] => []
  | t :: l => (t, ren (piOf m keep) ((tm[t]?).getD undef)) :: slotsK m keep tm l
def regsK (m : Nat) (all : Keep) (hp : Hp) : Keep → Option (List (Nat × Bool × List Value))
  | [] => some []
  | (r, h, f) :: l => match hp[r]? with
    | some (some (b, cs)) => (match regsK m all hp l with
      | some rs => some ((h, b, match f with
        | true => cs.map (ren0 (piOf m all))
        | false => cs) :: rs)
      | none => none)
    | _ => none
def viewK (m : Nat) (keep : Keep) (L : List Nat) (x : Xt) (σ : VS) : Option View :=
  match regsK m keep σ.hp keep with
  | some rs => (match σ.bs with
    | 0 => some ⟨x, slotsK m keep σ.tm L, rs, σ.vc⟩
    | _ => none)
  | none => none
/-- The keeping is in order: no region twice, no place twice, places within m. -/
def keepOK (m : Nat) (keep : Keep) : Bool := decide (keep.map (·.1)).Nodup && decide (keep.map (·.2.1)).Nodup && keep.all fun k => Nat.blt k.2.1 m
def twin (hp : Hp) : Hp := hp.map fun o => o.map fun _ => (false, [])

theorem regsK_mem {m : Nat} {all : Keep} {hp : Hp} : ∀ (l : Keep) (rs : List (Nat × Bool × List Value)), regsK m all hp l = some rs →
    (∀ h b cs', (h, b, cs') ∈ rs → ∃ r f cs, (r, h, f) ∈ l ∧ hp[r]? = some (some (b, cs)) ∧ cs' = (match f with | true => cs.map (ren0 (piOf m all)) | false => cs)) ∧
    (∀ r h f, (r, h, f) ∈ l → pres hp r) ∧ rs.map (·.1) = l.map (·.2.1)
  | [], rs, h => by simp only [regsK, Option.some.injEq] at h; subst h; simp
  | (r, q, f) :: l, rs, h => by
    simp only [regsK] at h
    split at h
    case h_2 => cases h
    rename_i b cs hr
    split at h
    case h_2 => cases h
    rename_i rs' hrs
    cases h
    obtain ⟨h1, h2, h3⟩ := regsK_mem l rs' hrs
    refine ⟨fun k b' cs' hm => ?_, fun r' h' f' hm => ?_, by simp [h3]⟩
    · rcases List.mem_cons.1 hm with he | hm
      · simp only [Prod.mk.injEq] at he
        obtain ⟨rfl, rfl, rfl⟩ := he
        exact ⟨r, f, cs, by simp, hr, rfl⟩
      · obtain ⟨r', f', cs2, h4, h5⟩ := h1 k b' cs' hm
        exact ⟨r', f', cs2, by simp [h4], h5⟩
    · rcases List.mem_cons.1 hm with he | hm
      · simp only [Prod.mk.injEq] at he
        obtain ⟨rfl, rfl, rfl⟩ := he
        exact ⟨_, hr⟩
      · exact h2 r' h' f' hm

theorem slotsK_mem {m : Nat} {keep : Keep} {tm : List Value} : ∀ (L : List Nat) (t : Nat) (v : Value), (t, v) ∈ slotsK m keep tm L → v = ren (piOf m keep) ((tm[t]?).getD undef)
  | [], t, v, h => by simp [slotsK] at h
  | s :: L, t, v, h => by
    simp only [slotsK, List.mem_cons] at h
    rcases h with he | h
    · simp only [Prod.mk.injEq] at he; obtain ⟨rfl, rfl⟩ := he; rfl
    · exact slotsK_mem L t v h

/-- Where the regions lie behind the bringing into form. -/
def rhoOf (m : Nat) (keep : Keep) (ρ : Emb) : Emb := fun r' => if r' < m then (match keep.find? (fun k => k.2.1 == r') with
  | some k => ρ k.1
  | none => (0, 0)) else ρ (r' - m)

theorem look2_of_mem : ∀ (keep : Keep) (r : Nat) (x : Nat × Bool), (keep.map (·.1)).Nodup → (r, x) ∈ keep → look2 keep r = some x
  | [], r, x, _, h => by simp at h
  | (k, y) :: l, r, x, hn, h => by
    simp only [List.map_cons, List.nodup_cons] at hn
    simp only [look2]
    rcases List.mem_cons.1 h with he | h
    · simp only [Prod.mk.injEq] at he
      obtain ⟨rfl, rfl⟩ := he
      simp
    · have hne : k ≠ r := fun e => hn.1 (by rw [e]; exact List.mem_map.2 ⟨_, h, rfl⟩)
      have : Nat.beq k r = false := by
        cases hb : Nat.beq k r with
        | false => rfl
        | true => exact absurd (Nat.eq_of_beq_eq_true hb) hne
      rw [this]
      exact look2_of_mem l r x hn.2 h

theorem find_of_mem : ∀ (keep : Keep) (r h : Nat) (f : Bool), (keep.map (·.2.1)).Nodup → (r, h, f) ∈ keep → keep.find? (fun k => k.2.1 == h) = some (r, h, f)
  | [], r, h, f, _, hm => by simp at hm
  | (k, q, g) :: l, r, h, f, hn, hm => by
    simp only [List.map_cons, List.nodup_cons] at hn
    rw [List.find?_cons]
    rcases List.mem_cons.1 hm with he | hm
    · simp only [Prod.mk.injEq] at he
      obtain ⟨rfl, rfl, rfl⟩ := he
      simp
    · have hne : q ≠ h := fun e => hn.1 (by rw [e]; exact List.mem_map.2 ⟨_, hm, rfl⟩)
      have : (q == h) = false := by simpa using hne
      simp only [this]
      exact find_of_mem l r h f hn.2 hm

section
variable {w0 w : World} {W : Nat → Nat → Prop} {ρ : Emb} {σ : VS} {a : Act} {m : Nat} {keep : Keep}

theorem rho_pi (hk : keepOK m keep = true) (r : Nat) : (rhoOf m keep ρ (piOf m keep r).1).1 = (ρ r).1 ∧ (rhoOf m keep ρ (piOf m keep r).1).2 + (piOf m keep r).2 = (ρ r).2 := by
  simp only [keepOK, Bool.and_eq_true, decide_eq_true_eq, List.all_eq_true] at hk
  obtain ⟨⟨h1, h2⟩, h3⟩ := hk
  unfold piOf
  cases hl : look2 keep r with
  | none =>
    simp only [rhoOf]
    rw [if_neg (by omega), Nat.add_sub_cancel_left]
    exact ⟨rfl, rfl⟩
  | some x =>
    obtain ⟨h, f⟩ := x
    have hm := look2_mem _ _ _ hl
    have hlt : h < m := Nat.le_of_ble_eq_true (h3 _ hm)
    simp only [rhoOf]
    rw [if_pos hlt, find_of_mem keep r h f h2 hm]
    exact ⟨rfl, rfl⟩

theorem ren0_pi (hk : keepOK m keep = true) {hp : Hp} {v : Value} (hv : ok0 hp v) : ren0 (rhoOf m keep ρ) (ren0 (piOf m keep) v) = ren0 ρ v := by
  have ad : ∀ b : Addr, rena (rhoOf m keep ρ) (rena (piOf m keep) b) = rena ρ b := by
    intro b
    obtain ⟨e1, e2⟩ := rho_pi (ρ := ρ) hk b.block
    simp only [rena]
    rw [e1, ← e2]
    congr 1
    omega
  cases v with
  | pointer b => cases b with
    | none => rfl
    | some b => simp only [ren0, ad]
  | slice b l c => cases b with
    | none => rfl
    | some b => simp only [ren0, ad]
  | _ => rfl
theorem ren1_pi (hk : keepOK m keep = true) {hp : Hp} {v : Value} (hv : ok1 hp v) : ren1 (rhoOf m keep ρ) (ren1 (piOf m keep) v) = ren1 ρ v := by
  cases v with
  | agg cs =>
    simp only [ren1, Array.map_map]
    exact congrArg Value.agg (Array.map_congr_left fun u hu => ren0_pi hk (hv u hu))
  | func f x c =>
    simp only [ren1, Array.map_map]
    have e1 : x.map (ren0 (rhoOf m keep ρ) ∘ ren0 (piOf m keep)) = x.map (ren0 ρ) := Array.map_congr_left fun u hu => ren0_pi hk (hv.1 u hu)
    have e2 : c.map (ren0 (rhoOf m keep ρ) ∘ ren0 (piOf m keep)) = c.map (ren0 ρ) := Array.map_congr_left fun u hu => ren0_pi hk (hv.2 u hu)
    rw [e1, e2]
  | pointer b => simp only [ok1] at hv; have := ren0_pi (ρ := ρ) hk hv; cases b <;> exact this
  | slice b l c => simp only [ok1] at hv; have := ren0_pi (ρ := ρ) hk hv; cases b <;> exact this
  | _ => rfl
theorem ren_pi (hk : keepOK m keep = true) {hp : Hp} {v : Value} (hv : ok2 hp v) : ren (rhoOf m keep ρ) (ren (piOf m keep) v) = ren ρ v := by
  cases v with
  | tuple vs =>
    simp only [ren, Array.map_map]
    exact congrArg Value.tuple (Array.map_congr_left fun u hu => ren1_pi hk (hv u hu))
  | agg cs => simp only [ok2] at hv; exact ren1_pi hk hv
  | func f x c => simp only [ok2] at hv; exact ren1_pi hk hv
  | pointer b => simp only [ok2] at hv; have := ren1_pi (ρ := ρ) hk hv; cases b <;> exact this
  | slice b l c => simp only [ok2] at hv; have := ren1_pi (ρ := ρ) hk hv; cases b <;> exact this
  | _ => rfl

theorem twin_get {hp : Hp} {r : Nat} {x : Bool × List Value} (h : (twin hp)[r]? = some (some x)) : x = (false, []) ∧ pres hp r := by
  simp only [twin, List.getElem?_map, Option.map_eq_some_iff] at h
  obtain ⟨o, ho, he⟩ := h
  cases o with
  | none => simp at he
  | some y => simp at he; exact ⟨he.symm, ⟨y, ho⟩⟩
theorem twin_pres {hp : Hp} {r : Nat} (h : pres hp r) : (twin hp)[r]? = some (some (false, [])) := by
  obtain ⟨x, hx⟩ := h
  simp only [twin, List.getElem?_map, hx, Option.map_some]

/-- The memory in form: the kept regions at their places, and behind them all that there was, of which nothing is known any more. -/
def formH (m : Nat) (rs : List (Nat × Bool × List Value)) (hp : Hp) : Hp := mkT m rs ++ twin hp
theorem mkT_of_mem {α : Type} : ∀ (l : List (Nat × α)) (n : Nat) (i : Nat) (x : α), (l.map (·.1)).Nodup → (i, x) ∈ l → i < n → (mkT n l)[i]? = some (some x) := by
  intro l n i x hn hm hi
  have keepit : ∀ (r : List (Nat × α)) (l : List (Option α)), l[i]? = some (some x) → (∀ y, (i, y) ∉ r) → (setAll l r)[i]? = some (some x) := by
    intro r
    induction r with
    | nil => intro l h _; exact h
    | cons p r ih =>
      intro l h hno
      obtain ⟨j, y⟩ := p
      rw [setAll]
      have hne : j ≠ i := fun e => hno y (by rw [e]; simp)
      exact ih _ (by rw [List.getElem?_set_ne hne]; exact h) (fun z hz => hno z (by simp [hz]))
  have go : ∀ (r : List (Nat × α)) (l : List (Option α)), (r.map (·.1)).Nodup → (i, x) ∈ r → i < l.length → (setAll l r)[i]? = some (some x) := by
    intro r
    induction r with
    | nil => intro l _ h; simp at h
    | cons p r ih =>
      intro l hn hm hl
      obtain ⟨j, y⟩ := p
      simp only [List.map_cons, List.nodup_cons] at hn
      rw [setAll]
      rcases List.mem_cons.1 hm with he | hm
      · simp only [Prod.mk.injEq] at he
        obtain ⟨rfl, rfl⟩ := he
        exact keepit r _ (by rw [List.getElem?_set_self hl]) (fun z hz => hn.1 (List.mem_map.2 ⟨_, hz, rfl⟩))
      · exact ih _ hn.2 hm (by simpa using hl)
  exact go l _ hn hm (by simpa using hi)

theorem formH_get {rs : List (Nat × Bool × List Value)} {hp : Hp} {r : Nat} {x : Bool × List Value} (h : (formH m rs hp)[r]? = some (some x)) :
    (r < m ∧ (r, x) ∈ rs) ∨ (m ≤ r ∧ x = (false, []) ∧ pres hp (r - m)) := by
  unfold formH at h
  by_cases hr : r < m
  · rw [List.getElem?_append_left (by rw [mkT_length]; exact hr)] at h
    exact .inl ⟨hr, mkT_get h⟩
  · rw [List.getElem?_append_right (by rw [mkT_length]; omega), mkT_length] at h
    obtain ⟨h1, h2⟩ := twin_get h
    exact .inr ⟨by omega, h1, h2⟩

/-- **A state, brought into form.** -/
theorem view_sound (h : RSim w0 W ρ σ a w) (hk : keepOK m keep = true) {L : List Nat} {x : Xt} {V : View} (hv : viewK m keep L x σ = some V)
    (hflat : ∀ r h, (r, h, false) ∈ keep → ∀ b cs, σ.hp[r]? = some (some (b, cs)) → ∀ v ∈ cs, ∀ π, ren0 π v = v) {loc : List (Nat × Nat × Nat)} (hloc : ∀ q b o, (q, b, o) ∈ loc → ∃ r f, (r, q, f) ∈ keep ∧ ρ r = (b, o)) :
    TSim w0 W ⟨mkT σ.tm.length V.sl, mkT m V.rg, loc⟩ a w := by
  unfold viewK at hv
  split at hv
  case h_2 => cases hv
  rename_i rs hrs
  split at hv
  case h_2 => cases hv
  rename_i hbs
  cases hv
  simp only
  obtain ⟨m1, m2, m3⟩ := regsK_mem _ _ hrs
  have hk' := hk
  simp only [keepOK, Bool.and_eq_true, decide_eq_true_eq, List.all_eq_true] at hk'
  obtain ⟨⟨k1, k2⟩, k3⟩ := hk'
  have rsn : (rs.map (·.1)).Nodup := by rw [m3]; exact k2
  -- what stands in a kept region
  have cont : ∀ q b cs', (q, b, cs') ∈ rs → ∃ r f cs, (r, q, f) ∈ keep ∧ σ.hp[r]? = some (some (b, cs)) ∧ cs' = cs.map (ren0 (piOf m keep)) := by
    intro q b cs' hm
    obtain ⟨r, f, cs, h1, h2, h3⟩ := m1 q b cs' hm
    refine ⟨r, f, cs, h1, h2, ?_⟩
    cases f with
    | true => exact h3
    | false =>
      rw [h3]
      have := List.map_congr_left (l := cs) (f := ren0 (piOf m keep)) (g := id) fun v hv => hflat r q h1 b cs h2 v hv _
      rw [this]; simp
  have presF : ∀ r, pres σ.hp r → pres (formH m rs σ.hp) (piOf m keep r).1 := by
    intro r hr
    unfold piOf
    cases hl : look2 keep r with
    | none =>
      refine ⟨(false, []), ?_⟩
      simp only [formH]
      rw [List.getElem?_append_right (by rw [mkT_length]; omega), mkT_length, Nat.add_sub_cancel_left]
      exact twin_pres hr
    | some x =>
      obtain ⟨q, f⟩ := x
      have hm := look2_mem _ _ _ hl
      have hq : q ∈ rs.map (·.1) := by rw [m3]; exact List.mem_map.2 ⟨_, hm, rfl⟩
      obtain ⟨⟨q', y⟩, hy, he⟩ := List.mem_map.1 hq
      simp only at he; subst he
      refine ⟨y, ?_⟩
      simp only [formH]
      rw [List.getElem?_append_left (by rw [mkT_length]; exact Nat.le_of_ble_eq_true (k3 _ hm))]
      exact mkT_of_mem rs m _ _ rsn hy (Nat.le_of_ble_eq_true (k3 _ hm))
  have ok0F : ∀ v, ok0 σ.hp v → ok0 (formH m rs σ.hp) (ren0 (piOf m keep) v) := by
    intro v hv
    cases v with
    | pointer b => cases b with
      | none => trivial
      | some b => exact ⟨rfl, presF _ hv.2⟩
    | slice b l c => cases b with
      | none => trivial
      | some b => exact ⟨rfl, presF _ hv.2⟩
    | _ => exact hv
  have ok1F : ∀ v, ok1 σ.hp v → ok1 (formH m rs σ.hp) (ren1 (piOf m keep) v) := by
    intro v hv
    cases v with
    | agg cs =>
      intro u hu
      simp only [Array.mem_map] at hu
      obtain ⟨z, hz, rfl⟩ := hu
      exact ok0F z (hv z hz)
    | func f x c =>
      refine ⟨fun u hu => ?_, fun u hu => ?_⟩
      · simp only [Array.mem_map] at hu
        obtain ⟨z, hz, rfl⟩ := hu
        exact ok0F z (hv.1 z hz)
      · simp only [Array.mem_map] at hu
        obtain ⟨z, hz, rfl⟩ := hu
        exact ok0F z (hv.2 z hz)
    | pointer b => simp only [ok1] at hv; have := ok0F _ hv; cases b <;> exact this
    | slice b l c => simp only [ok1] at hv; have := ok0F _ hv; cases b <;> exact this
    | _ => exact hv
  have ok2F : ∀ v, ok2 σ.hp v → ok2 (formH m rs σ.hp) (ren (piOf m keep) v) := by
    intro v hv
    cases v with
    | tuple vs =>
      intro u hu
      simp only [Array.mem_map] at hu
      obtain ⟨z, hz, rfl⟩ := hu
      exact ok1F z (hv z hz)
    | agg cs => simp only [ok2] at hv; exact ok1F _ hv
    | func f x c => simp only [ok2] at hv; exact ok1F _ hv
    | pointer b => simp only [ok2] at hv; have := ok1F _ hv; cases b <;> exact this
    | slice b l c => simp only [ok2] at hv; have := ok1F _ hv; cases b <;> exact this
    | _ => exact hv
  have locOf : ∀ {q r f}, (r, q, f) ∈ keep → rhoOf m keep ρ q = ρ r := by
    intro q r f hm
    have hq : q < m := Nat.le_of_ble_eq_true (k3 _ hm)
    simp only [rhoOf]
    rw [if_pos hq, find_of_mem keep r q f k2 hm]
  -- the slots
  have hsl : (σ.tm.map (ren (piOf m keep))) = fillT (fun k => ((σ.tm.map (ren (piOf m keep)))[k - 0]?).getD undef) 0 (mkT σ.tm.length (slotsK m keep σ.tm L)) := by
    refine fillT_eq _ 0 _ (by rw [mkT_length]; simp) fun j v hj => ?_
    have hv := slotsK_mem L j v (mkT_get hj)
    have hlt : j < σ.tm.length := by
      rcases Nat.lt_or_ge j σ.tm.length with h' | h'
      · exact h'
      · rw [List.getElem?_eq_none (by rw [mkT_length]; exact h')] at hj; cases hj
    rw [hv, List.getElem?_map, List.getElem?_eq_getElem hlt]; rfl
  refine ⟨fun k => ((σ.tm.map (ren (piOf m keep)))[k - 0]?).getD undef, twin σ.hp, rhoOf m keep ρ, ⟨⟨?_, ?_⟩, ⟨?_, h.tm.defers⟩, ?_⟩, ?_⟩
  · intro v hv
    simp only [TS.fill] at hv ⊢
    rw [← hsl] at hv
    obtain ⟨u, hu, rfl⟩ := List.mem_map.1 hv
    exact ok2F u (h.ok.tm u hu)
  · intro q b cs' hq v hv
    rcases formH_get (m := m) hq with ⟨h1, h2⟩ | ⟨_, h2, _⟩
    · obtain ⟨r, f, cs, hm, hr, rfl⟩ := cont q b cs' h2
      obtain ⟨u, hu, rfl⟩ := List.mem_map.1 hv
      exact ok0F u (h.ok.hp r b cs hr u hu)
    · cases h2; simp at hv
  · simp only [TS.fill]
    rw [← hsl, h.tm.tmps, List.map_map]
    exact List.map_congr_left fun v hv => (ren_pi hk (h.ok.tm v hv)).symm
  · simp only [TS.fill]
    refine ⟨fun q b cs' hq i v hi => ?_, fun q cs' hq i hi => ?_, fun q q' b c1 b' c2 hne hq hq' hb i i' hi hi' => ?_, h.inv.fr⟩
    · rcases formH_get (m := m) hq with ⟨h1, h2⟩ | ⟨_, h2, _⟩
      · obtain ⟨r, f, cs, hm, hr, rfl⟩ := cont q b cs' h2
        rw [List.getElem?_map, Option.map_eq_some_iff] at hi
        obtain ⟨u, hu, rfl⟩ := hi
        rw [locOf hm, ren0_pi hk (h.ok.hp r b cs hr u (List.mem_of_getElem? hu))]
        exact h.inv.cell r b cs hr i u hu
      · cases h2; simp at hi
    · rcases formH_get (m := m) hq with ⟨h1, h2⟩ | ⟨_, h2, _⟩
      · obtain ⟨r, f, cs, hm, hr, rfl⟩ := cont q true cs' h2
        rw [locOf hm]
        exact h.inv.own r cs hr i (by simpa using hi)
      · cases h2
    · rcases formH_get (m := m) hq with ⟨h1, h2⟩ | ⟨_, h2, _⟩
      · rcases formH_get (m := m) hq' with ⟨h1', h2'⟩ | ⟨_, h2', _⟩
        · obtain ⟨r, f, cs, hm, hr, rfl⟩ := cont q b c1 h2
          obtain ⟨r', f', cs', hm', hr', rfl⟩ := cont q' b' c2 h2'
          have hrr : r ≠ r' := by
            intro e; subst e
            have e1 := look2_of_mem keep r _ k1 hm
            have e2 := look2_of_mem keep r _ k1 hm'
            rw [e1] at e2
            cases e2
            exact hne rfl
          rw [locOf hm, locOf hm']
          exact h.inv.dis r r' b cs b' cs' hrr hr hr' hb i i' (by simpa using hi) (by simpa using hi')
        · cases h2'; simp at hi'
      · cases h2; simp at hi
  · intro q b o hq
    obtain ⟨r, f, hm, hr⟩ := hloc q b o hq
    refine ⟨by rw [locOf hm, hr], ?_⟩
    have hq' : q ∈ rs.map (·.1) := by rw [m3]; exact List.mem_map.2 ⟨_, hm, rfl⟩
    obtain ⟨⟨q', y⟩, hy, he⟩ := List.mem_map.1 hq'
    simp only at he; subst he
    exact ⟨y, mkT_of_mem rs m _ _ rsn hy (Nat.le_of_ble_eq_true (k3 _ hm))⟩

end
end Vm
end Go.Proofs.YtbbifiogcpcpfaaDoor
