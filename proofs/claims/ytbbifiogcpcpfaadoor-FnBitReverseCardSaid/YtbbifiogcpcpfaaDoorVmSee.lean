/-
  A small symbolic machine, part 19: what is looked at behind a virtual run; the ways in which parameters may share a place; number codes.
-/
import Derived.Test.YtbbifiogcpcpfaaDoorVmExt
namespace Go.Proofs.YtbbifiogcpcpfaaDoor
namespace Vm

structure Seen where
  news : List (List Value)
  rv : RV
  vc : Prop
def newsK (hp : Hp) (nt : Nat) : Nat → List PK → Option (List (List Value))
  | _, [] => some []
  | j, .W n :: ks => (match hp[nt + j]? with
    | some (some (true, m)) => (match Nat.beq m.length n with
      | true => (match newsK hp nt (j + 1) ks with
        | some ns => some (m :: ns)
        | none => none)
      | false => none)
    | _ => none)
  | j, _ :: ks => newsK hp nt (j + 1) ks
def freshK (hp : Hp) (nt np l n c : Nat) (vs : List Value) : Option RV :=
  match Nat.blt l nt || Nat.ble (nt + np) l with
  | true => (match hp[l]? with
    | some (some (true, cs)) => (match Nat.beq n cs.length && Nat.beq c cs.length && Nat.blt 0 n with
      | true => some (.fresh cs vs)
      | false => none)
    | _ => none)
  | false => none
def rvK (ks : List PK) (nt : Nat) (hp : Hp) : Value → Option RV
  | .pointer (some ⟨r, 0, none⟩) => (match Nat.ble nt r with
    | true => (match ks[r - nt]? with
      | some (.W _) => some (.same (r - nt))
      | _ => none)
    | false => none)
  | .slice (some ⟨l, 0, none⟩) n c => freshK hp nt ks.length l n c []
  | .tuple vs => (match vs.toList with
    | .slice (some ⟨l, 0, none⟩) n c :: u :: us => freshK hp nt ks.length l n c (u :: us)
    | _ => some (.val (.tuple vs)))
  | v => some (.val v)
def seeK (nt : Nat) (ks : List PK) (o : Out) : Option Seen :=
  match newsK o.hp nt 0 ks with
  | some ns => (match rvK ks nt o.hp o.val with
    | some rv => some ⟨ns, rv, o.vc⟩
    | none => none)
  | none => none
/-- A run, and what is looked at behind it. -/
def frunQ (P : Program) (E : Env) (n : Nat) (fn : Func) (ks : List PK) (vs : List Value) (hp : Hp) : Option Seen :=
  match fn.body with
  | none => none
  | some c => vrunK P E n c (start fn vs hp) fun x σ => match fout P fn x σ with
    | some o => seeK fn.ntmps ks o
    | none => none
structure Sees (news : List (List Value)) (rv : RV) (o : Option Seen) : Prop where
  out : ∃ s, o = some s ∧ s.vc ∧ s.news = news ∧ s.rv = rv
theorem Sees.mk' {news : List (List Value)} {rv : RV} {s : Seen} (h1 : s.vc) (h2 : s.news = news) (h3 : s.rv = rv) : Sees news rv (some s) := ⟨s, rfl, h1, h2, h3⟩

/-- All ways in which read parameters may be written ones too. -/
def wsOf (n : Nat) : Nat → List PK → List Nat
  | _, [] => []
  | i, .W m :: ks => (match Nat.beq n m with
    | true => i :: wsOf n (i + 1) ks
    | false => wsOf n (i + 1) ks)
  | i, _ :: ks => wsOf n (i + 1) ks
def alsOf (ks0 : List PK) : List PK → List Al
  | [] => [[]]
  | .V :: l => (alsOf ks0 l).map (none :: ·)
  | .W _ :: l => (alsOf ks0 l).map (none :: ·)
  | .R n :: l => (alsOf ks0 l).map (none :: ·) ++ (wsOf n 0 ks0).flatMap fun i => (alsOf ks0 l).map (some i :: ·)
  | .S n :: l => (alsOf ks0 l).map (none :: ·) ++ (wsOf n 0 ks0).flatMap fun i => (alsOf ks0 l).map (some i :: ·)

theorem wsOf_mem {n : Nat} : ∀ (ks : List PK) (i j : Nat), ks[j]? = some (.W n) → i + j ∈ wsOf n i ks
  | [], i, j, h => by simp at h
  | k :: ks, i, j, h => by
    cases j with
    | zero =>
      simp only [List.getElem?_cons_zero, Option.some.injEq] at h
      subst h
      simp [wsOf]
    | succ j =>
      have ih := wsOf_mem ks (i + 1) j (by simpa using h)
      rw [show i + 1 + j = i + (j + 1) by omega] at ih
      cases k <;> simp only [wsOf] <;> try exact ih
      split
      · exact List.mem_cons_of_mem _ ih
      · exact ih

theorem als_mem {ks0 : List PK} : ∀ (ks : List PK) (as : Al), okAl ks0 ks as = true → as ∈ alsOf ks0 ks
  | [], [], _ => by simp [alsOf]
  | [], _ :: _, h => by simp [okAl] at h
  | k :: ks, [], h => by cases k <;> simp [okAl] at h
  | k :: ks, a :: as, h => by
    have mk : ∀ (n i : Nat), (match ks0[i]? with | some (.W m) => Nat.beq n m | _ => false) = true → i ∈ wsOf n 0 ks0 := by
      intro n i hi
      split at hi
      · rename_i m hm
        have := Nat.eq_of_beq_eq_true hi
        subst this
        simpa using wsOf_mem ks0 0 i hm
      · cases hi
    cases k with
    | V =>
      cases a with
      | none => exact List.mem_map.2 ⟨as, als_mem ks as h, rfl⟩
      | some i => simp [okAl] at h
    | W n =>
      cases a with
      | none => exact List.mem_map.2 ⟨as, als_mem ks as h, rfl⟩
      | some i => simp [okAl] at h
    | R n =>
      cases a with
      | none => exact List.mem_append_left _ (List.mem_map.2 ⟨as, als_mem ks as h, rfl⟩)
      | some i =>
        rw [okAl, Bool.and_eq_true] at h
        exact List.mem_append_right _ (List.mem_flatMap.2 ⟨i, mk n i h.1, List.mem_map.2 ⟨as, als_mem ks as h.2, rfl⟩⟩)
    | S n =>
      cases a with
      | none => exact List.mem_append_left _ (List.mem_map.2 ⟨as, als_mem ks as h, rfl⟩)
      | some i =>
        rw [okAl, Bool.and_eq_true] at h
        exact List.mem_append_right _ (List.mem_flatMap.2 ⟨i, mk n i h.1, List.mem_map.2 ⟨as, als_mem ks as h.2, rfl⟩⟩)

theorem newsK_at {hp : Hp} {nt : Nat} : ∀ (ks : List PK) (j : Nat) (ns : List (List Value)), newsK hp nt j ks = some ns → newsAt hp nt j ks ns
  | [], _, ns, h => by simp only [newsK, Option.some.injEq] at h; exact h.symm
  | .V :: ks, j, ns, h => newsK_at ks (j + 1) ns h
  | .R _ :: ks, j, ns, h => newsK_at ks (j + 1) ns h
  | .S _ :: ks, j, ns, h => newsK_at ks (j + 1) ns h
  | .W n :: ks, j, ns, h => by
    simp only [newsK] at h
    split at h
    case h_2 => cases h
    rename_i m hm
    split at h
    case h_2 => cases h
    rename_i hl
    split at h
    case h_2 => cases h
    rename_i ns' hns
    cases h
    exact ⟨Nat.eq_of_beq_eq_true hl, hm, newsK_at ks (j + 1) ns' hns⟩

theorem freshK_at {hp : Hp} {nt np l n c : Nat} {vs : List Value} {rv : RV} (h : freshK hp nt np l n c vs = some rv) :
    ∃ cs, rv = .fresh cs vs ∧ 0 < cs.length ∧ (l < nt ∨ nt + np ≤ l) ∧ n = cs.length ∧ c = cs.length ∧ hp[l]? = some (some (true, cs)) := by
  unfold freshK at h
  split at h
  case h_2 => cases h
  rename_i hl
  split at h
  case h_2 => cases h
  rename_i cs hc
  split at h
  case h_2 => cases h
  rename_i hb
  cases h
  simp only [Bool.and_eq_true] at hb
  have h1 := Nat.eq_of_beq_eq_true hb.1.1
  have h2 := Nat.eq_of_beq_eq_true hb.1.2
  have h3 : 0 < n := Nat.le_of_ble_eq_true hb.2
  have hl' : l < nt ∨ nt + np ≤ l := by
    rcases Bool.or_eq_true_iff.1 hl with h | h
    · exact .inl (Nat.le_of_ble_eq_true h)
    · exact .inr (Nat.le_of_ble_eq_true h)
  exact ⟨cs, rfl, by omega, hl', h1, h2, hc⟩

theorem vargs_W (nt : Nat) : ∀ (ks : List PK) (as : Al) (cs : List (List Value)) (caps : List Nat) (j : Nat), as.length = ks.length → cs.length = ks.length → caps.length = ks.length →
    ∀ (i n : Nat), ks[i]? = some (.W n) → (∀ k ∈ as.zip ks, ∀ m i, k ≠ (some i, .W m)) → (vargs nt j ks as cs caps)[i]? = some (.pointer (some ⟨nt + (j + i), 0, none⟩))
  | [], as, cs, caps, j, _, _, _, i, n, h, _ => by simp at h
  | k :: ks, [], cs, caps, j, h, _, _, _, _, _, _ => by simp at h
  | k :: ks, a :: as, [], caps, j, _, h, _, _, _, _, _ => by simp at h
  | k :: ks, a :: as, c :: cs, [], j, _, _, h, _, _, _, _ => by simp at h
  | k :: ks, a :: as, c :: cs, cap :: caps, j, h1, h2, h3, i, n, hi, hz => by
    cases i with
    | zero =>
      simp only [List.getElem?_cons_zero, Option.some.injEq] at hi
      subst hi
      simp [vargs]
    | succ i =>
      have ih := vargs_W nt ks as cs caps (j + 1) (by simpa using h1) (by simpa using h2) (by simpa using h3) i n (by simpa using hi) (fun k hk => hz k (by simp [hk]))
      rw [show j + (i + 1) = j + 1 + i by omega]
      cases k <;> cases a <;> simpa [vargs] using ih

theorem vargs_length (nt : Nat) : ∀ (ks : List PK) (as : Al) (cs : List (List Value)) (caps : List Nat) (j : Nat), as.length = ks.length → cs.length = ks.length → caps.length = ks.length →
    (vargs nt j ks as cs caps).length = ks.length
  | [], as, cs, caps, j, _, _, _ => by simp [vargs]
  | k :: ks, [], cs, caps, j, h, _, _ => by simp at h
  | k :: ks, a :: as, [], caps, j, _, h, _ => by simp at h
  | k :: ks, a :: as, c :: cs, [], j, _, _, h => by simp at h
  | k :: ks, a :: as, c :: cs, cap :: caps, j, h1, h2, h3 => by
    have ih := vargs_length nt ks as cs caps (j + 1) (by simpa using h1) (by simpa using h2) (by simpa using h3)
    cases k <;> cases a <;> simpa [vargs] using ih

theorem okAl_len {ks0 : List PK} : ∀ (ks : List PK) (as : Al), okAl ks0 ks as = true → as.length = ks.length ∧ ∀ k ∈ as.zip ks, ∀ m i, k ≠ (some i, .W m)
  | [], [], _ => ⟨rfl, fun k hk => by simp at hk⟩
  | [], _ :: _, h => by simp [okAl] at h
  | k :: ks, [], h => by cases k <;> simp [okAl] at h
  | k :: ks, a :: as, h => by
    have rest : okAl ks0 ks as = true := by
      cases k <;> cases a <;> first | exact h | (simp [okAl] at h; done) | (rw [okAl, Bool.and_eq_true] at h; exact h.2)
    have hne : ∀ m i, (a, k) ≠ (some i, PK.W m) := by
      intro m i he
      cases he
      simp [okAl] at h
    obtain ⟨ih1, ih2⟩ := okAl_len ks as rest
    refine ⟨by simp [ih1], fun x hx => ?_⟩
    rcases List.mem_cons.1 (by simpa using hx) with rfl | hx
    · exact hne
    · exact ih2 x hx

theorem lens_len : ∀ (ks : List PK) (cs : List (List Value)), lens ks cs → cs.length = ks.length
  | [], [], _ => rfl
  | [], _ :: _, h => h.elim
  | _ :: _, [], h => h.elim
  | k :: ks, c :: cs, h => by simp [lens_len ks cs h.2]

section
variable {P : Program} {E : Env}

theorem frunQ_some {n : Nat} {fn : Func} {ks : List PK} {vs : List Value} {hp : Hp} {s : Seen} (h : frunQ P E n fn ks vs hp = some s) : ∃ out, frun P E n fn vs hp = some out ∧ seeK fn.ntmps ks out = some s := by
  unfold frunQ at h
  unfold frun
  split at h
  · cases h
  · rename_i c hc
    obtain ⟨x, σ, h1, h2⟩ := vrunK_some n c _ _ _ h
    split at h2
    case h_2 => cases h2
    rename_i o ho
    rw [hc]
    simp only [h1]
    exact ⟨o, ho, h2⟩

/-- **What is to be shown of a function's virtual runs, for the kernel.** -/
theorem runOK_of {fn : Func} {ks : List PK} {g : Gf}
    (h : ∀ (cs : List (List Value)) news rv φ, g cs = some (news, rv, φ) → lens ks cs → (∀ c ∈ cs, ∀ u ∈ c, ok2 [] u) →
      ((∀ n ∈ news, ∀ u ∈ n, ok0 [] u) ∧ RVok rv) ∧
      (due φ → ∀ as ∈ alsOf ks ks, alSame cs as cs → ∀ caps : List Nat, caps.length = ks.length → ∃ n, Sees news rv (frunQ P E n fn ks (vargs fn.ntmps 0 ks as cs caps) (pad fn.ntmps (vregs ks as cs))))) :
    RunOK P E fn ks g := by
  intro cs news rv φ hg hl hok
  obtain ⟨h1, h2⟩ := h cs news rv φ hg hl hok
  refine ⟨h1, fun as caps has hsame hcaps hd => ?_⟩
  obtain ⟨n, hs⟩ := h2 hd as (als_mem ks as has) hsame caps hcaps
  obtain ⟨s, hq, hvc, rfl, rfl⟩ := hs.out
  · obtain ⟨out, ho, hsee⟩ := frunQ_some hq
    unfold seeK at hsee
    split at hsee
    case h_2 => cases hsee
    rename_i ns hns
    split at hsee
    case h_2 => cases hsee
    rename_i rv' hrv
    cases hsee
    refine ⟨n, out, ho, hvc, newsK_at ks 0 ns hns, ?_⟩
    have hval : ∀ v, out.val = v → handsAt (vargs fn.ntmps 0 ks as cs caps) out fn.ntmps (.val v) := fun v hv => hv
    have hfresh : ∀ {l n c vs}, freshK out.hp fn.ntmps ks.length l n c vs = some rv' → out.val = freshV (.slice (some ⟨l, 0, none⟩) n c) vs → handsAt (vargs fn.ntmps 0 ks as cs caps) out fn.ntmps rv' := by
      intro l n c vs hf hv
      obtain ⟨ds, rfl, k1, k2, k3, k4, k5⟩ := freshK_at hf
      refine ⟨k1, l, by rw [vargs_length fn.ntmps ks as cs caps 0 (okAl_len ks as has).1 (lens_len ks cs hl) hcaps]; exact k2, ?_, k5⟩
      rw [hv, k3, k4]
    unfold rvK at hrv
    split at hrv
    · rename_i r hv
      split at hrv
      case h_2 => cases hrv
      rename_i hle
      split at hrv
      case h_2 => cases hrv
      rename_i m hm
      cases hrv
      obtain ⟨l1, l2⟩ := okAl_len ks as has
      have := vargs_W fn.ntmps ks as cs caps 0 l1 (lens_len ks cs hl) hcaps _ m hm l2
      show (vargs fn.ntmps 0 ks as cs caps)[r - fn.ntmps]? = some out.val
      rw [this, hv]
      have hle' := Nat.le_of_ble_eq_true hle
      rw [show fn.ntmps + (0 + (r - fn.ntmps)) = r by omega]
    · rename_i l k c hv
      exact hfresh hrv hv
    · rename_i vs hv
      split at hrv
      · rename_i l k c u us hvs
        refine hfresh hrv ?_
        rw [hv]
        simp only [freshV]
        congr 1
        apply Array.ext'
        rw [hvs]
      · cases hrv; exact hval _ hv
    · cases hrv; exact hval _ rfl

end
end Vm
end Go.Proofs.YtbbifiogcpcpfaaDoor
