/-
  spec.Same: whether two lists of as many numbers are the same.
-/
import Derived.Test.YtbbifiogcpcpfaaDoorListMade
import Derived.Test.YtbbifiogcpcpfaaDoorEq
namespace Go.Proofs.YtbbifiogcpcpfaaDoor
open Vm

noncomputable abbrev cSa : Code := bodyOf Tryd.f4
noncomputable abbrev cSab : Code := cAt cSa [1, 1, 0, 1]
noncomputable abbrev cSar : Code := cAt cSab [0, 0]
abbrev kS : Keep := [(26, 26, false), (27, 27, false)]
def saH (xs ys : List Value) (n ca cb b o b' o' : Nat) (i : Int) : TS := ⟨mkT 26 [(0, slc 26 n ca), (1, slc 27 n cb), (5, num i)], mkT 30 [(26, false, xs), (27, false, ys)], [(26, b, o), (27, b', o')]⟩
def saP (xs ys : List Value) (x y : L4) (n ca cb b o b' o' s : Nat) (i : Int) : TS :=
  ⟨mkT 26 [(0, slc 26 n ca), (1, slc 27 n cb), (5, num i)], mkT 30 [(26, false, xs), (27, false, ys), (28, false, x.cells), (29, false, y.cells)], [(29, b', o' + s), (28, b, o + s), (26, b, o), (27, b', o')]⟩
def vcSa (n : Nat) (i : Int) (s : Nat) : Prop := ((((True ∧ n ≤ 9223372036854775807) ∧ decide (i < lenI n) = true) ∧ ((0 ≤ i ∧ i < n) ∧ 0 + i.toNat * 4 = s)) ∧ ((0 ≤ i ∧ i < n) ∧ 0 + i.toNat * 4 = s))
theorem sa_go (xs ys : List Value) (x y : L4) (n ca cb b o b' o' s : Nat) (i : Int) (g : Nat → Value) (T : Hp) :
    runV Tryd.prog (lookS [] [(26, s, 28), (27, s, 29)] [(14, true), (25, false)]) 1 cSar ((saP xs ys x y n ca cb b o b' o' s i).fill g T) 26 30 kS [0, 1, 5] =
      some ⟨.normal, [(0, slc 26 n ca), (1, slc 27 n cb), (5, num (IntKind.i64.wrap (i + 1)))], [(26, false, xs), (27, false, ys)], vcSa n i s ∧ (!(eq4 x y)) = false⟩ := by kernel_rfl
theorem sa_no (xs ys : List Value) (x y : L4) (n ca cb b o b' o' s : Nat) (i : Int) (g : Nat → Value) (T : Hp) :
    runV Tryd.prog (lookS [] [(26, s, 28), (27, s, 29)] [(14, true), (25, true)]) 1 cSar ((saP xs ys x y n ca cb b o b' o' s i).fill g T) 26 30 [] [4] =
      some ⟨.ret, [(4, .bool false)], [], vcSa n i s ∧ (!(eq4 x y)) = true⟩ := by kernel_rfl
theorem sa_end (xs ys : List Value) (n ca cb b o b' o' : Nat) (i : Int) (g : Nat → Value) (T : Hp) :
    runV Tryd.prog (lookS [] [] [(14, false)]) 1 cSar ((saH xs ys n ca cb b o b' o' i).fill g T) 26 30 [] [] =
      some ⟨.exit 0, [], [], (True ∧ n ≤ 9223372036854775807) ∧ decide (i < lenI n) = false⟩ := by kernel_rfl
def saS (xs ys : List Value) (n ca cb b o b' o' : Nat) : TS := ⟨some (slc 26 n ca) :: some (slc 27 n cb) :: List.replicate 24 none, List.replicate 26 none ++ [some (false, xs), some (false, ys)], [(26, b, o), (27, b', o')]⟩
def saT (xs ys : List Value) (n ca cb b o b' o' : Nat) : TS := ⟨mkT 26 [(0, slc 26 n ca), (1, slc 27 n cb)], mkT 30 [(26, false, xs), (27, false, ys)], [(26, b, o), (27, b', o')]⟩
theorem sa_0 (xs ys : List Value) (n ca cb b o b' o' : Nat) (g : Nat → Value) (T : Hp) : runV Tryd.prog (lookS [] [] []) 1 (cAt cSa [0]) ((saS xs ys n ca cb b o b' o').fill g T) 26 30 kS [0, 1] =
    some ⟨.normal, [(0, slc 26 n ca), (1, slc 27 n cb)], [(26, false, xs), (27, false, ys)], True⟩ := by kernel_rfl
theorem sa_1 (xs ys : List Value) (n ca cb b o b' o' : Nat) (g : Nat → Value) (T : Hp) : runV Tryd.prog (lookS [] [] [(10, false)]) 1 (cAt cSa [1, 0]) ((saT xs ys n ca cb b o b' o').fill g T) 26 30 kS [0, 1] =
    some ⟨.normal, [(0, slc 26 n ca), (1, slc 27 n cb)], [(26, false, xs), (27, false, ys)], ((True ∧ n ≤ 9223372036854775807) ∧ n ≤ 9223372036854775807) ∧ (lenI n != lenI n) = false⟩ := by kernel_rfl
theorem sa_3 (xs ys : List Value) (n ca cb b o b' o' : Nat) (g : Nat → Value) (T : Hp) : runV Tryd.prog (lookS [] [] []) 1 (cAt cSa [1, 1, 0, 0]) ((saT xs ys n ca cb b o b' o').fill g T) 26 30 kS [0, 1, 5] =
    some ⟨.normal, [(0, slc 26 n ca), (1, slc 27 n cb), (5, num 0)], [(26, false, xs), (27, false, ys)], True⟩ := by kernel_rfl
theorem sa_8 (g : Nat → Value) (T : Hp) : runV Tryd.prog (lookS [] [] []) 1 (cAt cSa [1, 1, 1]) ((⟨mkT 26 [], mkT 30 [], []⟩ : TS).fill g T) 26 30 [] [4] =
    some ⟨.ret, [(4, .bool true)], [], True⟩ := by kernel_rfl
theorem locK_two {r q : Nat} {f f' : Bool} {b o b' o' : Nat} {ks : Keep} {loc : List (Nat × Nat × Nat)} (hk : (r, r, f) ∈ ks) (hk' : (q, q, f') ∈ ks) (h : (r, b, o) ∈ loc) (h' : (q, b', o') ∈ loc) : LocK ks loc [(r, b, o), (q, b', o')] := fun p c d hq => by
  simp only [List.mem_cons, Prod.mk.injEq, List.not_mem_nil, or_false] at hq
  rcases hq with ⟨rfl, rfl, rfl⟩ | ⟨rfl, rfl, rfl⟩
  · exact ⟨_, f, hk, h⟩
  · exact ⟨_, f', hk', h'⟩
/-- Lists, number by number. -/
def sameB : List L4 → List L4 → Bool
  | x :: xs, y :: ys => eq4 x y && sameB xs ys
  | [], [] => true
  | _, _ => false
theorem sameB_at : ∀ {xs ys : List L4}, xs.length = ys.length → (sameB xs ys = true ↔ ∀ (j : Nat) (h : j < xs.length) (h' : j < ys.length), eq4 xs[j] ys[j] = true)
  | [], [], _ => ⟨fun _ j h => by simp at h, fun _ => rfl⟩
  | [], _ :: _, h => by simp at h
  | _ :: _, [], h => by simp at h
  | x :: xs, y :: ys, h => by
    have ih := sameB_at (xs := xs) (ys := ys) (by simpa using h)
    simp only [sameB, Bool.and_eq_true, ih]
    constructor
    · rintro ⟨h1, h2⟩ j hj hj'
      cases j with
      | zero => exact h1
      | succ j => exact h2 j (by simpa using hj) (by simpa using hj')
    · intro h3
      exact ⟨h3 0 (by simp) (by simp), fun j hj hj' => h3 (j + 1) (by simpa using hj) (by simpa using hj')⟩
theorem sameB_iff : ∀ {xs ys : List L4}, sameB xs ys = true ↔ xs = ys
  | [], [] => ⟨fun _ => rfl, fun _ => rfl⟩
  | [], _ :: _ => ⟨fun h => (by cases h), fun h => (by cases h)⟩
  | _ :: _, [] => ⟨fun h => (by cases h), fun h => (by cases h)⟩
  | x :: xs, y :: ys => by
    have ih := sameB_iff (xs := xs) (ys := ys)
    simp only [sameB, Bool.and_eq_true, ih, List.cons.injEq, eq4_iff]
theorem sa_turn {xs ys : List L4} {n ca cb b o b' o' i : Nat} (h : i < xs.length) (h' : i < ys.length) :
    Turns (saH (flatL xs) (flatL ys) n ca cb b o b' o' i) (saP (flatL xs) (flatL ys) xs[i] ys[i] n ca cb b o b' o' (4 * i) i) := by
  have t1 := turn_peek (τ := saH (flatL xs) (flatL ys) n ca cb b o b' o' i) (r := 26) (q := 28) (b := b) (o := o) (A := flatL (xs.take i)) (B := xs[i].cells) (C := flatL (xs.drop (i + 1)))
    (by rw [← flatL_at h]; rfl) rfl (by simp [saH])
  rw [take_len (Nat.le_of_lt h)] at t1
  have t2 := turn_peek (τ := ⟨(saH (flatL xs) (flatL ys) n ca cb b o b' o' i).tm, (saH (flatL xs) (flatL ys) n ca cb b o b' o' i).hp.set 28 (some (false, xs[i].cells)), (28, b, o + 4 * i) :: (saH (flatL xs) (flatL ys) n ca cb b o b' o' i).loc⟩)
    (r := 27) (q := 29) (b := b') (o := o') (A := flatL (ys.take i)) (B := ys[i].cells) (C := flatL (ys.drop (i + 1)))
    (by rw [← flatL_at h']; rfl) rfl (by simp [saH])
  rw [take_len (Nat.le_of_lt h')] at t2
  exact fun w0 W a w hs => t2 w0 W a w (t1 w0 W a w hs)
theorem sa_tri (xs ys : List L4) (he : xs.length = ys.length) (ca cb b o b' o' : Nat) (hn : xs.length ≤ 9223372036854775807) :
    Tri Tryd.prog cSa (saS (flatL xs) (flatL ys) xs.length ca cb b o b' o') fun e τ' => e = .ret ∧ τ'.tm = mkT 26 [(4, .bool (sameB xs ys))] := by
  have fx := flatL_flat xs
  have fy := flatL_flat ys
  have ok : ∀ {al ta}, EnvOK Tryd.prog (lookS [] al ta) := lookS_ok env_nil
  refine tri_next (τ1 := saT (flatL xs) (flatL ys) xs.length ca cb b o b' o') (by kernel_rfl) (tri_run ok follows (sa_0 _ _ _ ca cb b o b' o') (by decide) trivial (alT_nil _ _ _) ⟨fx, fy, trivial⟩ (locK_two (r := 26) (q := 27) (f := false) (f' := false) (b := b) (o := o) (b' := b') (o' := o') (by simp) (by simp) (by simp [saS]) (by simp [saS])) ⟨rfl, rfl⟩) ?_
  refine tri_next (τ1 := saT (flatL xs) (flatL ys) xs.length ca cb b o b' o') (by kernel_rfl) (tri_run ok follows (sa_1 _ _ _ ca cb b o b' o') (by decide) ⟨⟨⟨trivial, hn⟩, hn⟩, by simp⟩ (alT_nil _ _ _) ⟨fx, fy, trivial⟩ (locK_two (r := 26) (q := 27) (f := false) (f' := false) (b := b) (o := o) (b' := b') (o' := o') (by simp) (by simp) (by simp [saT]) (by simp [saT])) ⟨rfl, rfl⟩) ?_
  refine tri_seq' (K1 := fun e τ1 => (e = .normal ∧ sameB xs ys = true ∧ τ1 = ⟨mkT 26 [], mkT 30 [], []⟩) ∨ (e = .ret ∧ sameB xs ys = false ∧ τ1.tm = mkT 26 [(4, .bool false)])) (by kernel_rfl) ?_ ?_ ?_
  · refine tri_next (τ1 := saH (flatL xs) (flatL ys) xs.length ca cb b o b' o' 0) (by kernel_rfl) (tri_run ok follows (sa_3 _ _ _ ca cb b o b' o') (by decide) trivial (alT_nil _ _ _) ⟨fx, fy, trivial⟩ (locK_two (r := 26) (q := 27) (f := false) (f' := false) (b := b) (o := o) (b' := b') (o' := o') (by simp) (by simp) (by simp [saT]) (by simp [saT])) ⟨rfl, rfl⟩) ?_
    refine tri_block' (by kernel_rfl) ?_
    refine tri_loop' (S := Nat) (by kernel_rfl) (fun i => i ≤ xs.length ∧ ∀ (j : Nat) (h : j < xs.length) (h' : j < ys.length), j < i → eq4 xs[j] ys[j] = true) (fun i => saH (flatL xs) (flatL ys) xs.length ca cb b o b' o' i) (fun i => xs.length - i) ?_ (s := 0) ⟨Nat.zero_le _, fun j _ _ h => absurd h (Nat.not_lt_zero j)⟩
    rintro i ⟨hi, hall⟩
    by_cases hlt : i < xs.length
    · have hlt' : i < ys.length := he ▸ hlt
      refine tri_turn (sa_turn hlt hlt') ?_
      have hal : ∀ ta, AlT (lookS [] [(26, 4 * i, 28), (27, 4 * i, 29)] ta) (saP (flatL xs) (flatL ys) xs[i] ys[i] xs.length ca cb b o b' o' (4 * i) i) := by
        intro ta r s q hx
        simp only [lookS, List.mem_cons, Prod.mk.injEq, List.not_mem_nil, or_false] at hx
        rcases hx with ⟨rfl, rfl, rfl⟩ | ⟨rfl, rfl, rfl⟩
        · exact ⟨b, o, by simp [saP], by simp [saP]⟩
        · exact ⟨b', o', by simp [saP], by simp [saP]⟩
      have hvc : vcSa xs.length i (4 * i) := ⟨⟨⟨⟨trivial, hn⟩, lenI_of hn _ (by omega)⟩, ⟨⟨by omega, by omega⟩, by omega⟩⟩, ⟨⟨by omega, by omega⟩, by omega⟩⟩
      by_cases hb : eq4 xs[i] ys[i] = true
      · refine tri_run ok follows (sa_go _ _ xs[i] ys[i] _ ca cb b o b' o' (4 * i) i) (by decide) ⟨hvc, by rw [hb]; rfl⟩ (hal _) ⟨fx, fy, trivial⟩ (locK_two (r := 26) (q := 27) (f := false) (f' := false) (b := b) (o := o) (b' := b') (o' := o') (by simp) (by simp) (by simp [saP]) (by simp [saP])) ?_
        refine ⟨i + 1, ⟨hlt, fun j hj hj' hji => ?_⟩, by omega, ?_⟩
        · by_cases hij : j = i
          · subst hij; exact hb
          · exact hall j hj hj' (by omega)
        · simp only [num_next (show i < 9223372036854775807 by omega)]; rfl
      · have hb' : eq4 xs[i] ys[i] = false := by simpa using hb
        refine tri_run ok follows (sa_no _ _ xs[i] ys[i] _ ca cb b o b' o' (4 * i) i) (by decide) ⟨hvc, by rw [hb']; rfl⟩ (hal _) trivial (locK_nil _ _) ?_
        refine .inr ⟨rfl, ?_, rfl⟩
        cases hs : sameB xs ys with
        | false => rfl
        | true => exact absurd ((sameB_at he).1 hs i hlt hlt') hb
    · have hie : i = xs.length := by omega
      subst hie
      refine tri_run ok follows (sa_end _ _ _ ca cb b o b' o' _) (by decide) ⟨⟨trivial, hn⟩, lenI_not hn _ (by omega)⟩ (alT_nil _ _ _) trivial (locK_nil _ _) ?_
      exact .inl ⟨rfl, (sameB_at he).2 fun j h h' => hall j h h' h, rfl⟩
  · rintro τ1 (⟨_, h1, rfl⟩ | ⟨h, _⟩)
    · refine tri_run ok follows sa_8 (by decide) trivial (alT_nil _ _ _) trivial (locK_nil _ _) ⟨rfl, ?_⟩
      rw [h1]
    · cases h
  · rintro e τ1 he (⟨h, _⟩ | ⟨h1, h2, h3⟩)
    · exact absurd h he
    · exact ⟨h1, by rw [h3, h2]⟩

/-- The state in which a function of two read lists begins. -/
theorem start_LL {nt : Nat} {xs ys : List L4} (hx : okL xs) (hy : okL ys) {n n' ca cb b o b' o' : Nat} {w : World} (h1 : ListIn w b o xs) (h2 : ListIn w b' o' ys) :
    TSim w (fun _ _ => False) ⟨[slc nt n ca, slc (nt + 1) n' cb].map some ++ List.replicate (nt - 2) none, hpA nt [(b, o, false, flatL xs), (b', o', false, flatL ys)], [(nt, b, o), (nt + 1, b', o')]⟩
      { tmps := ([slc nt n ca, slc (nt + 1) n' cb].map (ren (rhoA nt [(b, o, false, flatL xs), (b', o', false, flatL ys)]))).toArray ++ Array.replicate (nt - 2) undef, defers := [] } w := by
  have inv2 : ∀ {j : Nat} {x : Nat × Nat × Bool × List Value}, [(b, o, false, flatL xs), (b', o', false, flatL ys)][j]? = some x → x = (b, o, false, flatL xs) ∧ j = 0 ∨ x = (b', o', false, flatL ys) ∧ j = 1 := by
    intro j x h
    cases j with
    | zero => simp only [List.getElem?_cons_zero, Option.some.injEq] at h; exact .inl ⟨h.symm, rfl⟩
    | succ j => cases j with
      | zero => simp only [List.getElem?_cons_succ, List.getElem?_cons_zero, Option.some.injEq] at h; exact .inr ⟨h.symm, rfl⟩
      | succ j => simp at h
  exact start_gen (vs := [slc nt n ca, slc (nt + 1) n' cb]) (rs := [(b, o, false, flatL xs), (b', o', false, flatL ys)])
    (fun v hv => by
      simp only [List.mem_cons, List.not_mem_nil, or_false] at hv
      rcases hv with rfl | rfl
      · exact ⟨rfl, hpA_pres (j := 0) (by simp)⟩
      · exact ⟨rfl, hpA_pres (j := 1) (by simp)⟩)
    (fun j c d f cs hj => by
      rcases inv2 hj with ⟨he, _⟩ | ⟨he, _⟩ <;> simp only [Prod.mk.injEq] at he <;> obtain ⟨rfl, rfl, rfl, rfl⟩ := he
      · exact ⟨flatL_ok0 hx _, fun i v hi => by rw [flatL_flat xs v (List.mem_of_getElem? hi)]; exact h1 i v hi⟩
      · exact ⟨flatL_ok0 hy _, fun i v hi => by rw [flatL_flat ys v (List.mem_of_getElem? hi)]; exact h2 i v hi⟩)
    (fun j c d cs hj => by rcases inv2 hj with ⟨he, _⟩ | ⟨he, _⟩ <;> simp at he)
    (fun j j' b1 o1 b2 o2 f f' c1 c2 hne e1 e2 hf => by
      rcases inv2 e1 with ⟨h3, _⟩ | ⟨h3, _⟩ <;> rcases inv2 e2 with ⟨h4, _⟩ | ⟨h4, _⟩ <;> simp only [Prod.mk.injEq] at h3 h4 <;> rw [h3.2.2.1, h4.2.2.1] at hf <;> cases hf)
    (fun q c d hq => by
      simp only [List.mem_cons, Prod.mk.injEq, List.not_mem_nil, or_false] at hq
      rcases hq with ⟨rfl, rfl, rfl⟩ | ⟨rfl, rfl, rfl⟩
      · exact ⟨0, _, _, rfl, rfl⟩
      · exact ⟨1, _, _, rfl, rfl⟩)
theorem same_calls (xs ys : List L4) (hx : okL xs) (hy : okL ys) (he : xs.length = ys.length) (ca cb b o b' o' : Nat) (hn : xs.length ≤ 9223372036854775807) (w : World) (h1 : ListIn w b o xs) (h2 : ListIn w b' o' ys) :
    Calls Tryd.prog 4 #[.slice (some ⟨b, o, none⟩) xs.length ca, .slice (some ⟨b', o', none⟩) ys.length cb] w fun e w' => e = .returned (.bool (sameB xs ys)) ∧ Fr (fun _ _ => False) w w' := by
  have hf : Tryd.prog.funcs[4]? = some Tryd.f4 := by kernel_rfl
  have hb : Tryd.f4.body = some cSa := by kernel_rfl
  have h0 := start_LL (nt := 26) (n := xs.length) (n' := xs.length) (ca := ca) (cb := cb) hx hy h1 h2
  rw [← he]
  refine calls_of_tri hf hb h0 (sa_tri xs ys he ca cb b o b' o' hn) ?_
  rintro e τ' ⟨rfl, ht⟩
  refine ⟨by simp, fun a' w' hs => ?_⟩
  obtain ⟨g, T, ρ, k1, k2, k3, k4⟩ := results_of (P := Tryd.prog) (fn := Tryd.f4) (v := .bool (sameB xs ys)) (fun g T => by
    obtain ⟨tm, hp, loc⟩ := τ'
    simp only at ht
    subst ht
    generalize sameB xs ys = bb
    kernel_rfl) hs
  exact ⟨_, k4, rfl, k1.inv.fr⟩
end Go.Proofs.YtbbifiogcpcpfaaDoor
