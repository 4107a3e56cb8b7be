/-
  Whether two polynomials are equal: fr.Element.Equal, polynomial.Polynomial.Equal, impl.PolyEqual.
-/
import Derived.Test.YtbbifiogcpcpfaaListDeg
import Derived.Test.YtbbifiogcpcpfaaNeq
namespace Go.Proofs.Ytbbifiogcpcpfaa
open Vm

theorem frNe_run : Run2 Try.prog (look []) 1 Try.f72 (.R 4) (.R 4) c4 c4 (fun x y => some ⟨[], .val (.int .u64 (neU x y)), True⟩) := fun _ _ _ _ => by kernel_rfl
theorem ac_frNe : AC Try.prog 72 [.R 4, .R 4] (rNe neU) :=
  ac_of_run (fn := Try.f72) (look_ok [] env_nil) follows (by kernel_rfl) rfl
    (run2 c4_sound c4_sound rfl frNe_run fun x y hx hy => ⟨res_val (by
      obtain ⟨h1, h2⟩ := (neU_zero (in4 hx) (in4 hy)).1
      exact ⟨h1, show neU x y ≤ 18446744073709551615 by omega⟩), fun _ => .mk' trivial rfl rfl⟩)
theorem frEq_run (ne : L4 → L4 → Int) : Run2 Try.prog (look [eM 72 [.R 4, .R 4] (rNe ne)]) 1 Try.f63 (.R 4) (.R 4) c4 c4 (fun x y => sBool (ne x y == 0) True) := fun _ _ _ _ => by kernel_rfl
theorem ac_frEq : AC Try.prog 63 [.R 4, .R 4] (rEq c4 isE) :=
  ac_of_run (fn := Try.f63) (look_ok [eM 72 [.R 4, .R 4] (rNe neU)] (env_M ac_frNe env_nil)) follows (by kernel_rfl) rfl
    (run2 c4_sound c4_sound rfl (frEq_run neU) fun x y _ _ => ⟨res_val trivial, fun _ => .mk' trivial rfl rfl⟩)
theorem isE_eq4 {x y : L4} (hx : x.ok) (hy : y.ok) : isE x y = eq4 x y := by
  rw [Bool.eq_iff_iff, isE_iff hx hy, eq4_iff]

noncomputable abbrev cQ : Code := bodyOf Try.f49
noncomputable abbrev cQb : Code := cAt cQ [1, 1, 1, 0, 1]
noncomputable abbrev cQr : Code := cAt cQb [0, 0]
abbrev kQ : Keep := [(36, 36, true), (37, 37, false), (38, 38, false)]
abbrev eQ (ie : L4 → L4 → Bool) : List (Nat × Sm) := [eM 63 [.R 4, .R 4] (rEq c4 ie)]
def qS (xs ys : List Value) (n cx cy pb po b o b' o' : Nat) : TS := ⟨[ptr 36, slc 38 n cy].map some ++ List.replicate (36 - 2) none, hpA 36 [(pb, po, false, [slc 37 n cx]), (b, o, false, xs), (b', o', false, ys)], [(37, b, o), (38, b', o')]⟩
def qT (xs ys : List Value) (n cx cy b o b' o' : Nat) : TS := ⟨mkT 36 [(0, ptr 36), (1, slc 38 n cy)], mkT 41 [(36, false, [slc 37 n cx]), (37, false, xs), (38, false, ys)], [(37, b, o), (38, b', o')]⟩
def qH (xs ys : List Value) (n cx cy b o b' o' : Nat) (i : Int) : TS := ⟨mkT 36 [(0, ptr 36), (1, slc 38 n cy), (21, num n), (22, num i)], mkT 41 [(36, false, [slc 37 n cx]), (37, false, xs), (38, false, ys)], [(37, b, o), (38, b', o')]⟩
def qP (xs ys : List Value) (x y : L4) (n cx cy b o b' o' s : Nat) (i : Int) : TS :=
  ⟨mkT 36 [(0, ptr 36), (1, slc 38 n cy), (21, num n), (22, num i)], mkT 41 [(36, false, [slc 37 n cx]), (37, false, xs), (38, false, ys), (39, false, x.cells), (40, false, y.cells)], [(40, b', o' + s), (39, b, o + s), (37, b, o), (38, b', o')]⟩
def vcQ (n : Nat) (i : Int) (s : Nat) : Prop := ((True ∧ decide (i < n) = true) ∧ ((0 ≤ i ∧ i < n) ∧ 0 + i.toNat * 4 = s)) ∧ ((0 ≤ i ∧ i < n) ∧ 0 + i.toNat * 4 = s)
theorem q_0 (xs ys : List Value) (n cx cy pb po b o b' o' : Nat) (g : Nat → Value) (T : Hp) : runV Try.prog (lookS [] [] []) 1 (cAt cQ [0]) ((qS xs ys n cx cy pb po b o b' o').fill g T) 36 41 kQ [0, 1] =
    some ⟨.normal, [(0, ptr 36), (1, slc 38 n cy)], [(36, false, [slc 37 n cx]), (37, false, xs), (38, false, ys)], True⟩ := by kernel_rfl
theorem q_1 (xs ys : List Value) (n cx cy b o b' o' : Nat) (g : Nat → Value) (T : Hp) : runV Try.prog (lookS [] [] []) 1 (cAt cQ [1, 0]) ((qT xs ys n cx cy b o b' o').fill g T) 36 41 kQ [0, 1] =
    some ⟨.normal, [(0, ptr 36), (1, slc 38 n cy)], [(36, false, [slc 37 n cx]), (37, false, xs), (38, false, ys)], True⟩ := by kernel_rfl
theorem q_3 (xs ys : List Value) (n cx cy b o b' o' : Nat) (g : Nat → Value) (T : Hp) : runV Try.prog (lookS [] [] [(19, false)]) 1 (cAt cQ [1, 1, 0]) ((qT xs ys n cx cy b o b' o').fill g T) 36 41 kQ [0, 1] =
    some ⟨.normal, [(0, ptr 36), (1, slc 38 n cy)], [(36, false, [slc 37 n cx]), (37, false, xs), (38, false, ys)], ((True ∧ n ≤ 9223372036854775807) ∧ n ≤ 9223372036854775807) ∧ (lenI n != lenI n) = false⟩ := by kernel_rfl
theorem q_5 (xs ys : List Value) (n cx cy b o b' o' : Nat) (g : Nat → Value) (T : Hp) : runV Try.prog (lookS [] [] []) 1 (cAt cQ [1, 1, 1, 0, 0]) ((qT xs ys n cx cy b o b' o').fill g T) 36 41 kQ [0, 1, 21, 22] =
    some ⟨.normal, [(0, ptr 36), (1, slc 38 n cy), (21, num (lenI n)), (22, num 0)], [(36, false, [slc 37 n cx]), (37, false, xs), (38, false, ys)], True ∧ n ≤ 9223372036854775807⟩ := by kernel_rfl
theorem q_go (ie : L4 → L4 → Bool) (xs ys : List Value) (x y : L4) (n cx cy b o b' o' s : Nat) (i : Int) (g : Nat → Value) (T : Hp) :
    runV Try.prog (lookS (eQ ie) [(37, s, 39), (38, s, 40)] [(23, true), (34, false)]) 1 cQr ((qP xs ys x y n cx cy b o b' o' s i).fill g T) 36 41 kQ [0, 1, 21, 22] =
      some ⟨.normal, [(0, ptr 36), (1, slc 38 n cy), (21, num n), (22, num (IntKind.i64.wrap (i + 1)))], [(36, false, [slc 37 n cx]), (37, false, xs), (38, false, ys)], vcQ n i s ∧ (!(ie x y)) = false⟩ := by kernel_rfl
theorem q_no (ie : L4 → L4 → Bool) (xs ys : List Value) (x y : L4) (n cx cy b o b' o' s : Nat) (i : Int) (g : Nat → Value) (T : Hp) :
    runV Try.prog (lookS (eQ ie) [(37, s, 39), (38, s, 40)] [(23, true), (34, true)]) 1 cQr ((qP xs ys x y n cx cy b o b' o' s i).fill g T) 36 41 [] [4] =
      some ⟨.ret, [(4, .bool false)], [], vcQ n i s ∧ (!(ie x y)) = true⟩ := by kernel_rfl
theorem q_end (xs ys : List Value) (n cx cy b o b' o' : Nat) (i : Int) (g : Nat → Value) (T : Hp) :
    runV Try.prog (lookS [] [] [(23, false)]) 1 cQr ((qH xs ys n cx cy b o b' o' i).fill g T) 36 41 [] [] = some ⟨.exit 0, [], [], True ∧ decide (i < n) = false⟩ := by kernel_rfl
theorem q_8 (g : Nat → Value) (T : Hp) : runV Try.prog (lookS [] [] []) 1 (cAt cQ [1, 1, 1, 1]) ((⟨mkT 36 [], mkT 41 [], []⟩ : TS).fill g T) 36 41 [] [4] =
    some ⟨.ret, [(4, .bool true)], [], True⟩ := by kernel_rfl
theorem q_turn {xs ys : List L4} {n cx cy b o b' o' i : Nat} (h : i < xs.length) (h' : i < ys.length) :
    Turns (qH (flatL xs) (flatL ys) n cx cy b o b' o' i) (qP (flatL xs) (flatL ys) xs[i] ys[i] n cx cy b o b' o' (4 * i) i) := by
  have t1 := turn_peek (τ := qH (flatL xs) (flatL ys) n cx cy b o b' o' i) (r := 37) (q := 39) (b := b) (o := o) (A := flatL (xs.take i)) (B := xs[i].cells) (C := flatL (xs.drop (i + 1)))
    (by rw [← flatL_at h]; rfl) rfl (by simp [qH])
  rw [take_len (Nat.le_of_lt h)] at t1
  have t2 := turn_peek (τ := ⟨(qH (flatL xs) (flatL ys) n cx cy b o b' o' i).tm, (qH (flatL xs) (flatL ys) n cx cy b o b' o' i).hp.set 39 (some (false, xs[i].cells)), (39, b, o + 4 * i) :: (qH (flatL xs) (flatL ys) n cx cy b o b' o' i).loc⟩)
    (r := 38) (q := 40) (b := b') (o := o') (A := flatL (ys.take i)) (B := ys[i].cells) (C := flatL (ys.drop (i + 1)))
    (by rw [← flatL_at h']; rfl) rfl (by simp [qH])
  rw [take_len (Nat.le_of_lt h')] at t2
  exact fun w0 W a w hs => t2 w0 W a w (t1 w0 W a w hs)
theorem q_tri {xs ys : List L4} (hx : okL xs) (hy : okL ys) (he : xs.length = ys.length) (cx cy pb po b o b' o' : Nat) (hn : xs.length ≤ 9223372036854775807) :
    Tri Try.prog cQ (qS (flatL xs) (flatL ys) xs.length cx cy pb po b o b' o') fun e τ' => e = .ret ∧ τ'.tm = mkT 36 [(4, .bool (sameB xs ys))] := by
  have fx := flatL_flat xs
  have fy := flatL_flat ys
  have ok : ∀ {al ta}, EnvOK Try.prog (lookS [] al ta) := lookS_ok env_nil
  have lk : ∀ {loc}, (37, b, o) ∈ loc → (38, b', o') ∈ loc → LocK kQ loc [(37, b, o), (38, b', o')] := fun h h' => locK_two (r := 37) (q := 38) (f := false) (f' := false) (by simp) (by simp) h h'
  refine tri_next (τ1 := qT (flatL xs) (flatL ys) xs.length cx cy b o b' o') (by kernel_rfl) (tri_run ok follows (q_0 _ _ _ cx cy pb po b o b' o') (by decide) trivial (alT_nil _ _ _) ⟨fx, fy, trivial⟩ (lk (by simp [qS]) (by simp [qS])) ⟨rfl, rfl⟩) ?_
  refine tri_next (τ1 := qT (flatL xs) (flatL ys) xs.length cx cy b o b' o') (by kernel_rfl) (tri_run ok follows (q_1 _ _ _ cx cy b o b' o') (by decide) trivial (alT_nil _ _ _) ⟨fx, fy, trivial⟩ (lk (by simp [qT]) (by simp [qT])) ⟨rfl, rfl⟩) ?_
  refine tri_next (τ1 := qT (flatL xs) (flatL ys) xs.length cx cy b o b' o') (by kernel_rfl) (tri_run ok follows (q_3 _ _ _ cx cy b o b' o') (by decide) ⟨⟨⟨trivial, hn⟩, hn⟩, by simp⟩ (alT_nil _ _ _) ⟨fx, fy, trivial⟩ (lk (by simp [qT]) (by simp [qT])) ⟨rfl, rfl⟩) ?_
  refine tri_seq' (K1 := fun e τ1 => (e = .normal ∧ sameB xs ys = true ∧ τ1 = ⟨mkT 36 [], mkT 41 [], []⟩) ∨ (e = .ret ∧ sameB xs ys = false ∧ τ1.tm = mkT 36 [(4, .bool false)])) (by kernel_rfl) ?_ ?_ ?_
  · refine tri_next (τ1 := qH (flatL xs) (flatL ys) xs.length cx cy b o b' o' 0) (by kernel_rfl) (tri_run ok follows (q_5 _ _ _ cx cy b o b' o') (by decide) ⟨trivial, hn⟩ (alT_nil _ _ _) ⟨fx, fy, trivial⟩ (lk (by simp [qT]) (by simp [qT])) ⟨rfl, by rw [lenI_eq hn]; rfl⟩) ?_
    refine tri_block' (by kernel_rfl) ?_
    refine tri_loop' (S := Nat) (by kernel_rfl) (fun i => i ≤ xs.length ∧ ∀ (j : Nat) (h : j < xs.length) (h' : j < ys.length), j < i → eq4 xs[j] ys[j] = true) (fun i => qH (flatL xs) (flatL ys) xs.length cx cy b o b' o' i) (fun i => xs.length - i) ?_ (s := 0) ⟨Nat.zero_le _, fun j _ _ h => absurd h (Nat.not_lt_zero j)⟩
    rintro i ⟨hi, hall⟩
    by_cases hlt : i < xs.length
    · have hlt' : i < ys.length := he ▸ hlt
      refine tri_turn (q_turn hlt hlt') ?_
      have hal : ∀ ta, AlT (lookS (eQ isE) [(37, 4 * i, 39), (38, 4 * i, 40)] ta) (qP (flatL xs) (flatL ys) xs[i] ys[i] xs.length cx cy b o b' o' (4 * i) i) := by
        intro ta r s q hx
        simp only [lookS, List.mem_cons, Prod.mk.injEq, List.not_mem_nil, or_false] at hx
        rcases hx with ⟨rfl, rfl, rfl⟩ | ⟨rfl, rfl, rfl⟩
        · exact ⟨b, o, by simp [qP], by simp [qP]⟩
        · exact ⟨b', o', by simp [qP], by simp [qP]⟩
      have hvc : vcQ xs.length i (4 * i) := ⟨⟨⟨trivial, decide_eq_true (by omega)⟩, ⟨⟨by omega, by omega⟩, by omega⟩⟩, ⟨⟨by omega, by omega⟩, by omega⟩⟩
      have hie := isE_eq4 (hx xs[i] (List.getElem_mem hlt)) (hy ys[i] (List.getElem_mem hlt'))
      by_cases hb : eq4 xs[i] ys[i] = true
      · refine tri_run (lookS_ok (env_M ac_frEq env_nil)) follows (q_go isE _ _ xs[i] ys[i] _ cx cy b o b' o' (4 * i) i) (by decide) ⟨hvc, by rw [hie, hb]; rfl⟩ (hal _) ⟨fx, fy, trivial⟩ (lk (by simp [qP]) (by simp [qP])) ?_
        refine ⟨i + 1, ⟨hlt, fun j hj hj' hji => ?_⟩, by omega, ?_⟩
        · by_cases hij : j = i
          · subst hij; exact hb
          · exact hall j hj hj' (by omega)
        · simp only [num_next (show i < 9223372036854775807 by omega)]; rfl
      · have hb' : eq4 xs[i] ys[i] = false := by simpa using hb
        refine tri_run (lookS_ok (env_M ac_frEq env_nil)) follows (q_no isE _ _ xs[i] ys[i] _ cx cy b o b' o' (4 * i) i) (by decide) ⟨hvc, by rw [hie, hb']; rfl⟩ (hal _) trivial (locK_nil _ _) ?_
        refine .inr ⟨rfl, ?_, rfl⟩
        cases hs : sameB xs ys with
        | false => rfl
        | true => exact absurd ((sameB_at he).1 hs i hlt hlt') hb
    · have hie : i = xs.length := by omega
      subst hie
      refine tri_run ok follows (q_end _ _ _ cx cy b o b' o' _) (by decide) ⟨trivial, decide_eq_false (by omega)⟩ (alT_nil _ _ _) trivial (locK_nil _ _) ?_
      exact .inl ⟨rfl, (sameB_at he).2 fun j h h' => hall j h h' h, rfl⟩
  · rintro τ1 (⟨_, h1, rfl⟩ | ⟨h, _⟩)
    · refine tri_run ok follows q_8 (by decide) trivial (alT_nil _ _ _) trivial (locK_nil _ _) ⟨rfl, ?_⟩
      rw [h1]
    · cases h
  · rintro e τ1 he (⟨h, _⟩ | ⟨h1, h2, h3⟩)
    · exact absurd h he
    · exact ⟨h1, by rw [h3, h2]⟩
theorem q_calls {xs ys : List L4} (hx : okL xs) (hy : okL ys) (he : xs.length = ys.length) (hn : xs.length ≤ 9223372036854775807) {w : World} {cx cy pb po b o b' o' : Nat} (hc : w.cell? ⟨pb, po, none⟩ = some (.slice (some ⟨b, o, none⟩) xs.length cx)) (h1 : ListIn w b o xs) (h2 : ListIn w b' o' ys) :
    Calls Try.prog 49 #[.pointer (some ⟨pb, po, none⟩), .slice (some ⟨b', o', none⟩) xs.length cy] w fun e w' => e = .returned (.bool (sameB xs ys)) ∧ Fr (fun _ _ => False) w w' := by
  have hf : Try.prog.funcs[49]? = some Try.f49 := by kernel_rfl
  have hb : Try.f49.body = some cQ := by kernel_rfl
  have h0 := start_gen (nt := 36) (vs := [ptr 36, slc 38 xs.length cy]) (rs := [(pb, po, false, [slc 37 xs.length cx]), (b, o, false, flatL xs), (b', o', false, flatL ys)]) (w := w) (W := fun _ _ => False) (loc := [(37, b, o), (38, b', o')])
    (fun v hv => by
      simp only [List.mem_cons, List.not_mem_nil, or_false] at hv
      rcases hv with rfl | rfl
      · exact ⟨rfl, hpA_pres (j := 0) (by simp)⟩
      · exact ⟨rfl, hpA_pres (nt := 36) (j := 2) (by simp)⟩)
    (fun j c1 d f cs hj => by
      rcases three_of hj with ⟨he, _⟩ | ⟨he, _⟩ | ⟨he, _⟩ <;> simp only [Prod.mk.injEq] at he <;> obtain ⟨rfl, rfl, rfl, rfl⟩ := he
      · refine ⟨fun v hv => ?_, fun i v hi => ?_⟩
        · simp only [List.mem_cons, List.not_mem_nil, or_false] at hv
          subst hv
          exact ⟨rfl, hpA_pres (nt := 36) (j := 1) (by simp)⟩
        · cases i with
          | succ i => simp at hi
          | zero =>
            simp only [List.getElem?_cons_zero, Option.some.injEq] at hi
            subst hi
            exact hc
      · exact ⟨flatL_ok0 hx _, fun i v hi => by rw [flatL_flat xs v (List.mem_of_getElem? hi)]; exact h1 i v hi⟩
      · exact ⟨flatL_ok0 hy _, fun i v hi => by rw [flatL_flat ys v (List.mem_of_getElem? hi)]; exact h2 i v hi⟩)
    (fun j c1 d cs hj => by rcases three_of hj with ⟨he, _⟩ | ⟨he, _⟩ | ⟨he, _⟩ <;> simp at he)
    (fun j j' b1 o1 b2 o2 f f' c1 c2 hne e1 e2 hf => by
      rcases three_of e1 with ⟨h3, _⟩ | ⟨h3, _⟩ | ⟨h3, _⟩ <;> rcases three_of e2 with ⟨h4, _⟩ | ⟨h4, _⟩ | ⟨h4, _⟩ <;> simp only [Prod.mk.injEq] at h3 h4 <;> rw [h3.2.2.1, h4.2.2.1] at hf <;> cases hf)
    (fun q c1 d hq => by
      simp only [List.mem_cons, Prod.mk.injEq, List.not_mem_nil, or_false] at hq
      rcases hq with ⟨rfl, rfl, rfl⟩ | ⟨rfl, rfl, rfl⟩
      · exact ⟨1, _, _, rfl, rfl⟩
      · exact ⟨2, _, _, rfl, rfl⟩)
  refine calls_of_tri hf hb (args := #[.pointer (some ⟨pb, po, none⟩), .slice (some ⟨b', o', none⟩) xs.length cy]) h0 (q_tri hx hy he cx cy pb po b o b' o' hn) ?_
  rintro e τ' ⟨rfl, ht⟩
  refine ⟨by simp, fun a' w' hs => ?_⟩
  obtain ⟨g, T, ρ, k1, k2, k3, k4⟩ := results_of (P := Try.prog) (fn := Try.f49) (v := .bool (sameB xs ys)) (fun g T => by
    obtain ⟨tm, hp, loc⟩ := τ'
    simp only at ht
    subst ht
    generalize sameB xs ys = bb
    kernel_rfl) hs
  exact ⟨_, k4, rfl, k1.inv.fr⟩
end Go.Proofs.Ytbbifiogcpcpfaa
