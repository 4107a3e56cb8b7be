/-
  spec.LowR: whether all numbers of a list are below the prime of the scalar field.
-/
import Derived.Test.YtbbifiogcpcpfaaListIn
import Derived.Test.YtbbifiogcpcpfaaWAdd
namespace Go.Proofs.Ytbbifiogcpcpfaa
open Vm

/-- The prime of the scalar field. -/
def rL : L4 := ⟨4891460686036598785, 2896914383306846353, 13281191951274694749, 3486998266802970665⟩
theorem rL_ok : rL.ok := ⟨⟨by decide, by decide⟩, ⟨by decide, by decide⟩, ⟨by decide, by decide⟩, ⟨by decide, by decide⟩⟩
def rPrimeR : Gf := g0 ([], .fresh rL.cells [], none)
theorem primeR_run : runs Try.prog (look []) 8 Try.f46 [] [] [] [] = fr4 rL True := by kernel_rfl
theorem ac_PrimeR : AC Try.prog 46 [] rPrimeR := by
  refine ac_of_run (fn := Try.f46) (look_ok [] env_nil) follows (by kernel_rfl) rfl (runOK0 (res_fresh (ok4.2 rL_ok) (fun u hu => by simp at hu)) fun _ => ⟨8, ?_⟩)
  rw [primeR_run]
  exact .mk' trivial rfl rfl

noncomputable abbrev cLR : Code := bodyOf Try.f20
noncomputable abbrev cLRb : Code := cAt cLR [1, 0, 1]
noncomputable abbrev cLRr : Code := cAt cLRb [0, 0]
abbrev eLR (lt : L4 → L4 → Bool) : List (Nat × Sm) := [eM 45 kLess (rLess lt), eM 46 [] rPrimeR]
/-- Ahead of a round: the list; one of its numbers told by itself. -/
def lrH (xs : List Value) (n cap b o : Nat) (i : Int) : TS := ⟨mkT 17 [(0, slc 17 n cap), (3, num i)], mkT 19 [(17, false, xs)], [(17, b, o)]⟩
def lrP (xs : List Value) (x : L4) (n cap b o s : Nat) (i : Int) : TS := ⟨mkT 17 [(0, slc 17 n cap), (3, num i)], mkT 19 [(17, false, xs), (18, false, x.cells)], [(18, b, o + s), (17, b, o)]⟩
theorem lr_go (lt : L4 → L4 → Bool) (xs : List Value) (x : L4) (n cap b o s : Nat) (i : Int) (g : Nat → Value) (T : Hp) :
    runV Try.prog (lookS (eLR lt) [(17, s, 18)] [(7, true), (16, false)]) 1 cLRr ((lrP xs x n cap b o s i).fill g T) 17 19 [(17, 17, false)] [0, 3] =
      some ⟨.normal, [(0, slc 17 n cap), (3, num (IntKind.i64.wrap (i + 1)))], [(17, false, xs)],
        (((True ∧ n ≤ 9223372036854775807) ∧ decide (i < lenI n) = true) ∧ ((0 ≤ i ∧ i < n) ∧ 0 + i.toNat * 4 = s)) ∧ (!(lt x rL)) = false⟩ := by kernel_rfl
theorem lr_no (lt : L4 → L4 → Bool) (xs : List Value) (x : L4) (n cap b o s : Nat) (i : Int) (g : Nat → Value) (T : Hp) :
    runV Try.prog (lookS (eLR lt) [(17, s, 18)] [(7, true), (16, true)]) 1 cLRr ((lrP xs x n cap b o s i).fill g T) 17 19 [] [2] =
      some ⟨.ret, [(2, .bool false)], [],
        (((True ∧ n ≤ 9223372036854775807) ∧ decide (i < lenI n) = true) ∧ ((0 ≤ i ∧ i < n) ∧ 0 + i.toNat * 4 = s)) ∧ (!(lt x rL)) = true⟩ := by kernel_rfl
theorem lr_end (xs : List Value) (n cap b o : Nat) (i : Int) (g : Nat → Value) (T : Hp) :
    runV Try.prog (lookS [] [] [(7, false)]) 1 cLRr ((lrH xs n cap b o i).fill g T) 17 19 [] [] =
      some ⟨.exit 0, [], [], (True ∧ n ≤ 9223372036854775807) ∧ decide (i < lenI n) = false⟩ := by kernel_rfl
def lrS (xs : List Value) (n cap b o : Nat) : TS := ⟨some (slc 17 n cap) :: List.replicate 16 none, List.replicate 17 none ++ [some (false, xs)], [(17, b, o)]⟩
theorem lr_0 (xs : List Value) (n cap b o : Nat) (g : Nat → Value) (T : Hp) : runV Try.prog (lookS [] [] []) 1 (cAt cLR [0]) ((lrS xs n cap b o).fill g T) 17 19 [(17, 17, false)] [0] =
    some ⟨.normal, [(0, slc 17 n cap)], [(17, false, xs)], True⟩ := by kernel_rfl
theorem lr_1 (xs : List Value) (n cap b o : Nat) (g : Nat → Value) (T : Hp) : runV Try.prog (lookS [] [] []) 1 (cAt cLR [1, 0, 0]) ((⟨mkT 17 [(0, slc 17 n cap)], mkT 19 [(17, false, xs)], [(17, b, o)]⟩ : TS).fill g T) 17 19 [(17, 17, false)] [0, 3] =
    some ⟨.normal, [(0, slc 17 n cap), (3, num 0)], [(17, false, xs)], True⟩ := by kernel_rfl
theorem lr_2 (g : Nat → Value) (T : Hp) : runV Try.prog (lookS [] [] []) 1 (cAt cLR [1, 1]) ((⟨mkT 17 [], mkT 19 [], []⟩ : TS).fill g T) 17 19 [] [2] =
    some ⟨.ret, [(2, .bool true)], [], True⟩ := by kernel_rfl
/-- One number of a list, told by itself. -/
theorem lr_turn {xs : List L4} {n cap b o i : Nat} (h : i < xs.length) : Turns (lrH (flatL xs) n cap b o i) (lrP (flatL xs) xs[i] n cap b o (4 * i) i) := by
  have := turn_peek (τ := lrH (flatL xs) n cap b o i) (r := 17) (q := 18) (b := b) (o := o) (A := flatL (xs.take i)) (B := xs[i].cells) (C := flatL (xs.drop (i + 1)))
    (by rw [← flatL_at h]; rfl) rfl (by simp [lrH])
  rw [take_len (Nat.le_of_lt h)] at this
  exact this
theorem lr_tri {lt : L4 → L4 → Bool} (hE : ∀ p ∈ eLR lt, SmOK Try.prog p.1 p.2) (xs : List L4) (cap b o : Nat) (hn : xs.length ≤ 9223372036854775807) :
    Tri Try.prog cLR (lrS (flatL xs) xs.length cap b o) fun e τ' => e = .ret ∧ τ'.tm = mkT 17 [(2, .bool (xs.all fun x => lt x rL))] := by
  have nil : EnvOK Try.prog (lookS [] [] []) := lookS_ok env_nil
  have loc1 : (17, b, o) ∈ [(17, b, o)] := by simp
  refine tri_next (by kernel_rfl) (tri_run nil follows (lr_0 _ _ cap b o) (by decide) trivial (alT_nil _ _ _) ⟨flatL_flat _, trivial⟩ (locK_one 17 _ b o _ _ loc1) ⟨rfl, rfl⟩) ?_
  refine tri_seq' (K1 := fun e τ1 => (e = .normal ∧ (xs.all fun x => lt x rL) = true ∧ τ1 = ⟨mkT 17 [], mkT 19 [], []⟩) ∨ (e = .ret ∧ (xs.all fun x => lt x rL) = false ∧ τ1.tm = mkT 17 [(2, .bool false)])) (by kernel_rfl) ?_ ?_ ?_
  · refine tri_next (by kernel_rfl) (tri_run nil follows (lr_1 _ _ cap b o) (by decide) trivial (alT_nil _ _ _) ⟨flatL_flat _, trivial⟩ (locK_one 17 _ b o _ _ loc1) ⟨rfl, rfl⟩) ?_
    refine tri_block' (by kernel_rfl) ?_
    refine tri_loop' (S := Nat) (by kernel_rfl) (fun i => i ≤ xs.length ∧ ∀ (j : Nat) (h : j < xs.length), j < i → lt xs[j] rL = true) (fun i => lrH (flatL xs) xs.length cap b o i) (fun i => xs.length - i) ?_ (s := 0) ⟨Nat.zero_le _, fun j _ h => absurd h (Nat.not_lt_zero j)⟩
    rintro i ⟨hi, hall⟩
    by_cases hlt : i < xs.length
    · refine tri_turn (lr_turn hlt) ?_
      have hal : ∀ ta, AlT (lookS (eLR lt) [(17, 4 * i, 18)] ta) (lrP (flatL xs) xs[i] xs.length cap b o (4 * i) i) := by
        intro ta r s q hx
        simp only [lookS, List.mem_cons, Prod.mk.injEq, List.not_mem_nil, or_false] at hx
        obtain ⟨rfl, rfl, rfl⟩ := hx
        exact ⟨b, o, by simp [lrP], by simp [lrP]⟩
      have hidx : (0 ≤ (i : Int) ∧ (i : Int) < xs.length) ∧ 0 + (i : Int).toNat * 4 = 4 * i := ⟨⟨by omega, by omega⟩, by omega⟩
      by_cases hb : lt xs[i] rL = true
      · refine tri_run (lookS_ok hE) follows (lr_go lt _ _ _ cap b o _ _) (by decide) ⟨⟨⟨⟨trivial, hn⟩, lenI_of hn _ (by omega)⟩, hidx⟩, by rw [hb]; rfl⟩ (hal _) ⟨flatL_flat _, trivial⟩ (locK_one 17 _ b o _ _ (by simp [lrP])) ?_
        refine ⟨i + 1, ⟨hlt, fun j hj hji => ?_⟩, by omega, ?_⟩
        · by_cases he : j = i
          · subst he; exact hb
          · exact hall j hj (by omega)
        · simp only [num_next (show i < 9223372036854775807 by omega)]; rfl
      · have hb' : lt xs[i] rL = false := by simpa using hb
        refine tri_run (lookS_ok hE) follows (lr_no lt _ _ _ cap b o _ _) (by decide) ⟨⟨⟨⟨trivial, hn⟩, lenI_of hn _ (by omega)⟩, hidx⟩, by rw [hb']; rfl⟩ (hal _) trivial (locK_nil _ _) ?_
        refine .inr ⟨rfl, ?_, rfl⟩
        rw [List.all_eq_false]
        exact ⟨xs[i], List.getElem_mem hlt, hb⟩
    · have he : i = xs.length := by omega
      subst he
      refine tri_run (lookS_ok env_nil) follows (lr_end _ _ cap b o _) (by decide) ⟨⟨trivial, hn⟩, lenI_not hn _ (by omega)⟩ (alT_nil _ _ _) trivial (locK_nil _ _) ?_
      refine .inl ⟨rfl, ?_, rfl⟩
      rw [List.all_eq_true]
      intro x hx
      obtain ⟨j, hj, rfl⟩ := List.getElem_of_mem hx
      exact hall j hj hj
  · rintro τ1 (⟨_, h1, rfl⟩ | ⟨h, _⟩)
    · refine tri_run nil follows lr_2 (by decide) trivial (alT_nil _ _ _) trivial (locK_nil _ _) ⟨rfl, ?_⟩
      rw [h1]
    · cases h
  · rintro e τ1 he (⟨h, _⟩ | ⟨h1, h2, h3⟩)
    · exact absurd h he
    · exact ⟨h1, by rw [h3, h2]⟩

theorem lowR_calls (xs : List L4) (hok : okL xs) (cap b o : Nat) (hn : xs.length ≤ 9223372036854775807) (w : World) (h : ListIn w b o xs) :
    Calls Try.prog 20 #[.slice (some ⟨b, o, none⟩) xs.length cap] w fun e w' => e = .returned (.bool (xs.all fun x => ltB x rL)) ∧ Fr (fun _ _ => False) w w' := by
  have hf : Try.prog.funcs[20]? = some Try.f20 := by kernel_rfl
  have hb : Try.f20.body = some cLR := by kernel_rfl
  have h0 := start_L (nt := 17) (n := xs.length) (ca := cap) hok h
  refine calls_of_tri hf hb h0 (lr_tri (lt := ltB) (env_M ac_less (env_M ac_PrimeR env_nil)) xs cap b o hn) ?_
  rintro e τ' ⟨rfl, ht⟩
  refine ⟨by simp, fun a' w' hs => ?_⟩
  obtain ⟨g, T, ρ, k1, k2, k3, k4⟩ := results_of (P := Try.prog) (fn := Try.f20) (v := .bool (xs.all fun x => ltB x rL)) (fun g T => by
    obtain ⟨tm, hp, loc⟩ := τ'
    simp only at ht
    subst ht
    generalize (xs.all fun x => ltB x rL) = bb
    kernel_rfl) hs
  exact ⟨_, k4, rfl, k1.inv.fr⟩
end Go.Proofs.Ytbbifiogcpcpfaa
