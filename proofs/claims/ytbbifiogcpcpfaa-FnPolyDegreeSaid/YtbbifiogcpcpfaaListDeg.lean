/-
  The degree of a polynomial: polynomial.Polynomial.Degree, impl.PolyDegree.
-/
import Derived.Test.YtbbifiogcpcpfaaListCal
namespace Go.Proofs.Ytbbifiogcpcpfaa
open Vm

noncomputable abbrev cDg : Code := bodyOf Try.f48
def u64m (n : Nat) : Value := .int .u64 (IntKind.u64.wrap (IntKind.i64.wrap (lenI n - 1)))
theorem dg_run (n c b o b' o' : Nat) (g : Nat → Value) (T : Hp) : runV Try.prog (lookS [] [] []) 1 cDg ((⟨[ptr 9].map some ++ List.replicate (9 - 1) none, hpA 9 [(b, o, false, [slc 10 n c]), (b', o', false, [])], []⟩ : TS).fill g T) 9 11 [] [2] =
    some ⟨.ret, [(2, u64m n)], [], True ∧ n ≤ 9223372036854775807⟩ := by kernel_rfl
theorem deg_calls {w : World} {n c b o b' o' : Nat} (hc : w.cell? ⟨b, o, none⟩ = some (.slice (some ⟨b', o', none⟩) n c)) (h1 : 0 < n) (hn : n ≤ 4398046511104) :
    Calls Try.prog 48 #[.pointer (some ⟨b, o, none⟩)] w fun e w' => e = .returned (.int .u64 (n - 1 : Nat)) ∧ Fr (fun _ _ => False) w w' := by
  have hf : Try.prog.funcs[48]? = some Try.f48 := by kernel_rfl
  have hb : Try.f48.body = some cDg := by kernel_rfl
  have two : ∀ {j : Nat} {x : Nat × Nat × Bool × List Value}, [(b, o, false, [slc 10 n c]), (b', o', false, [])][j]? = some x → x = (b, o, false, [slc 10 n c]) ∧ j = 0 ∨ x = (b', o', false, []) ∧ j = 1 := by
    intro j x h
    cases j with
    | zero => simp only [List.getElem?_cons_zero, Option.some.injEq] at h; exact .inl ⟨h.symm, rfl⟩
    | succ j => cases j with
      | zero => simp only [List.getElem?_cons_succ, List.getElem?_cons_zero, Option.some.injEq] at h; exact .inr ⟨h.symm, rfl⟩
      | succ j => simp at h
  have h0 := start_gen (nt := 9) (vs := [ptr 9]) (rs := [(b, o, false, [slc 10 n c]), (b', o', false, [])]) (w := w) (W := fun _ _ => False) (loc := [])
    (fun v hv => by
      simp only [List.mem_cons, List.not_mem_nil, or_false] at hv
      subst hv
      exact ⟨rfl, hpA_pres (j := 0) (by simp)⟩)
    (fun j c1 d f cs hj => by
      rcases two hj with ⟨he, _⟩ | ⟨he, _⟩ <;> simp only [Prod.mk.injEq] at he <;> obtain ⟨rfl, rfl, rfl, rfl⟩ := he
      · refine ⟨fun v hv => ?_, fun i v hi => ?_⟩
        · simp only [List.mem_cons, List.not_mem_nil, or_false] at hv
          subst hv
          exact ⟨rfl, hpA_pres (nt := 9) (j := 1) (by simp)⟩
        · cases i with
          | succ i => simp at hi
          | zero =>
            simp only [List.getElem?_cons_zero, Option.some.injEq] at hi
            subst hi
            exact hc
      · exact ⟨fun v hv => by simp at hv, fun i v hi => by simp at hi⟩)
    (fun j c1 d cs hj => by rcases two hj with ⟨he, _⟩ | ⟨he, _⟩ <;> simp at he)
    (fun j j' b1 o1 b2 o2 f f' c1 c2 hne e1 e2 hf => by
      rcases two e1 with ⟨h3, _⟩ | ⟨h3, _⟩ <;> rcases two e2 with ⟨h4, _⟩ | ⟨h4, _⟩ <;> simp only [Prod.mk.injEq] at h3 h4 <;> rw [h3.2.2.1, h4.2.2.1] at hf <;> cases hf)
    (fun q c1 d hq => by simp at hq)
  refine calls_of_tri hf hb (args := #[.pointer (some ⟨b, o, none⟩)]) h0 (K := fun e τ' => e = .ret ∧ τ' = ⟨mkT 9 [(2, u64m n)], mkT 11 [], []⟩)
    (tri_run (lookS_ok env_nil) follows (dg_run n c b o b' o') (by decide) ⟨trivial, by omega⟩ (alT_nil _ _ _) trivial (locK_nil _ _) ⟨rfl, rfl⟩) ?_
  rintro e τ' ⟨rfl, rfl⟩
  refine ⟨by simp, fun a' w' hs => ?_⟩
  obtain ⟨g, T, ρ, k1, k2, k3, k4⟩ := results_of (P := Try.prog) (fn := Try.f48) (v := u64m n) (fun g T => by kernel_rfl) hs
  refine ⟨_, k4, ?_, k1.inv.fr⟩
  show Ending.returned (.int .u64 _) = Ending.returned (.int .u64 _)
  rw [lenI_eq (by omega), IntWalk.i64_in _ (by omega)]
  congr 2
  show (((n : Int) - 1) % 2 ^ 64) = _
  omega

/-! ### impl.PolyDegree -/
noncomputable abbrev cPd : Code := bodyOf Try.f21
noncomputable abbrev oPd1 : Array Oper := opsOf (cAt cPd [1, 0])
noncomputable abbrev oPd2 : Array Oper := opsOf (cAt cPd [1, 1, 0])
theorem pd_op1 : opAt oPd1 1 = some ⟨some 5, .call { callee := .value (.func 47), args := #[.tmp 4], argTypes := #[34] }⟩ := by kernel_rfl
theorem pd_op2 : opAt oPd2 0 = some ⟨some 6, .call { callee := .value (.func 48), args := #[.tmp 3], argTypes := #[63] }⟩ := by kernel_rfl
theorem pd_0 (xs : List Value) (n ca b o : Nat) (g : Nat → Value) (T : Hp) : runV Try.prog (lookS [] [] []) 1 (cAt cPd [0]) ((⟨[slc 8 n ca].map some ++ List.replicate (8 - 1) none, hpA 8 [(b, o, false, xs)], [(8, b, o)]⟩ : TS).fill g T) 8 10 [(8, 8, false)] [0] =
    some ⟨.normal, [(0, slc 8 n ca)], [(8, false, xs)], True⟩ := by kernel_rfl
theorem pd_1 (xs : List Value) (n ca : Nat) (g : Nat → Value) (T : Hp) : runLV Try.prog (lookS [] [] []) oPd1 (oPd1.toList.take 1) ((⟨mkT 8 [(0, slc 8 n ca)], mkT 10 [(8, false, xs)], []⟩ : TS).fill g T) 8 10 [(8, 8, false)] [4] =
    some ⟨.normal, [(4, slc 8 n ca)], [(8, false, xs)], True⟩ := by kernel_rfl
theorem pd_2 (ys : List Value) (n c : Nat) (g : Nat → Value) (T : Hp) : runLV Try.prog (lookS [] [] []) oPd1 (oPd1.toList.drop 2) ((⟨mkT 8 [(5, slc 9 n c)], mkT 10 [(9, true, ys)], []⟩ : TS).fill g T) 8 10 [(3, 3, true), (9, 9, false)] [3] =
    some ⟨.normal, [(3, ptr 3)], [(3, true, [slc 9 n c]), (9, true, ys)], True⟩ := by kernel_rfl
theorem pd_3 (k : Int) (g : Nat → Value) (T : Hp) : runLV Try.prog (lookS [] [] []) oPd2 (oPd2.toList.drop 1) ((⟨mkT 8 [(6, .int .u64 k)], mkT 10 [], []⟩ : TS).fill g T) 8 10 [] [2] =
    some ⟨.normal, [(2, num (IntKind.i64.wrap k))], [], True⟩ := by kernel_rfl
theorem pd_4 (k : Int) (g : Nat → Value) (T : Hp) : runV Try.prog (lookS [] [] []) 1 (cAt cPd [1, 1, 1]) ((⟨mkT 8 [(2, num k)], mkT 10 [], []⟩ : TS).fill g T) 8 10 [] [2] =
    some ⟨.ret, [(2, num k)], [], True⟩ := by kernel_rfl
theorem pd_tri {xs : List L4} (hok : okL xs) (hpos : 0 < xs.length) (hn : xs.length ≤ 4398046511104) (ca b o : Nat) :
    Tri Try.prog cPd ⟨[slc 8 xs.length ca].map some ++ List.replicate (8 - 1) none, hpA 8 [(b, o, false, flatL xs)], [(8, b, o)]⟩ fun e τ' => e = .ret ∧ τ' = ⟨mkT 8 [(2, num ((xs.length - 1 : Nat) : Int))], mkT 10 [], []⟩ := by
  have ok : ∀ {al ta}, EnvOK Try.prog (lookS [] al ta) := lookS_ok env_nil
  have fx := flatL_flat xs
  refine tri_next (τ1 := ⟨mkT 8 [(0, slc 8 xs.length ca)], mkT 10 [(8, false, flatL xs)], []⟩) (by kernel_rfl) (tri_run ok follows (pd_0 _ _ ca b o) (by decide) trivial (alT_nil _ _ _) ⟨fx, trivial⟩ (locK_nil _ _) ⟨rfl, rfl⟩) ?_
  refine tri_seq' (K1 := fun e τ1 => e = .normal ∧ ∃ ys c, Flat ys ∧ τ1 = ⟨mkT 8 [(3, ptr 3)], mkT 10 [(3, true, [slc 9 xs.length c]), (9, true, ys)], []⟩) (by kernel_rfl) ?_ ?_ (fun _ _ he h => absurd h.1 he)
  · refine tri_region' (by kernel_rfl) ?_
    obtain ⟨op, hg, hd, ho, hsplit⟩ := ops_split pd_op1
    show TriL _ oPd1 oPd1.toList _ _
    rw [hsplit]
    refine tril_run ok (pd_1 _ _ ca) (by decide) trivial (alT_nil _ _ _) ⟨fx, trivial⟩ (locK_nil _ _) ?_
    refine tril_made (f := 47) (fn := Try.f47) (code := cmL) (dst := 5) (m := 10) (r := 8) (cap := ca) (d := 5) (h' := 9) (fl := false) (xs := xs) (ex := []) (live := []) (ks := []) (loc := []) ho hd
      (fun g => by simp only [wantedS, hg]) rfl (by kernel_rfl) (by kernel_rfl) (by kernel_rfl) (fun g => rfl) (by rw [List.append_nil]; rfl) hok (mL_calls hok hpos hn) rfl (by rw [mkT_length]; decide) (fun p hp => by simp at hp) (fun k hk => by simp at hk) (by decide) (fun q b o h => by simp at h) ?_
    intro c sp h1 h2 fs
    have fa : Flat (flatL xs ++ sp) := flat_app fx fs
    have := tril_run (rest := []) (K := fun τ' => Xt.normal = .normal ∧ ∃ ys c, Flat ys ∧ τ' = ⟨mkT 8 [(3, ptr 3)], mkT 10 [(3, true, [slc 9 xs.length c]), (9, true, ys)], []⟩) ok (pd_2 (flatL xs ++ sp) xs.length c) (by decide) trivial (alT_nil _ _ _) ⟨fa, trivial⟩ (locK_nil _ _) (tril_nil ⟨rfl, flatL xs ++ sp, c, fa, rfl⟩)
    rw [List.append_nil] at this
    exact this
  · rintro τ1 ⟨_, ys, c, fy, rfl⟩
    refine tri_next (τ1 := ⟨mkT 8 [(2, num ((xs.length - 1 : Nat) : Int))], mkT 10 [], []⟩) (by kernel_rfl) ?_ (tri_run ok follows (pd_4 _) (by decide) trivial (alT_nil _ _ _) trivial (locK_nil _ _) ⟨rfl, rfl⟩)
    refine tri_region' (by kernel_rfl) ?_
    obtain ⟨op, hg, hd, ho, hsplit⟩ := ops_split pd_op2
    show TriL _ oPd2 oPd2.toList _ _
    rw [hsplit]
    refine tril_scalar (vs := [ptr 3]) (v := .int .u64 ((xs.length - 1 : Nat) : Int)) (dst := 6) (m := 10) (live := []) (ks := []) (loc := []) (fn := Try.f48) (code := cDg) ho hd rfl (fun g => by simp only [wantedS, hg]) (fun x hx => by simp at hx; subst hx; rfl) (by kernel_rfl) (by kernel_rfl) (by kernel_rfl) (fun g => rfl) ?_
      ⟨by show (0 : Int) ≤ _; omega, by show _ ≤ (18446744073709551615 : Int); omega⟩ (by rw [mkT_length]; decide) (fun p hp => by simp at hp) (fun k hk => by simp at hk) (by decide) (fun q b o h => by simp at h) ?_
    · intro w0 W g T ρ a w hs _
      have hc := hs.inv.cell 3 true [slc 9 xs.length c] rfl 0 _ rfl
      have := deg_calls (w := w) (n := xs.length) (c := c) (b := (ρ 3).1) (o := (ρ 3).2 + 0) (b' := (ρ 9).1) (o' := (ρ 9).2 + 0) hc hpos hn
      exact this
    · have := tril_run (rest := []) (K := fun τ' => Xt.normal = .normal ∧ τ' = ⟨mkT 8 [(2, num ((xs.length - 1 : Nat) : Int))], mkT 10 [], []⟩) ok (pd_3 ((xs.length - 1 : Nat) : Int)) (by decide) trivial (alT_nil _ _ _) trivial (locK_nil _ _) (tril_nil ⟨rfl, by
        have e : num (IntKind.i64.wrap ((xs.length - 1 : Nat) : Int)) = num ((xs.length - 1 : Nat) : Int) := by
          show Value.int .i64 _ = Value.int .i64 _
          rw [IntWalk.i64_in _ (by omega)]
        rw [e]⟩)
      rw [List.append_nil] at this
      exact this
theorem pd_calls {xs : List L4} (hok : okL xs) (hpos : 0 < xs.length) (hn : xs.length ≤ 4398046511104) (ca b o : Nat) (w : World) (h : ListIn w b o xs) :
    Calls Try.prog 21 #[.slice (some ⟨b, o, none⟩) xs.length ca] w fun e w' => e = .returned (num ((xs.length - 1 : Nat) : Int)) ∧ Fr (fun _ _ => False) w w' := by
  have hf : Try.prog.funcs[21]? = some Try.f21 := by kernel_rfl
  have hb : Try.f21.body = some cPd := by kernel_rfl
  have h0 := start_L (nt := 8) (n := xs.length) (ca := ca) hok h
  refine calls_of_tri hf hb (args := #[.slice (some ⟨b, o, none⟩) xs.length ca]) h0 (pd_tri hok hpos hn ca b o) ?_
  rintro e τ' ⟨rfl, rfl⟩
  refine ⟨by simp, fun a' w' hs => ?_⟩
  obtain ⟨g, T, ρ, k1, k2, k3, k4⟩ := results_of (P := Try.prog) (fn := Try.f21) (v := num ((xs.length - 1 : Nat) : Int)) (fun g T => by
    generalize ((xs.length - 1 : Nat) : Int) = k
    kernel_rfl) hs
  exact ⟨_, k4, rfl, k1.inv.fr⟩
end Go.Proofs.Ytbbifiogcpcpfaa
