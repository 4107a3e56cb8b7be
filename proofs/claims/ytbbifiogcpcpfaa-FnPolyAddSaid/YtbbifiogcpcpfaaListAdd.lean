/-
  polynomial.Polynomial.Add, onto a polynomial of no numbers, of two lists that have numbers.
-/
import Derived.Test.YtbbifiogcpcpfaaListCom
namespace Go.Proofs.Ytbbifiogcpcpfaa
open Vm

noncomputable abbrev cAd : Code := bodyOf Try.f53
noncomputable abbrev cAdL : Code := cAt cAd [1, 1, 1, 1, 1, 1, 1, 1, 0]
noncomputable abbrev cAdB : Code := cAt cAdL [1]
noncomputable abbrev cAdR : Code := cAt cAdB [0, 0]
noncomputable abbrev oAd20 : Array Oper := opsOf (cAt cAd [1, 1, 1, 1, 1, 1, 0])
noncomputable abbrev oAd21 : Array Oper := opsOf (cAt cAd [1, 1, 1, 1, 1, 1, 1, 0])
abbrev nilS : Value := .slice none 0 0
abbrev kAd : Keep := [(132, 132, false), (133, 133, false), (134, 134, false)]
abbrev kAe : Keep := [(132, 132, false), (133, 134, false), (134, 133, false)]
abbrev kAf : Keep := [(132, 132, false), (135, 135, false), (134, 134, false)]
abbrev rAd (us vs : List Value) : List (Nat × Bool × List Value) := [(132, true, [nilS]), (133, false, us), (134, false, vs)]
abbrev rAe (us vs : List Value) : List (Nat × Bool × List Value) := [(132, true, [nilS]), (134, false, us), (133, false, vs)]
abbrev rAf (zs vs : List Value) : List (Nat × Bool × List Value) := [(132, true, [nilS]), (135, true, zs), (134, false, vs)]
def adS (xs ys : List Value) (n m cx cy pb po b o b' o' : Nat) : TS := ⟨[ptr 132, slc 133 n cx, slc 134 m cy].map some ++ List.replicate (132 - 3) none, hpA 132 [(pb, po, true, [nilS]), (b, o, false, xs), (b', o', false, ys)], [(132, pb, po)]⟩
section
variable (xs ys zs : List Value) (n m cx cy pb po b o b' o' : Nat) (g : Nat → Value) (T : Hp)
theorem ad_0 : runV Try.prog (lookS [] [] []) 1 (cAt cAd [0]) ((adS xs ys n m cx cy pb po b o b' o').fill g T) 132 140 kAd [0, 1, 2] = some ⟨.normal, [(0, ptr 132), (1, slc 133 n cx), (2, slc 134 m cy)], rAd xs ys, True⟩ := by kernel_rfl
theorem ad_1 : runV Try.prog (lookS [] [] []) 1 (cAt cAd [1, 0]) ((⟨mkT 132 [(0, ptr 132), (1, slc 133 n cx), (2, slc 134 m cy)], mkT 140 (rAd xs ys), [(132, pb, po)]⟩ : TS).fill g T) 132 140 kAd [0, 2, 7] = some ⟨.normal, [(0, ptr 132), (2, slc 134 m cy), (7, slc 133 n cx)], rAd xs ys, True⟩ := by kernel_rfl
theorem ad_2 : runV Try.prog (lookS [] [] []) 1 (cAt cAd [1, 1, 0]) ((⟨mkT 132 [(0, ptr 132), (2, slc 134 m cy), (7, slc 133 n cx)], mkT 140 (rAd xs ys), [(132, pb, po)]⟩ : TS).fill g T) 132 140 kAd [0, 7, 8] = some ⟨.normal, [(0, ptr 132), (7, slc 133 n cx), (8, slc 134 m cy)], rAd xs ys, True⟩ := by kernel_rfl
theorem ad_3 : runV Try.prog (lookS [] [] [(19, false)]) 1 (cAt cAd [1, 1, 1, 0]) ((⟨mkT 132 [(0, ptr 132), (7, slc 133 n cx), (8, slc 134 m cy)], mkT 140 (rAd xs ys), [(132, pb, po)]⟩ : TS).fill g T) 132 140 kAd [0, 7, 8] =
    some ⟨.normal, [(0, ptr 132), (7, slc 133 n cx), (8, slc 134 m cy)], rAd xs ys, ((True ∧ n ≤ 9223372036854775807) ∧ m ≤ 9223372036854775807) ∧ decide (lenI n < lenI m) = false⟩ := by kernel_rfl
theorem ad_3' : runV Try.prog (lookS [] [] [(19, true)]) 1 (cAt cAd [1, 1, 1, 0]) ((⟨mkT 132 [(0, ptr 132), (7, slc 133 n cx), (8, slc 134 m cy)], mkT 140 (rAd xs ys), [(132, pb, po)]⟩ : TS).fill g T) 132 140 kAe [0, 7, 8] =
    some ⟨.normal, [(0, ptr 132), (7, slc 133 m cy), (8, slc 134 n cx)], rAe xs ys, ((True ∧ n ≤ 9223372036854775807) ∧ m ≤ 9223372036854775807) ∧ decide (lenI n < lenI m) = true⟩ := by kernel_rfl
def adT (xs ys : List Value) (n m cx cy pb po : Nat) : TS := ⟨mkT 132 [(0, ptr 132), (7, slc 133 n cx), (8, slc 134 m cy)], mkT 140 (rAd xs ys), [(132, pb, po)]⟩
theorem ad_5 : runV Try.prog (lookS [] [] [(28, false)]) 1 (cAt cAd [1, 1, 1, 1, 0]) ((adT xs ys n m cx cy pb po).fill g T) 132 140 kAd [0, 7, 8] =
    some ⟨.normal, [(0, ptr 132), (7, slc 133 n cx), (8, slc 134 m cy)], rAd xs ys, ((True ∧ 0 ≤ 9223372036854775807) ∧ n ≤ 9223372036854775807) ∧ (lenI 0 == lenI n) = false⟩ := by kernel_rfl
theorem ad_12 : runV Try.prog (lookS [] [] [(65, false)]) 1 (cAt cAd [1, 1, 1, 1, 1, 0]) ((adT xs ys n m cx cy pb po).fill g T) 132 140 kAd [0, 7, 8] =
    some ⟨.normal, [(0, ptr 132), (7, slc 133 n cx), (8, slc 134 m cy)], rAd xs ys, ((True ∧ 0 ≤ 9223372036854775807) ∧ m ≤ 9223372036854775807) ∧ (lenI 0 == lenI m) = false⟩ := by kernel_rfl
end

theorem ad_op20 : opAt oAd20 2 = some ⟨some 108, .makeSlice 63 (.tmp 107) (.tmp 107)⟩ := by kernel_rfl
theorem ad_op21 : opAt oAd21 2 = some ⟨some 111, .call { callee := .builtin .copy, args := #[.tmp 109, .tmp 110], argTypes := #[63, 63] }⟩ := by kernel_rfl
abbrev rAg (zs us vs : List Value) : List (Nat × Bool × List Value) := [(135, true, zs), (132, true, [nilS]), (133, false, us), (134, false, vs)]
abbrev kAg : Keep := [(135, 135, false), (132, 132, false), (133, 133, false), (134, 134, false)]
abbrev rAh (zs vs : List Value) : List (Nat × Bool × List Value) := [(135, true, zs), (132, true, [nilS]), (134, false, vs)]
abbrev kAh : Keep := [(135, 135, false), (132, 132, false), (134, 134, false)]
abbrev kAp : Keep := [(135, 135, false), (136, 136, false), (137, 137, false), (132, 132, false), (134, 134, false)]
abbrev eAd (op : L4 → L4 → L4) (φ : L4 → L4 → Prop) : List (Nat × Sm) := [eM 67 kWRR (rOp op φ)]
abbrev sAi (n m cy : Nat) (i : Int) : List (Nat × Value) := [(0, ptr 132), (11, slc 135 n n), (8, slc 134 m cy), (113, num m), (114, num i)]
abbrev lAd (pb po zb zo b o : Nat) : List (Nat × Nat × Nat) := [(132, pb, po), (135, zb, zo), (134, b, o)]
def adH (zs vs : List Value) (n m cy pb po zb zo b o : Nat) (i : Int) : TS := ⟨mkT 132 (sAi n m cy i), mkT 140 (rAh zs vs), lAd pb po zb zo b o⟩
def adP (A C vs : List Value) (z y : L4) (n m cy pb po zb zo b o s s2 : Nat) (i : Int) : TS :=
  ⟨mkT 132 (sAi n m cy i), mkT 140 [(135, true, A), (132, true, [nilS]), (134, false, vs), (136, true, z.cells), (137, true, C), (138, false, y.cells)], (138, b, o + s) :: (136, zb, zo + s) :: (137, zb, s2) :: lAd pb po zb zo b o⟩
abbrev rAp (A N C vs : List Value) : List (Nat × Bool × List Value) := [(135, true, A), (136, true, N), (137, true, C), (132, true, [nilS]), (134, false, vs)]
def adQ (A N C vs : List Value) (n m cy pb po zb zo b o s s2 : Nat) (i : Int) : TS := ⟨mkT 132 (sAi n m cy i), mkT 140 (rAp A N C vs), (136, zb, zo + s) :: (137, zb, s2) :: lAd pb po zb zo b o⟩
section
variable (us vs zs : List Value) (n m cx cy pb po zb zo b o : Nat) (g : Nat → Value) (T : Hp)
theorem ad_20 : runLV Try.prog (lookS [] [] []) oAd20 (oAd20.toList.take 2) ((adT us vs n m cx cy pb po).fill g T) 132 140 kAd [107, 0, 7, 8] =
    some ⟨.normal, [(107, num (lenI n)), (0, ptr 132), (7, slc 133 n cx), (8, slc 134 m cy)], rAd us vs, True ∧ n ≤ 9223372036854775807⟩ := by kernel_rfl
theorem ad_20' : runLV Try.prog (lookS [] [] []) oAd20 (oAd20.toList.drop 3) ((⟨mkT 132 [(108, slc 135 n n), (0, ptr 132), (7, slc 133 n cx), (8, slc 134 m cy)], mkT 140 (rAg zs us vs), [(132, pb, po)]⟩ : TS).fill g T) 132 140 kAg [11, 0, 7, 8] =
    some ⟨.normal, [(11, slc 135 n n), (0, ptr 132), (7, slc 133 n cx), (8, slc 134 m cy)], rAg zs us vs, True⟩ := by kernel_rfl
theorem ad_21 : runLV Try.prog (lookS [] [] []) oAd21 (oAd21.toList.take 2) ((⟨mkT 132 [(11, slc 135 n n), (0, ptr 132), (7, slc 133 n cx), (8, slc 134 m cy)], mkT 140 (rAg zs us vs), [(132, pb, po)]⟩ : TS).fill g T) 132 140 kAg [109, 110, 11, 0, 8] =
    some ⟨.normal, [(109, slc 135 n n), (110, slc 133 n cx), (11, slc 135 n n), (0, ptr 132), (8, slc 134 m cy)], rAg zs us vs, True⟩ := by kernel_rfl
theorem ad_21' : runLV Try.prog (lookS [] [] []) oAd21 (oAd21.toList.drop 3) ((⟨mkT 132 [(111, num n), (11, slc 135 n n), (0, ptr 132), (8, slc 134 m cy)], mkT 140 (rAh zs vs), [(132, pb, po)]⟩ : TS).fill g T) 132 140 kAh [0, 11, 8] =
    some ⟨.normal, [(0, ptr 132), (11, slc 135 n n), (8, slc 134 m cy)], rAh zs vs, True⟩ := by kernel_rfl
theorem ad_22 : runV Try.prog (lookS [] [] []) 1 (cAt cAdL [0]) ((⟨mkT 132 [(0, ptr 132), (11, slc 135 n n), (8, slc 134 m cy)], mkT 140 (rAh zs vs), [(132, pb, po)]⟩ : TS).fill g T) 132 140 kAh [0, 11, 8, 113, 114] =
    some ⟨.normal, [(0, ptr 132), (11, slc 135 n n), (8, slc 134 m cy), (113, num (lenI m)), (114, num 0)], rAh zs vs, True ∧ m ≤ 9223372036854775807⟩ := by kernel_rfl
theorem ad_go (op : L4 → L4 → L4) (φ : L4 → L4 → Prop) (A C : List Value) (z y : L4) (s s2 : Nat) (i : Int) :
    runV Try.prog (lookS (eAd op φ) [(135, s, 136), (134, s, 138)] [(115, true)]) 1 cAdR ((adP A C vs z y n m cy pb po zb zo b o s s2 i).fill g T) 132 140 kAp [0, 11, 8, 113, 114] =
      some ⟨.normal, sAi n m cy (IntKind.i64.wrap (i + 1)), rAp A (op z y).cells C vs, ((((True ∧ decide (i < m) = true) ∧ vcI n i s) ∧ vcI n i s) ∧ vcI m i s) ∧ φ z y⟩ := by kernel_rfl
theorem ad_end (i : Int) : runV Try.prog (lookS [] [] [(115, false)]) 1 cAdR ((adH zs vs n m cy pb po zb zo b o i).fill g T) 132 140 kAh [0, 11] = some ⟨.exit 4, [(0, ptr 132), (11, slc 135 n n)], rAh zs vs, True ∧ decide (i < m) = false⟩ := by kernel_rfl
theorem ad_27 : runV Try.prog (lookS [] [] []) 1 (cAt cAd [1, 1, 1, 1, 1, 1, 1, 1, 1, 0]) ((⟨mkT 132 [(0, ptr 132), (11, slc 135 n n)], mkT 140 (rAh zs vs), [(132, pb, po)]⟩ : TS).fill g T) 132 140 [(132, 132, true), (135, 135, false)] [0] =
    some ⟨.normal, [(0, ptr 132)], [(132, true, [slc 135 n n]), (135, true, zs)], True⟩ := by kernel_rfl
theorem ad_28 : runV Try.prog (lookS [] [] []) 1 (cAt cAd [1, 1, 1, 1, 1, 1, 1, 1, 1, 1]) ((⟨mkT 132 [(0, ptr 132)], mkT 140 [(132, true, [slc 135 n n]), (135, true, zs)], [(132, pb, po)]⟩ : TS).fill g T) 132 140 [(132, 132, true), (135, 135, false)] [6] =
    some ⟨.ret, [(6, ptr 132)], [(132, true, [slc 135 n n]), (135, true, zs)], True⟩ := by kernel_rfl
theorem ad_v (A N C : List Value) (s s2 : Nat) (i : Int) : viewK 140 kAh [0, 11, 8, 113, 114] .normal
    ((⟨(adQ A N C vs n m cy pb po zb zo b o s s2 i).tm, (((adQ A N C vs n m cy pb po zb zo b o s s2 i).hp.set 135 (some (true, A ++ (N ++ C)))).set 136 (some (false, []))).set 137 (some (false, [])), (adQ A N C vs n m cy pb po zb zo b o s s2 i).loc⟩ : TS).fill g T) =
      some ⟨.normal, sAi n m cy i, rAh (A ++ (N ++ C)) vs, True⟩ := by kernel_rfl
end

theorem ad_turn {ws us vs : List L4} {n m cy pb po zb zo b o i : Nat} (hw : i < ws.length) (hu : i < us.length) (hv : i < vs.length) :
    Turns (adH (flatL (mix ws us i)) (flatL vs) n m cy pb po zb zo b o i) (adP (flatL (ws.take i)) (flatL (us.drop (i + 1))) (flatL vs) us[i] vs[i] n m cy pb po zb zo b o (4 * i) (zo + 4 * i + 4) i) := by
  have t1 := turn_part (τ := adH (flatL (mix ws us i)) (flatL vs) n m cy pb po zb zo b o i) (r := 135) (q := 136) (q2 := 137) (f := true) (b := zb) (o := zo) (A := flatL (ws.take i)) (B := us[i].cells) (C := flatL (us.drop (i + 1)))
    (by rw [← mix_at hu]; rfl) rfl rfl (by decide) (by simp [adH])
  rw [take_len (Nat.le_of_lt hw)] at t1
  have t2 := turn_peek (τ := ⟨mkT 132 (sAi n m cy i), mkT 140 [(135, true, flatL (ws.take i)), (132, true, [nilS]), (134, false, flatL vs), (136, true, us[i].cells), (137, true, flatL (us.drop (i + 1)))], (136, zb, zo + 4 * i) :: (137, zb, zo + 4 * i + 4) :: lAd pb po zb zo b o⟩)
    (r := 134) (q := 138) (b := b) (o := o) (A := flatL (vs.take i)) (B := vs[i].cells) (C := flatL (vs.drop (i + 1))) (by rw [← flatL_at hv]; rfl) rfl (by simp)
  rw [take_len (Nat.le_of_lt hv)] at t2
  exact fun w0 W a w hs => t2 w0 W a w (t1 w0 W a w hs)
theorem locK_Ad {pb po zb zo b o : Nat} {l : List (Nat × Nat × Nat)} (h : ∀ x ∈ lAd pb po zb zo b o, x ∈ l) : LocK kAh l (lAd pb po zb zo b o) :=
  locK_cons 132 false (by simp) (h _ (by simp)) (locK_cons 135 false (by simp) (h _ (by simp)) (locK_cons 134 false (by simp) (h _ (by simp)) (locK_nil _ _)))
theorem flat_nil : Flat [nilS] := fun v hv π => by
  simp only [List.mem_cons, List.not_mem_nil, or_false] at hv
  subst hv; rfl

section
variable {op : L4 → L4 → L4} {φ : L4 → L4 → Prop} (hE : ∀ q ∈ eAd op φ, SmOK Try.prog q.1 q.2) {us vs : List L4} (hle : vs.length ≤ us.length) (hpos : 0 < vs.length) (hn : us.length ≤ 16777216) (cx cy pb po : Nat)
include hE hle hpos hn

omit hpos in
theorem adL_tri (hφ : ∀ (i : Nat) (h : i < us.length) (h' : i < vs.length), φ us[i] vs[i]) :
    Tri Try.prog cAdL ⟨mkT 132 [(0, ptr 132), (11, slc 135 us.length us.length), (8, slc 134 vs.length cy)], mkT 140 (rAh (flatL us) (flatL vs)), [(132, pb, po)]⟩ fun e τ' => e = .normal ∧ τ' = ⟨mkT 132 [(0, ptr 132), (11, slc 135 us.length us.length)], mkT 140 (rAh (flatL (mix (List.zipWith op us vs) us vs.length)) (flatL vs)), [(132, pb, po)]⟩ := by
  have ok : ∀ {al ta}, EnvOK Try.prog (lookS [] al ta) := lookS_ok env_nil
  have fu := flatL_flat us
  have fv := flatL_flat vs
  have hwl : (List.zipWith op us vs).length = vs.length := by simp; omega
  have hm : vs.length ≤ 9223372036854775807 := by omega
  refine tri_next (τ1 := ⟨mkT 132 (sAi us.length vs.length cy 0), mkT 140 (rAh (flatL us) (flatL vs)), [(132, pb, po)]⟩) (by kernel_rfl) (tri_run ok follows (loc := [(132, pb, po)]) (fun g T => ad_22 (flatL vs) (flatL us) us.length vs.length cy pb po g T) (by decide) (by exact ⟨trivial, hm⟩) (alT_nil _ _ _) (by exact ⟨fu, flat_nil, fv, trivial⟩) (locK_cons 132 false (by simp) (by simp) (locK_nil _ _)) ⟨rfl, by rw [lenI_eq hm]⟩) ?_
  refine tri_loc (r := 135) (x := (true, flatL us)) rfl fun zb zo => ?_
  refine tri_loc (r := 134) (x := (false, flatL vs)) rfl fun b o => ?_
  refine tri_turn (τ1 := adH (flatL us) (flatL vs) us.length vs.length cy pb po zb zo b o 0) (fun w0 W a w ⟨g, T, ρ, hs, hl⟩ => ⟨g, T, ρ, hs, fun r b' o' h => hl r b' o' (by
    simp only [adH, lAd, List.mem_cons, List.not_mem_nil, or_false] at h ⊢
    rcases h with h | h | h
    · exact .inr (.inr h)
    · exact .inr (.inl h)
    · exact .inl h)⟩) ?_
  refine tri_block' (by kernel_rfl) ?_
  have hloop := tri_loop' (P := Try.prog) (c := cFst cAdB) (K := fun e τ' => match e with
      | .exit i => if i = cId cAdB then (Xt.normal = .normal ∧ τ' = ⟨mkT 132 [(0, ptr 132), (11, slc 135 us.length us.length)], mkT 140 (rAh (flatL (mix (List.zipWith op us vs) us vs.length)) (flatL vs)), [(132, pb, po)]⟩) else (Xt.exit i = .normal ∧ τ' = ⟨mkT 132 [(0, ptr 132), (11, slc 135 us.length us.length)], mkT 140 (rAh (flatL (mix (List.zipWith op us vs) us vs.length)) (flatL vs)), [(132, pb, po)]⟩)
      | e => (e = .normal ∧ τ' = ⟨mkT 132 [(0, ptr 132), (11, slc 135 us.length us.length)], mkT 140 (rAh (flatL (mix (List.zipWith op us vs) us vs.length)) (flatL vs)), [(132, pb, po)]⟩)) (S := Nat) (by kernel_rfl) (fun i => i ≤ vs.length)
    (fun i => adH (flatL (mix (List.zipWith op us vs) us i)) (flatL vs) us.length vs.length cy pb po zb zo b o i) (fun i => vs.length - i) ?_ (s := 0) (Nat.zero_le _)
  · rw [mix_0] at hloop
    exact hloop
  · intro i hi
    by_cases hlt : i < vs.length
    · have hu : i < us.length := by omega
      have hw : i < (List.zipWith op us vs).length := by rw [hwl]; exact hlt
      refine tri_turn (ad_turn hw hu hlt) ?_
      have hal : ∀ ta, AlT (lookS (eAd op φ) [(135, 4 * i, 136), (134, 4 * i, 138)] ta) (adP (flatL ((List.zipWith op us vs).take i)) (flatL (us.drop (i + 1))) (flatL vs) us[i] vs[i] us.length vs.length cy pb po zb zo b o (4 * i) (zo + 4 * i + 4) i) :=
        fun ta => alT_cons zb zo (by simp [adP]) (by simp [adP]) (alT_cons b o (by simp [adP]) (by simp [adP]) (fun r s q h => by simp [lookS] at h))
      have hvc : ((((True ∧ decide ((i : Int) < vs.length) = true) ∧ vcI us.length i (4 * i)) ∧ vcI us.length i (4 * i)) ∧ vcI vs.length i (4 * i)) ∧ φ us[i] vs[i] := ⟨⟨⟨⟨⟨trivial, decide_eq_true (by omega)⟩, vcI_mk hu⟩, vcI_mk hu⟩, vcI_mk hlt⟩, hφ i hu hlt⟩
      refine tri_post (tri_run (lookS_ok hE) follows (loc := (136, zb, zo + 4 * i) :: (137, zb, zo + 4 * i + 4) :: lAd pb po zb zo b o) (K := fun e τ' => e = .normal ∧ τ' = adQ (flatL ((List.zipWith op us vs).take i)) (op us[i] vs[i]).cells (flatL (us.drop (i + 1))) (flatL vs) us.length vs.length cy pb po zb zo b o (4 * i) (zo + 4 * i + 4) (IntKind.i64.wrap ((i : Int) + 1)))
        (fun g T => ad_go (flatL vs) us.length vs.length cy pb po zb zo b o g T op φ (flatL ((List.zipWith op us vs).take i)) (flatL (us.drop (i + 1))) us[i] vs[i] (4 * i) (zo + 4 * i + 4) i) (by decide) hvc (hal _) (by exact ⟨flatL_flat _, flat4 _, flatL_flat _, flat_nil, fv, trivial⟩) ?_ ⟨rfl, rfl⟩) ?_
      · exact locK_cons 136 false (by simp) (by simp [adP]) (locK_cons 137 false (by simp) (by simp [adP]) (locK_cons 132 false (by simp) (by simp [adP]) (locK_cons 135 false (by simp) (by simp [adP]) (locK_cons 134 false (by simp) (by simp [adP]) (locK_nil _ _)))))
      · rintro x τ' ⟨rfl, rfl⟩
        have j1 := turn_join (τ := adQ (flatL ((List.zipWith op us vs).take i)) (op us[i] vs[i]).cells (flatL (us.drop (i + 1))) (flatL vs) us.length vs.length cy pb po zb zo b o (4 * i) (zo + 4 * i + 4) (IntKind.i64.wrap ((i : Int) + 1))) (r := 135) (q := 136) (q2 := 137) (f := true) (b := zb) (o := zo) (n1 := zo + 4 * i) (n2 := zo + 4 * i + 4)
          (A := flatL ((List.zipWith op us vs).take i)) (B := (op us[i] vs[i]).cells) (C := flatL (us.drop (i + 1))) rfl rfl rfl (by decide) (by decide) (by decide) (by simp [adQ]) (by simp [adQ]) (by simp [adQ]) (by rw [take_len (Nat.le_of_lt hw)]) (by rw [take_len (Nat.le_of_lt hw)]; rfl)
        have j2 := j1.trans (turn_view (m := 140) (keep := kAh) (L := [0, 11, 8, 113, 114]) (loc := lAd pb po zb zo b o) (fun g T => ad_v (flatL vs) us.length vs.length cy pb po zb zo b o g T (flatL ((List.zipWith op us vs).take i)) (op us[i] vs[i]).cells (flatL (us.drop (i + 1))) (4 * i) (zo + 4 * i + 4) (IntKind.i64.wrap ((i : Int) + 1))) (nt := 132) rfl (by decide) (by exact ⟨flat_parts, flat_nil, fv, trivial⟩) (locK_Ad fun x h => by
          simp only [adQ, List.mem_cons]
          exact .inr (.inr (by simpa using h))))
        refine ⟨_, j2, i + 1, hlt, by omega, ?_⟩
        have e1 : (op us[i] vs[i]) = (List.zipWith op us vs)[i] := by rw [List.getElem_zipWith]
        rw [e1, mix_next hw]
        have e2 := num_next (show i < 9223372036854775807 by omega)
        simp only [sAi]
        rw [show num (IntKind.i64.wrap ((i : Int) + 1)) = num ((i + 1 : Nat) : Int) from e2]
        rfl
    · have hie : i = vs.length := by omega
      subst hie
      refine tri_run ok follows (fun g T => ad_end (flatL vs) (flatL (mix (List.zipWith op us vs) us vs.length)) us.length vs.length cy pb po zb zo b o g T vs.length) (by decide) ⟨trivial, decide_eq_false (by omega)⟩ (alT_nil _ _ _) (by exact ⟨flatL_flat _, flat_nil, fv, trivial⟩) (loc := [(132, pb, po)]) (locK_cons 132 false (by simp) (by simp [adH]) (locK_nil _ _)) ?_
      exact ⟨rfl, rfl⟩

theorem adB_tri (hφ : ∀ (i : Nat) (h : i < us.length) (h' : i < vs.length), φ us[i] vs[i]) :
    Tri Try.prog (cAt cAd [1, 1, 1, 1]) (adT (flatL us) (flatL vs) us.length vs.length cx cy pb po) fun e τ' => e = .ret ∧ τ' = ⟨mkT 132 [(6, ptr 132)], mkT 140 [(132, true, [slc 135 us.length us.length]), (135, true, flatL (mix (List.zipWith op us vs) us vs.length))], [(132, pb, po)]⟩ := by
  have ok : ∀ {al ta}, EnvOK Try.prog (lookS [] al ta) := lookS_ok env_nil
  have fu := flatL_flat us
  have fv := flatL_flat vs
  have fz := flatL_flat (List.replicate us.length z4)
  have hm : vs.length ≤ 9223372036854775807 := by omega
  have hn' : us.length ≤ 9223372036854775807 := by omega
  have l0 : ∀ {n : Nat}, n ≤ 9223372036854775807 → 0 < n → (lenI 0 == lenI n) = false := fun h1 h2 => by rw [lenI_eq h1]; exact beq_false_of_ne (by show (0 : Int) ≠ _; omega)
  have lk : LocK kAd [(132, pb, po)] [(132, pb, po)] := locK_cons 132 false (by simp) (by simp) (locK_nil _ _)
  refine tri_next (τ1 := adT (flatL us) (flatL vs) us.length vs.length cx cy pb po) (by kernel_rfl) (tri_run ok follows (ad_5 _ _ _ _ cx cy pb po) (by decide) ⟨⟨⟨trivial, by decide⟩, hn'⟩, l0 hn' (by omega)⟩ (alT_nil _ _ _) ⟨flat_nil, fu, fv, trivial⟩ lk ⟨rfl, rfl⟩) ?_
  refine tri_next (τ1 := adT (flatL us) (flatL vs) us.length vs.length cx cy pb po) (by kernel_rfl) (tri_run ok follows (ad_12 _ _ _ _ cx cy pb po) (by decide) ⟨⟨⟨trivial, by decide⟩, hm⟩, l0 hm hpos⟩ (alT_nil _ _ _) ⟨flat_nil, fu, fv, trivial⟩ lk ⟨rfl, rfl⟩) ?_
  refine tri_next (τ1 := ⟨mkT 132 [(11, slc 135 us.length us.length), (0, ptr 132), (7, slc 133 us.length cx), (8, slc 134 vs.length cy)], mkT 140 (rAg (flatL (List.replicate us.length z4)) (flatL us) (flatL vs)), [(132, pb, po)]⟩) (by kernel_rfl) ?_ ?_
  · refine tri_region' (by kernel_rfl) ?_
    show TriL _ oAd20 oAd20.toList _ _
    rw [← List.take_append_drop 2 oAd20.toList]
    refine tril_run ok (ad_20 _ _ _ _ cx cy pb po) (by decide) ⟨trivial, hn'⟩ (alT_nil _ _ _) ⟨flat_nil, fu, fv, trivial⟩ lk ?_
    rw [lenI_eq hn']
    obtain ⟨o1, g1, d1, p1, e1⟩ := ops_drop ad_op20
    rw [e1]
    obtain ⟨ti, hi, _, hsz, hby⟩ := info_of ps_info
    refine tril_step (m := 140) (v' := slc 135 us.length us.length) (live := [(0, ptr 132), (7, slc 133 us.length cx), (8, slc 134 vs.length cy)]) (ks := [(108, 135, false, true, repL us.length z4.cells), (132, 132, false, true, [nilS]), (133, 133, false, false, flatL us), (134, 134, false, false, flatL vs)]) (loc := [(132, pb, po)])
      (steps_make (n := us.length) (d := 108) p1 ps_und ps_sz ps_zero hi (by decide) (by decide) (by decide) (by omega) (by omega) hn rfl rfl (fun g => rfl) (fun g => rfl) rfl (fun k hk => by
        simp only [List.mem_cons, List.not_mem_nil, or_false] at hk
        rcases hk with rfl | rfl | rfl | rfl
        · exact .inl ⟨rfl, rfl⟩
        · exact .inr ⟨show (132 : Nat) ≠ 108 by decide, rfl⟩
        · exact .inr ⟨show (133 : Nat) ≠ 108 by decide, rfl⟩
        · exact .inr ⟨show (134 : Nat) ≠ 108 by decide, rfl⟩)) d1 (fun g => by simp only [wantedS, g1]) (by rw [mkT_length]; decide) rfl (fun p hp => by
        simp only [List.mem_cons, List.not_mem_nil, or_false] at hp
        rcases hp with rfl | rfl | rfl
        · exact ⟨show (0 : Nat) ≠ 108 by decide, _, fun g => rfl, rfl⟩
        · exact ⟨show (7 : Nat) ≠ 108 by decide, _, fun g => rfl, rfl⟩
        · exact ⟨show (8 : Nat) ≠ 108 by decide, _, fun g => rfl, rfl⟩) (fun k hk => by
        simp only [List.mem_cons, List.not_mem_nil, or_false] at hk
        rcases hk with rfl | rfl | rfl | rfl
        · intro _; simp only; rw [repL_flat]; exact fz
        · exact fun _ => flat_nil
        · exact fun _ => fu
        · exact fun _ => fv) rfl (fun q b o h => by
        simp only [List.mem_cons, Prod.mk.injEq, List.not_mem_nil, or_false] at h
        obtain ⟨rfl, rfl, rfl⟩ := h
        exact ⟨132, false, by simp [keepOf], by simp⟩) ?_
    rw [repL_flat]
    have := tril_run (rest := []) (loc := [(132, pb, po)]) (K := fun τ' => Xt.normal = .normal ∧ τ' = ⟨mkT 132 [(11, slc 135 us.length us.length), (0, ptr 132), (7, slc 133 us.length cx), (8, slc 134 vs.length cy)], mkT 140 (rAg (flatL (List.replicate us.length z4)) (flatL us) (flatL vs)), [(132, pb, po)]⟩) ok (ad_20' (flatL us) (flatL vs) (flatL (List.replicate us.length z4)) us.length vs.length cx cy pb po) (by decide) trivial (alT_nil _ _ _) ⟨fz, flat_nil, fu, fv, trivial⟩ (locK_cons 132 false (by simp) (by simp) (locK_nil _ _)) (tril_nil ⟨rfl, rfl⟩)
    rw [List.append_nil] at this
    exact this
  refine tri_next (τ1 := ⟨mkT 132 [(0, ptr 132), (11, slc 135 us.length us.length), (8, slc 134 vs.length cy)], mkT 140 (rAh (flatL us) (flatL vs)), [(132, pb, po)]⟩) (by kernel_rfl) ?_ ?_
  · refine tri_region' (by kernel_rfl) ?_
    show TriL _ oAd21 oAd21.toList _ _
    rw [← List.take_append_drop 2 oAd21.toList]
    refine tril_run ok (ad_21 _ _ _ _ _ cx cy pb po) (by decide) trivial (alT_nil _ _ _) ⟨fz, flat_nil, fu, fv, trivial⟩ (loc := [(132, pb, po)]) (locK_cons 132 false (by simp) (by simp) (locK_nil _ _)) ?_
    obtain ⟨o1, g1, d1, p1, e1⟩ := ops_drop ad_op21
    rw [e1]
    obtain ⟨ti, hi, _, hsz, hby⟩ := info_of ps_info
    refine tril_step (m := 140) (v' := num us.length) (live := [(11, slc 135 us.length us.length), (0, ptr 132), (8, slc 134 vs.length cy)]) (ks := [(135, 135, false, true, flatL us), (132, 132, false, true, [nilS]), (134, 134, false, false, flatL vs)]) (loc := [(132, pb, po)])
      (steps_copy (n := us.length) (c := us.length) (c' := cx) (r := 135) (q := 133) (cs := flatL (List.replicate us.length z4)) (news := flatL us) (f := false) p1 ps_und hi rfl rfl (fun g => rfl) (fun g => rfl) rfl rfl (by rw [hsz, flatL_length]; simp; omega) (by rw [hsz, flatL_length]; omega) fu hn' (fun k hk => by
        simp only [List.mem_cons, List.not_mem_nil, or_false] at hk
        rcases hk with rfl | rfl | rfl
        · exact .inl ⟨rfl, rfl⟩
        · exact .inr ⟨show (132 : Nat) ≠ 135 by decide, rfl⟩
        · exact .inr ⟨show (134 : Nat) ≠ 135 by decide, rfl⟩)) d1 (fun g => by simp only [wantedS, g1]) (by rw [mkT_length]; decide) rfl (fun p hp => by
        simp only [List.mem_cons, List.not_mem_nil, or_false] at hp
        rcases hp with rfl | rfl | rfl
        · exact ⟨show (11 : Nat) ≠ 111 by decide, _, fun g => rfl, rfl⟩
        · exact ⟨show (0 : Nat) ≠ 111 by decide, _, fun g => rfl, rfl⟩
        · exact ⟨show (8 : Nat) ≠ 111 by decide, _, fun g => rfl, rfl⟩) (fun k hk => by
        simp only [List.mem_cons, List.not_mem_nil, or_false] at hk
        rcases hk with rfl | rfl | rfl
        · exact fun _ => fu
        · exact fun _ => flat_nil
        · exact fun _ => fv) rfl (fun q b o h => by
        simp only [List.mem_cons, Prod.mk.injEq, List.not_mem_nil, or_false] at h
        obtain ⟨rfl, rfl, rfl⟩ := h
        exact ⟨132, false, by simp [keepOf], by simp⟩) ?_
    have := tril_run (rest := []) (loc := [(132, pb, po)]) (K := fun τ' => Xt.normal = .normal ∧ τ' = ⟨mkT 132 [(0, ptr 132), (11, slc 135 us.length us.length), (8, slc 134 vs.length cy)], mkT 140 (rAh (flatL us) (flatL vs)), [(132, pb, po)]⟩) ok (ad_21' (flatL vs) (flatL us) us.length vs.length cy pb po) (by decide) trivial (alT_nil _ _ _) ⟨fu, flat_nil, fv, trivial⟩ (locK_cons 132 false (by simp) (by simp) (locK_nil _ _)) (tril_nil ⟨rfl, rfl⟩)
    rw [List.append_nil] at this
    exact this
  refine tri_next (τ1 := ⟨mkT 132 [(0, ptr 132), (11, slc 135 us.length us.length)], mkT 140 (rAh (flatL (mix (List.zipWith op us vs) us vs.length)) (flatL vs)), [(132, pb, po)]⟩) (by kernel_rfl) (adL_tri hE hle hn cy pb po hφ) ?_
  refine tri_next (τ1 := ⟨mkT 132 [(0, ptr 132)], mkT 140 [(132, true, [slc 135 us.length us.length]), (135, true, flatL (mix (List.zipWith op us vs) us vs.length))], [(132, pb, po)]⟩) (by kernel_rfl) (tri_run ok follows (ad_27 (flatL vs) (flatL (mix (List.zipWith op us vs) us vs.length)) us.length pb po) (by decide) trivial (alT_nil _ _ _) (by exact ⟨flatL_flat _, trivial⟩) (locK_cons 132 true (by simp) (by simp) (locK_nil _ _)) ⟨rfl, rfl⟩) ?_
  exact tri_run ok follows (ad_28 (flatL (mix (List.zipWith op us vs) us vs.length)) us.length pb po) (by decide) trivial (alT_nil _ _ _) (by exact ⟨flatL_flat _, trivial⟩) (locK_cons 132 true (by simp) (by simp) (locK_nil _ _)) ⟨rfl, rfl⟩
end

/-- The sum of two lists: number by number, and what is over of the longer one. -/
def sumL (op : L4 → L4 → L4) (xs ys : List L4) : List L4 := if xs.length < ys.length then mix (List.zipWith op ys xs) ys xs.length else mix (List.zipWith op xs ys) xs ys.length
theorem mix_length {us zs : List L4} {i : Nat} (h : i ≤ us.length) (h' : i ≤ zs.length) : (mix us zs i).length = zs.length := by
  unfold mix; rw [List.length_append, List.length_take, List.length_drop]; omega
theorem sumL_length (op : L4 → L4 → L4) (xs ys : List L4) : (sumL op xs ys).length = max xs.length ys.length := by
  unfold sumL
  split
  · rw [mix_length (by simp; omega) (by omega)]; omega
  · rw [mix_length (by simp; omega) (by omega)]; omega
theorem mix_ok {us zs : List L4} (h : okL us) (h' : okL zs) (i : Nat) : okL (mix us zs i) := fun x hx => by
  rcases List.mem_append.1 hx with hx | hx
  · exact h x (List.mem_of_mem_take hx)
  · exact h' x (List.mem_of_mem_drop hx)
theorem sumL_ok {op : L4 → L4 → L4} (h : ∀ x y, (op x y).ok) {xs ys : List L4} (hx : okL xs) (hy : okL ys) : okL (sumL op xs ys) := by
  unfold sumL
  split
  · exact mix_ok (zip_ok h _ _) hy _
  · exact mix_ok (zip_ok h _ _) hx _

theorem ad_tri {op : L4 → L4 → L4} {φ : L4 → L4 → Prop} (hE : ∀ q ∈ eAd op φ, SmOK Try.prog q.1 q.2) {xs ys : List L4} (hpx : 0 < xs.length) (hpy : 0 < ys.length) (hnx : xs.length ≤ 16777216) (hny : ys.length ≤ 16777216) (cx cy pb po b o b' o' : Nat)
    (hφ : ∀ x ∈ xs, ∀ y ∈ ys, φ x y ∧ φ y x) :
    Tri Try.prog cAd (adS (flatL xs) (flatL ys) xs.length ys.length cx cy pb po b o b' o') fun e τ' => e = .ret ∧ τ' = ⟨mkT 132 [(6, ptr 132)], mkT 140 [(132, true, [slc 135 (sumL op xs ys).length (sumL op xs ys).length]), (135, true, flatL (sumL op xs ys))], [(132, pb, po)]⟩ := by
  have ok : ∀ {al ta}, EnvOK Try.prog (lookS [] al ta) := lookS_ok env_nil
  have fx := flatL_flat xs
  have fy := flatL_flat ys
  have hx' : xs.length ≤ 9223372036854775807 := by omega
  have hy' : ys.length ≤ 9223372036854775807 := by omega
  have lk : LocK kAd [(132, pb, po)] [(132, pb, po)] := locK_cons 132 false (by simp) (by simp) (locK_nil _ _)
  refine tri_next (τ1 := ⟨mkT 132 [(0, ptr 132), (1, slc 133 xs.length cx), (2, slc 134 ys.length cy)], mkT 140 (rAd (flatL xs) (flatL ys)), [(132, pb, po)]⟩) (by kernel_rfl) (tri_run ok follows (ad_0 _ _ _ _ cx cy pb po b o b' o') (by decide) trivial (alT_nil _ _ _) ⟨flat_nil, fx, fy, trivial⟩ lk ⟨rfl, rfl⟩) ?_
  refine tri_next (τ1 := ⟨mkT 132 [(0, ptr 132), (2, slc 134 ys.length cy), (7, slc 133 xs.length cx)], mkT 140 (rAd (flatL xs) (flatL ys)), [(132, pb, po)]⟩) (by kernel_rfl) (tri_run ok follows (ad_1 _ _ _ _ cx cy pb po) (by decide) trivial (alT_nil _ _ _) ⟨flat_nil, fx, fy, trivial⟩ lk ⟨rfl, rfl⟩) ?_
  refine tri_next (τ1 := ⟨mkT 132 [(0, ptr 132), (7, slc 133 xs.length cx), (8, slc 134 ys.length cy)], mkT 140 (rAd (flatL xs) (flatL ys)), [(132, pb, po)]⟩) (by kernel_rfl) (tri_run ok follows (ad_2 _ _ _ _ cx cy pb po) (by decide) trivial (alT_nil _ _ _) ⟨flat_nil, fx, fy, trivial⟩ lk ⟨rfl, rfl⟩) ?_
  by_cases hlt : xs.length < ys.length
  · have es : sumL op xs ys = mix (List.zipWith op ys xs) ys xs.length := by unfold sumL; rw [if_pos hlt]
    have el : (sumL op xs ys).length = ys.length := by rw [sumL_length]; omega
    refine tri_next (τ1 := adT (flatL ys) (flatL xs) ys.length xs.length cy cx pb po) (by kernel_rfl) (tri_run ok follows (ad_3' _ _ _ _ cx cy pb po) (by decide) ⟨⟨⟨trivial, hx'⟩, hy'⟩, decide_eq_true (by rw [lenI_eq hx', lenI_eq hy']; omega)⟩ (alT_nil _ _ _) ⟨flat_nil, fx, fy, trivial⟩ (locK_cons 132 false (by simp) (by simp) (locK_nil _ _)) ⟨rfl, rfl⟩) ?_
    rw [el, es]
    exact adB_tri hE (Nat.le_of_lt hlt) hpx hny cy cx pb po fun i h h' => (hφ _ (List.getElem_mem h') _ (List.getElem_mem h)).2
  · have es : sumL op xs ys = mix (List.zipWith op xs ys) xs ys.length := by unfold sumL; rw [if_neg hlt]
    have el : (sumL op xs ys).length = xs.length := by rw [sumL_length]; omega
    refine tri_next (τ1 := adT (flatL xs) (flatL ys) xs.length ys.length cx cy pb po) (by kernel_rfl) (tri_run ok follows (ad_3 _ _ _ _ cx cy pb po) (by decide) ⟨⟨⟨trivial, hx'⟩, hy'⟩, decide_eq_false (by rw [lenI_eq hx', lenI_eq hy']; omega)⟩ (alT_nil _ _ _) ⟨flat_nil, fx, fy, trivial⟩ lk ⟨rfl, rfl⟩) ?_
    rw [el, es]
    exact adB_tri hE (by omega) hpy hnx cx cy pb po fun i h h' => (hφ _ (List.getElem_mem h) _ (List.getElem_mem h')).1

/-- What such a call leaves: the cell of the first leads to a new row with the numbers. -/
def HungR (v : Value) (pb po : Nat) (us : List L4) (w : World) : Ending → World → Prop := fun e w' =>
  e = .returned v ∧ Fr (fun k j => k = pb ∧ j = po) w w' ∧ ∃ nb no, w.heap.size ≤ nb ∧ w'.cell? ⟨pb, po, none⟩ = some (.slice (some ⟨nb, no, none⟩) us.length us.length) ∧ Holds w' ⟨nb, no, none⟩ (flatL us) ∧ Free w' ⟨nb, no, none⟩ (flatL us).length
theorem addm_ok (m x y : L4) : (addm m x y).ok := lim_ok _
theorem ad_calls {xs ys : List L4} (hx : okL xs) (hy : okL ys) (hpx : 0 < xs.length) (hpy : 0 < ys.length) (hnx : xs.length ≤ 16777216) (hny : ys.length ≤ 16777216) (hφ : ∀ x ∈ xs, ∀ y ∈ ys, lowm rL x y ∧ lowm rL y x) {w : World} {cx cy pb po b o b' o' : Nat}
    (hc : w.cell? ⟨pb, po, none⟩ = some nilS) (hfz : w.frozen? ⟨pb, po, none⟩ = false) (h1 : ListIn w b o xs) (h2 : ListIn w b' o' ys) (d1 : ∀ j, j < (flatL xs).length → pb ≠ b ∨ po ≠ o + j) (d2 : ∀ j, j < (flatL ys).length → pb ≠ b' ∨ po ≠ o' + j) :
    Calls Try.prog 53 #[.pointer (some ⟨pb, po, none⟩), .slice (some ⟨b, o, none⟩) xs.length cx, .slice (some ⟨b', o', none⟩) ys.length cy] w
      (HungR (.pointer (some ⟨pb, po, none⟩)) pb po (sumL (addm rL) xs ys) w) := by
  have hf : Try.prog.funcs[53]? = some Try.f53 := by kernel_rfl
  have hb : Try.f53.body = some cAd := by kernel_rfl
  have h0' := start_gen (nt := 132) (vs := [ptr 132, slc 133 xs.length cx, slc 134 ys.length cy]) (rs := [(pb, po, true, [nilS]), (b, o, false, flatL xs), (b', o', false, flatL ys)]) (w := w) (W := fun k j => k = pb ∧ j = po) (loc := [(132, pb, po)])
    (fun v hv => by
      simp only [List.mem_cons, List.not_mem_nil, or_false] at hv
      rcases hv with rfl | rfl | rfl
      · exact ⟨rfl, hpA_pres (j := 0) (by simp)⟩
      · exact ⟨rfl, hpA_pres (nt := 132) (j := 1) (by simp)⟩
      · exact ⟨rfl, hpA_pres (nt := 132) (j := 2) (by simp)⟩)
    (fun j c1 d f cs hj => by
      rcases three_of hj with ⟨he, _⟩ | ⟨he, _⟩ | ⟨he, _⟩ <;> simp only [Prod.mk.injEq] at he <;> obtain ⟨rfl, rfl, rfl, rfl⟩ := he
      · refine ⟨fun v hv => ?_, fun i v hi => ?_⟩
        · simp only [List.mem_cons, List.not_mem_nil, or_false] at hv
          subst hv
          trivial
        · cases i with
          | succ i => simp at hi
          | zero =>
            simp only [List.getElem?_cons_zero, Option.some.injEq] at hi
            subst hi
            exact hc
      · exact ⟨flatL_ok0 hx _, fun i v hi => by rw [flatL_flat xs v (List.mem_of_getElem? hi)]; exact h1 i v hi⟩
      · exact ⟨flatL_ok0 hy _, fun i v hi => by rw [flatL_flat ys v (List.mem_of_getElem? hi)]; exact h2 i v hi⟩)
    (fun j c1 d cs hj i hi => by
      rcases three_of hj with ⟨he, _⟩ | ⟨he, _⟩ | ⟨he, _⟩ <;> simp only [Prod.mk.injEq, Bool.true_eq_false, false_and, and_false] at he
      obtain ⟨rfl, rfl, _, rfl⟩ := he
      have : i = 0 := by simp at hi; omega
      subst this
      exact ⟨hfz, rfl, rfl⟩)
    (fun j j' b1 o1 b2 o2 f f' c1 c2 hne e1 e2 hf i i' hi hi' => by
      rcases three_of e1 with ⟨h3, k1⟩ | ⟨h3, k1⟩ | ⟨h3, k1⟩ <;> rcases three_of e2 with ⟨h4, k2⟩ | ⟨h4, k2⟩ | ⟨h4, k2⟩ <;> simp only [Prod.mk.injEq] at h3 h4 <;> obtain ⟨rfl, rfl, rfl, rfl⟩ := h3 <;> obtain ⟨rfl, rfl, rfl, rfl⟩ := h4 <;> first | (exact absurd hf (by decide)) | (exact absurd (k1.trans k2.symm) hne) | skip
      · have : i = 0 := by simp at hi; omega
        subst this
        exact d1 i' hi'
      · have : i = 0 := by simp at hi; omega
        subst this
        exact d2 i' hi'
      · have : i' = 0 := by simp at hi'; omega
        subst this
        rcases d1 i hi with h | h
        · exact .inl (Ne.symm h)
        · exact .inr (Ne.symm h)
      · have : i' = 0 := by simp at hi'; omega
        subst this
        rcases d2 i hi with h | h
        · exact .inl (Ne.symm h)
        · exact .inr (Ne.symm h))
    (fun q c1 d hq => by
      simp only [List.mem_cons, Prod.mk.injEq, List.not_mem_nil, or_false] at hq
      obtain ⟨rfl, rfl, rfl⟩ := hq
      exact ⟨0, _, _, rfl, rfl⟩)
  refine calls_of_tri hf hb (args := #[.pointer (some ⟨pb, po, none⟩), .slice (some ⟨b, o, none⟩) xs.length cx, .slice (some ⟨b', o', none⟩) ys.length cy]) h0' (ad_tri (op := addm rL) (φ := lowm rL) (env_M ac_frAdd env_nil) hpx hpy hnx hny cx cy pb po b o b' o' hφ) ?_
  rintro e τ' ⟨rfl, rfl⟩
  refine ⟨by simp, fun a' w' hs => ?_⟩
  obtain ⟨g, T, ρ, k1, k2, k3, k4⟩ := results_of (P := Try.prog) (fn := Try.f53) (v := ptr 132) (fun g T => by
    generalize flatL (sumL (addm rL) xs ys) = us
    generalize (sumL (addm rL) xs ys).length = n
    kernel_rfl) hs
  have hpos : 0 < (flatL (sumL (addm rL) xs ys)).length := by rw [flatL_length, sumL_length]; omega
  have r132 := (k2 132 pb po (by simp)).1
  refine ⟨_, k4, by simp [ren, ren1, ren0, rena, r132], k1.inv.fr, (ρ 135).1, (ρ 135).2, ?_, ?_, fun i v hi => ?_, fun i hi => (k1.inv.own 135 (flatL (sumL (addm rL) xs ys)) rfl i hi).1⟩
  · rcases (k1.inv.own 135 (flatL (sumL (addm rL) xs ys)) rfl 0 hpos).2 with h | ⟨h, h'⟩
    · exact h
    · exfalso
      rcases k1.inv.dis 135 132 true (flatL (sumL (addm rL) xs ys)) true [slc 135 (sumL (addm rL) xs ys).length (sumL (addm rL) xs ys).length] (by decide) rfl rfl rfl 0 0 hpos (by simp) with h3 | h3
      · rw [r132] at h3; exact h3 h
      · rw [r132] at h3; exact h3 h'
  · have := k1.inv.cell 132 true [slc 135 (sumL (addm rL) xs ys).length (sumL (addm rL) xs ys).length] rfl 0 _ rfl
    rw [r132] at this
    exact this
  · have := k1.inv.cell 135 true (flatL (sumL (addm rL) xs ys)) rfl i v hi
    rwa [flatL_flat _ v (List.mem_of_getElem? hi)] at this
end Go.Proofs.Ytbbifiogcpcpfaa
