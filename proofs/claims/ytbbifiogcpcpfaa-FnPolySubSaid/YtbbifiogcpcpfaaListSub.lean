/-
  polynomial.Polynomial.Sub, of lists of as many numbers.
-/
import Derived.Test.YtbbifiogcpcpfaaListCom
namespace Go.Proofs.Ytbbifiogcpcpfaa
open Vm

noncomputable abbrev cSb : Code := bodyOf Try.f50
noncomputable abbrev cSbb : Code := cAt cSb [1, 1, 0, 1]
noncomputable abbrev cSbr : Code := cAt cSbb [0, 0]
abbrev kSb : Keep := [(43, 43, true), (44, 44, false), (45, 45, false), (46, 46, false)]
abbrev kSp : Keep := [(43, 43, true), (44, 44, false), (47, 47, false), (48, 48, false), (45, 45, false), (46, 46, false)]
abbrev eSb (op : L4 → L4 → L4) (φ : L4 → L4 → Prop) : List (Nat × Sm) := [eM 64 [.W 4, .R 4, .R 4] (rWRR c4 op φ)]
structure SbL where
  pb : Nat
  po : Nat
  zb : Nat
  zo : Nat
  b : Nat
  o : Nat
  b' : Nat
  o' : Nat
def SbL.l (p : SbL) : List (Nat × Nat × Nat) := [(43, p.pb, p.po), (44, p.zb, p.zo), (45, p.b, p.o), (46, p.b', p.o')]
abbrev rSb (zs xs ys : List Value) (n cz : Nat) : List (Nat × Bool × List Value) := [(43, false, [slc 44 n cz]), (44, true, zs), (45, false, xs), (46, false, ys)]
abbrev sSb (n cx cy : Nat) : List (Nat × Value) := [(0, ptr 43), (1, slc 45 n cx), (2, slc 46 n cy)]
abbrev sSi (n cx cy : Nat) (i : Int) : List (Nat × Value) := [(0, ptr 43), (1, slc 45 n cx), (2, slc 46 n cy), (25, num n), (26, num i)]
def sbS (zs xs ys : List Value) (n cz cx cy : Nat) (p : SbL) : TS := ⟨[ptr 43, slc 45 n cx, slc 46 n cy].map some ++ List.replicate (43 - 3) none, hpA 43 [(p.pb, p.po, false, [slc 44 n cz]), (p.zb, p.zo, true, zs), (p.b, p.o, false, xs), (p.b', p.o', false, ys)], p.l⟩
def sbT (zs xs ys : List Value) (n cz cx cy : Nat) (p : SbL) : TS := ⟨mkT 43 (sSb n cx cy), mkT 51 (rSb zs xs ys n cz), p.l⟩
def sbH (zs xs ys : List Value) (n cz cx cy : Nat) (p : SbL) (i : Int) : TS := ⟨mkT 43 (sSi n cx cy i), mkT 51 (rSb zs xs ys n cz), p.l⟩
def sbP (A C xs ys : List Value) (z x y : L4) (n cz cx cy : Nat) (p : SbL) (s s2 : Nat) (i : Int) : TS :=
  ⟨mkT 43 (sSi n cx cy i), mkT 51 [(43, false, [slc 44 n cz]), (44, true, A), (45, false, xs), (46, false, ys), (47, true, z.cells), (48, true, C), (49, false, x.cells), (50, false, y.cells)],
    (50, p.b', p.o' + s) :: (49, p.b, p.o + s) :: (47, p.zb, p.zo + s) :: (48, p.zb, s2) :: p.l⟩
abbrev rSp (A N C xs ys : List Value) (n cz : Nat) : List (Nat × Bool × List Value) := [(43, false, [slc 44 n cz]), (44, true, A), (47, true, N), (48, true, C), (45, false, xs), (46, false, ys)]
def sbQ (A N C xs ys : List Value) (n cz cx cy : Nat) (p : SbL) (s s2 : Nat) (i : Int) : TS := ⟨mkT 43 (sSi n cx cy i), mkT 51 (rSp A N C xs ys n cz), (47, p.zb, p.zo + s) :: (48, p.zb, s2) :: p.l⟩
section
variable (zs xs ys : List Value) (n cz cx cy : Nat) (p : SbL) (g : Nat → Value) (T : Hp)
theorem sb_0 : runV Try.prog (lookS [] [] []) 1 (cAt cSb [0]) ((sbS zs xs ys n cz cx cy p).fill g T) 43 51 kSb [0, 1, 2] = some ⟨.normal, sSb n cx cy, rSb zs xs ys n cz, True⟩ := by kernel_rfl
theorem sb_1 : runV Try.prog (lookS [] [] [(12, false), (20, false)]) 1 (cAt cSb [1, 0]) ((sbT zs xs ys n cz cx cy p).fill g T) 43 51 kSb [0, 1, 2] =
    some ⟨.normal, sSb n cx cy, rSb zs xs ys n cz, (((((True ∧ n ≤ 9223372036854775807) ∧ n ≤ 9223372036854775807) ∧ (lenI n != lenI n) = false) ∧ n ≤ 9223372036854775807) ∧ n ≤ 9223372036854775807) ∧ (lenI n != lenI n) = false⟩ := by kernel_rfl
theorem sb_2 : runV Try.prog (lookS [] [] []) 1 (cAt cSb [1, 1, 0, 0]) ((sbT zs xs ys n cz cx cy p).fill g T) 43 51 kSb [0, 1, 2, 25, 26] =
    some ⟨.normal, [(0, ptr 43), (1, slc 45 n cx), (2, slc 46 n cy), (25, num (lenI n)), (26, num 0)], rSb zs xs ys n cz, True ∧ n ≤ 9223372036854775807⟩ := by kernel_rfl
theorem sb_go (op : L4 → L4 → L4) (φ : L4 → L4 → Prop) (A C : List Value) (z x y : L4) (s s2 : Nat) (i : Int) :
    runV Try.prog (lookS (eSb op φ) [(44, s, 47), (45, s, 49), (46, s, 50)] [(27, true)]) 1 cSbr ((sbP A C xs ys z x y n cz cx cy p s s2 i).fill g T) 43 51 kSp [0, 1, 2, 25, 26] =
      some ⟨.normal, sSi n cx cy (IntKind.i64.wrap (i + 1)), rSp A (op x y).cells C xs ys n cz, ((((True ∧ decide (i < n) = true) ∧ vcI n i s) ∧ vcI n i s) ∧ vcI n i s) ∧ φ x y⟩ := by kernel_rfl
theorem sb_end (i : Int) : runV Try.prog (lookS [] [] [(27, false)]) 1 cSbr ((sbH zs xs ys n cz cx cy p i).fill g T) 43 51 kSb [0] = some ⟨.exit 0, [(0, ptr 43)], rSb zs xs ys n cz, True ∧ decide (i < n) = false⟩ := by kernel_rfl
theorem sb_3 : runV Try.prog (lookS [] [] []) 1 (cAt cSb [1, 1, 1]) ((⟨mkT 43 [(0, ptr 43)], mkT 51 (rSb zs xs ys n cz), p.l⟩ : TS).fill g T) 43 51 kSb [6] = some ⟨.ret, [(6, ptr 43)], rSb zs xs ys n cz, True⟩ := by kernel_rfl
theorem sb_v (A N C : List Value) (s s2 : Nat) (i : Int) : viewK 51 kSb [0, 1, 2, 25, 26] .normal
    ((⟨(sbQ A N C xs ys n cz cx cy p s s2 i).tm, (((sbQ A N C xs ys n cz cx cy p s s2 i).hp.set 44 (some (true, A ++ (N ++ C)))).set 47 (some (false, []))).set 48 (some (false, [])), (sbQ A N C xs ys n cz cx cy p s s2 i).loc⟩ : TS).fill g T) =
      some ⟨.normal, sSi n cx cy i, rSb (A ++ (N ++ C)) xs ys n cz, True⟩ := by kernel_rfl
end
theorem locK_Sb (p : SbL) {l : List (Nat × Nat × Nat)} (h : ∀ x ∈ p.l, x ∈ l) : LocK kSb l p.l :=
  locK_cons 43 true (by simp) (h _ (by simp [SbL.l])) (locK_cons 44 false (by simp) (h _ (by simp [SbL.l])) (locK_cons 45 false (by simp) (h _ (by simp [SbL.l])) (locK_cons 46 false (by simp) (h _ (by simp [SbL.l])) (locK_nil _ _))))
theorem sb_turn {us zs xs ys : List L4} {n cz cx cy : Nat} {p : SbL} {i : Nat} (hu : i < us.length) (hz : i < zs.length) (hx : i < xs.length) (hy : i < ys.length) :
    Turns (sbH (flatL (mix us zs i)) (flatL xs) (flatL ys) n cz cx cy p i) (sbP (flatL (us.take i)) (flatL (zs.drop (i + 1))) (flatL xs) (flatL ys) zs[i] xs[i] ys[i] n cz cx cy p (4 * i) (p.zo + 4 * i + 4) i) := by
  have t1 := turn_part (τ := sbH (flatL (mix us zs i)) (flatL xs) (flatL ys) n cz cx cy p i) (r := 44) (q := 47) (q2 := 48) (f := true) (b := p.zb) (o := p.zo) (A := flatL (us.take i)) (B := zs[i].cells) (C := flatL (zs.drop (i + 1)))
    (by rw [← mix_at hz]; rfl) rfl rfl (by decide) (by simp [sbH, SbL.l])
  rw [take_len (Nat.le_of_lt hu)] at t1
  have t2 := turn_peek (τ := ⟨mkT 43 (sSi n cx cy i), mkT 51 [(43, false, [slc 44 n cz]), (44, true, flatL (us.take i)), (45, false, flatL xs), (46, false, flatL ys), (47, true, zs[i].cells), (48, true, flatL (zs.drop (i + 1)))], (47, p.zb, p.zo + 4 * i) :: (48, p.zb, p.zo + 4 * i + 4) :: p.l⟩)
    (r := 45) (q := 49) (b := p.b) (o := p.o) (A := flatL (xs.take i)) (B := xs[i].cells) (C := flatL (xs.drop (i + 1))) (by rw [← flatL_at hx]; rfl) rfl (by simp [SbL.l])
  rw [take_len (Nat.le_of_lt hx)] at t2
  have t3 := turn_peek (τ := ⟨mkT 43 (sSi n cx cy i), mkT 51 [(43, false, [slc 44 n cz]), (44, true, flatL (us.take i)), (45, false, flatL xs), (46, false, flatL ys), (47, true, zs[i].cells), (48, true, flatL (zs.drop (i + 1))), (49, false, xs[i].cells)], (49, p.b, p.o + 4 * i) :: (47, p.zb, p.zo + 4 * i) :: (48, p.zb, p.zo + 4 * i + 4) :: p.l⟩)
    (r := 46) (q := 50) (b := p.b') (o := p.o') (A := flatL (ys.take i)) (B := ys[i].cells) (C := flatL (ys.drop (i + 1))) (by rw [← flatL_at hy]; rfl) rfl (by simp [SbL.l])
  rw [take_len (Nat.le_of_lt hy)] at t3
  exact fun w0 W a w hs => t3 w0 W a w (t2 w0 W a w (t1 w0 W a w hs))
theorem sb_tri {op : L4 → L4 → L4} {φ : L4 → L4 → Prop} (hE : ∀ q ∈ eSb op φ, SmOK Try.prog q.1 q.2) {zs xs ys : List L4} (hz : zs.length = xs.length) (he : xs.length = ys.length) (hφ : ∀ (i : Nat) (h : i < xs.length) (h' : i < ys.length), φ xs[i] ys[i]) (cz cx cy : Nat) (p : SbL) (hn : xs.length ≤ 9223372036854775807) :
    Tri Try.prog cSb (sbS (flatL zs) (flatL xs) (flatL ys) xs.length cz cx cy p) fun e τ' => e = .ret ∧ τ' = ⟨mkT 43 [(6, ptr 43)], mkT 51 (rSb (flatL (List.zipWith op xs ys)) (flatL xs) (flatL ys) xs.length cz), p.l⟩ := by
  have fx := flatL_flat xs
  have fy := flatL_flat ys
  have ok : ∀ {al ta}, EnvOK Try.prog (lookS [] al ta) := lookS_ok env_nil
  have lk : LocK kSb p.l p.l := locK_Sb p fun x h => h
  have hul : (List.zipWith op xs ys).length = xs.length := by simp [← he]
  refine tri_next (τ1 := sbT (flatL zs) (flatL xs) (flatL ys) xs.length cz cx cy p) (by kernel_rfl) (tri_run ok follows (sb_0 _ _ _ _ cz cx cy p) (by decide) trivial (alT_nil _ _ _) ⟨flatL_flat zs, fx, fy, trivial⟩ lk ⟨rfl, rfl⟩) ?_
  refine tri_next (τ1 := sbT (flatL zs) (flatL xs) (flatL ys) xs.length cz cx cy p) (by kernel_rfl) (tri_run ok follows (sb_1 _ _ _ _ cz cx cy p) (by decide) ⟨⟨⟨⟨⟨⟨trivial, hn⟩, hn⟩, by simp⟩, hn⟩, hn⟩, by simp⟩ (alT_nil _ _ _) ⟨flatL_flat zs, fx, fy, trivial⟩ lk ⟨rfl, rfl⟩) ?_
  refine tri_next (τ1 := ⟨mkT 43 [(0, ptr 43)], mkT 51 (rSb (flatL (List.zipWith op xs ys)) (flatL xs) (flatL ys) xs.length cz), p.l⟩) (by kernel_rfl) ?_ (tri_run ok follows (sb_3 _ _ _ _ cz p) (by decide) trivial (alT_nil _ _ _) ⟨flatL_flat _, fx, fy, trivial⟩ lk ⟨rfl, rfl⟩)
  refine tri_next (τ1 := sbH (flatL zs) (flatL xs) (flatL ys) xs.length cz cx cy p 0) (by kernel_rfl) (tri_run ok follows (sb_2 _ _ _ _ cz cx cy p) (by decide) ⟨trivial, hn⟩ (alT_nil _ _ _) ⟨flatL_flat zs, fx, fy, trivial⟩ lk ⟨rfl, by rw [lenI_eq hn]; rfl⟩) ?_
  refine tri_block' (by kernel_rfl) ?_
  have hloop := tri_loop' (P := Try.prog) (c := cFst cSbb) (K := fun e τ' => match e with
      | .exit i => if i = cId cSbb then (Xt.normal = .normal ∧ τ' = ⟨mkT 43 [(0, ptr 43)], mkT 51 (rSb (flatL (List.zipWith op xs ys)) (flatL xs) (flatL ys) xs.length cz), p.l⟩) else (Xt.exit i = .normal ∧ τ' = ⟨mkT 43 [(0, ptr 43)], mkT 51 (rSb (flatL (List.zipWith op xs ys)) (flatL xs) (flatL ys) xs.length cz), p.l⟩)
      | e => (e = .normal ∧ τ' = ⟨mkT 43 [(0, ptr 43)], mkT 51 (rSb (flatL (List.zipWith op xs ys)) (flatL xs) (flatL ys) xs.length cz), p.l⟩)) (S := Nat) (by kernel_rfl) (fun i => i ≤ xs.length) (fun i => sbH (flatL (mix (List.zipWith op xs ys) zs i)) (flatL xs) (flatL ys) xs.length cz cx cy p i) (fun i => xs.length - i) ?_ (s := 0) (Nat.zero_le _)
  · rw [mix_0] at hloop
    exact hloop
  · intro i hi
    by_cases hlt : i < xs.length
    · have hy : i < ys.length := he ▸ hlt
      have hu : i < (List.zipWith op xs ys).length := by rw [hul]; exact hlt
      have hz' : i < zs.length := by rw [hz]; exact hlt
      refine tri_turn (sb_turn hu hz' hlt hy) ?_
      have hal : ∀ ta, AlT (lookS (eSb op φ) [(44, 4 * i, 47), (45, 4 * i, 49), (46, 4 * i, 50)] ta) (sbP (flatL ((List.zipWith op xs ys).take i)) (flatL (zs.drop (i + 1))) (flatL xs) (flatL ys) zs[i] xs[i] ys[i] xs.length cz cx cy p (4 * i) (p.zo + 4 * i + 4) i) :=
        fun ta => alT_cons p.zb p.zo (by simp [sbP, SbL.l]) (by simp [sbP]) (alT_cons p.b p.o (by simp [sbP, SbL.l]) (by simp [sbP]) (alT_cons p.b' p.o' (by simp [sbP, SbL.l]) (by simp [sbP]) (fun r s q h => by simp [lookS] at h)))
      have hvc : ((((True ∧ decide ((i : Int) < xs.length) = true) ∧ vcI xs.length i (4 * i)) ∧ vcI xs.length i (4 * i)) ∧ vcI xs.length i (4 * i)) ∧ φ xs[i] ys[i] := ⟨⟨⟨⟨⟨trivial, decide_eq_true (by omega)⟩, vcI_mk hlt⟩, vcI_mk hlt⟩, vcI_mk hlt⟩, hφ i hlt hy⟩
      refine tri_post (tri_run (lookS_ok hE) follows (loc := (47, p.zb, p.zo + 4 * i) :: (48, p.zb, p.zo + 4 * i + 4) :: p.l) (K := fun e τ' => e = .normal ∧ τ' = sbQ (flatL ((List.zipWith op xs ys).take i)) (op xs[i] ys[i]).cells (flatL (zs.drop (i + 1))) (flatL xs) (flatL ys) xs.length cz cx cy p (4 * i) (p.zo + 4 * i + 4) (IntKind.i64.wrap ((i : Int) + 1))) (fun g T => sb_go (flatL xs) (flatL ys) xs.length cz cx cy p g T op φ (flatL ((List.zipWith op xs ys).take i)) (flatL (zs.drop (i + 1))) zs[i] xs[i] ys[i] (4 * i) (p.zo + 4 * i + 4) i) (by decide) hvc (hal _) (by exact ⟨flatL_flat _, flat4 _, flatL_flat _, fx, fy, trivial⟩) ?_ ⟨rfl, rfl⟩) ?_
      · exact locK_cons 47 false (by simp) (by simp [sbP]) (locK_cons 48 false (by simp) (by simp [sbP]) (locK_cons 43 true (by simp) (by simp [sbP, SbL.l]) (locK_cons 44 false (by simp) (by simp [sbP, SbL.l]) (locK_cons 45 false (by simp) (by simp [sbP, SbL.l]) (locK_cons 46 false (by simp) (by simp [sbP, SbL.l]) (locK_nil _ _))))))
      · rintro x τ' ⟨rfl, rfl⟩
        have j1 := turn_join (τ := sbQ (flatL ((List.zipWith op xs ys).take i)) (op xs[i] ys[i]).cells (flatL (zs.drop (i + 1))) (flatL xs) (flatL ys) xs.length cz cx cy p (4 * i) (p.zo + 4 * i + 4) (IntKind.i64.wrap ((i : Int) + 1))) (r := 44) (q := 47) (q2 := 48) (f := true) (b := p.zb) (o := p.zo) (n1 := p.zo + 4 * i) (n2 := p.zo + 4 * i + 4)
          (A := flatL ((List.zipWith op xs ys).take i)) (B := (op xs[i] ys[i]).cells) (C := flatL (zs.drop (i + 1))) rfl rfl rfl (by decide) (by decide) (by decide) (by simp [sbQ, SbL.l]) (by simp [sbQ]) (by simp [sbQ]) (by rw [take_len (Nat.le_of_lt hu)]) (by rw [take_len (Nat.le_of_lt hu)]; rfl)
        have j2 := j1.trans (turn_view (m := 51) (keep := kSb) (L := [0, 1, 2, 25, 26]) (loc := p.l) (fun g T => sb_v (flatL xs) (flatL ys) xs.length cz cx cy p g T (flatL ((List.zipWith op xs ys).take i)) (op xs[i] ys[i]).cells (flatL (zs.drop (i + 1))) (4 * i) (p.zo + 4 * i + 4) (IntKind.i64.wrap ((i : Int) + 1))) (nt := 43) rfl (by decide) (by exact ⟨flat_parts, fx, fy, trivial⟩) (locK_Sb p fun x h => by simp [sbQ, h]))
        refine ⟨_, j2, i + 1, hlt, by omega, ?_⟩
        have e1 : (op xs[i] ys[i]) = (List.zipWith op xs ys)[i] := by rw [List.getElem_zipWith]
        rw [e1, mix_next hu]
        have e2 := num_next (show i < 9223372036854775807 by omega)
        simp only [sSi]
        rw [show num (IntKind.i64.wrap ((i : Int) + 1)) = num ((i + 1 : Nat) : Int) from e2]
        rfl
    · have hie : i = xs.length := by omega
      subst hie
      rw [mix_all (by omega) (by omega)]
      refine tri_run ok follows (fun g T => sb_end _ _ _ _ cz cx cy p g T _) (by decide) ⟨trivial, decide_eq_false (by omega)⟩ (alT_nil _ _ _) ⟨flatL_flat _, fx, fy, trivial⟩ lk ?_
      exact ⟨rfl, rfl⟩
theorem subm_ok (m x y : L4) : (subm m x y).ok := lim_ok _
theorem sb_calls {zs xs ys : List L4} (hz0 : okL zs) (hx : okL xs) (hy : okL ys) (hφ : ∀ (i : Nat) (h : i < xs.length) (h' : i < ys.length), lowm rL xs[i] ys[i]) (hz : zs.length = xs.length) (he : xs.length = ys.length) (hn : xs.length ≤ 9223372036854775807) {w : World} {cz cx cy : Nat} {p : SbL}
    (hc : w.cell? ⟨p.pb, p.po, none⟩ = some (.slice (some ⟨p.zb, p.zo, none⟩) xs.length cz)) (h0 : ListIn w p.zb p.zo zs) (h1 : ListIn w p.b p.o xs) (h2 : ListIn w p.b' p.o' ys)
    (hfz : ∀ i, i < (flatL zs).length → w.frozen? ⟨p.zb, p.zo + i, none⟩ = false) (d0 : ∀ i, i < (flatL zs).length → p.zb ≠ p.pb ∨ p.zo + i ≠ p.po)
    (d1 : ∀ i j, i < (flatL zs).length → j < (flatL xs).length → p.zb ≠ p.b ∨ p.zo + i ≠ p.o + j) (d2 : ∀ i j, i < (flatL zs).length → j < (flatL ys).length → p.zb ≠ p.b' ∨ p.zo + i ≠ p.o' + j) :
    Calls Try.prog 50 #[.pointer (some ⟨p.pb, p.po, none⟩), .slice (some ⟨p.b, p.o, none⟩) xs.length cx, .slice (some ⟨p.b', p.o', none⟩) xs.length cy] w
      (WroteR (.pointer (some ⟨p.pb, p.po, none⟩)) p.zb p.zo (List.zipWith (subm rL) xs ys) w) := by
  have hf : Try.prog.funcs[50]? = some Try.f50 := by kernel_rfl
  have hb : Try.f50.body = some cSb := by kernel_rfl
  have hul : (flatL (List.zipWith (subm rL) xs ys)).length = (flatL zs).length := by rw [flatL_length, flatL_length, hz]; simp [← he]
  have h0' := start_gen (nt := 43) (vs := [ptr 43, slc 45 xs.length cx, slc 46 xs.length cy]) (rs := [(p.pb, p.po, false, [slc 44 xs.length cz]), (p.zb, p.zo, true, flatL zs), (p.b, p.o, false, flatL xs), (p.b', p.o', false, flatL ys)]) (w := w)
    (W := fun k j => k = p.zb ∧ ∃ i, i < (flatL (List.zipWith (subm rL) xs ys)).length ∧ j = p.zo + i) (loc := p.l)
    (fun v hv => by
      simp only [List.mem_cons, List.not_mem_nil, or_false] at hv
      rcases hv with rfl | rfl | rfl
      · exact ⟨rfl, hpA_pres (j := 0) (by simp)⟩
      · exact ⟨rfl, hpA_pres (nt := 43) (j := 2) (by simp)⟩
      · exact ⟨rfl, hpA_pres (nt := 43) (j := 3) (by simp)⟩)
    (fun j c1 d f cs hj => by
      rcases four_of hj with ⟨he, _⟩ | ⟨he, _⟩ | ⟨he, _⟩ | ⟨he, _⟩ <;> simp only [Prod.mk.injEq] at he <;> obtain ⟨rfl, rfl, rfl, rfl⟩ := he
      · refine ⟨fun v hv => ?_, fun i v hi => ?_⟩
        · simp only [List.mem_cons, List.not_mem_nil, or_false] at hv
          subst hv
          exact ⟨rfl, hpA_pres (nt := 43) (j := 1) (by simp)⟩
        · cases i with
          | succ i => simp at hi
          | zero =>
            simp only [List.getElem?_cons_zero, Option.some.injEq] at hi
            subst hi
            exact hc
      · exact ⟨flatL_ok0 hz0 _, fun i v hi => by rw [flatL_flat zs v (List.mem_of_getElem? hi)]; exact h0 i v hi⟩
      · exact ⟨flatL_ok0 hx _, fun i v hi => by rw [flatL_flat xs v (List.mem_of_getElem? hi)]; exact h1 i v hi⟩
      · exact ⟨flatL_ok0 hy _, fun i v hi => by rw [flatL_flat ys v (List.mem_of_getElem? hi)]; exact h2 i v hi⟩)
    (fun j c1 d cs hj i hi => by
      rcases four_of hj with ⟨he, _⟩ | ⟨he, _⟩ | ⟨he, _⟩ | ⟨he, _⟩ <;> simp only [Prod.mk.injEq, Bool.true_eq_false, false_and, and_false] at he
      obtain ⟨rfl, rfl, _, rfl⟩ := he
      exact ⟨hfz i hi, rfl, i, by rw [hul]; exact hi, rfl⟩)
    (fun j j' b1 o1 b2 o2 f f' c1 c2 hne e1 e2 hf i i' hi hi' => by
      rcases four_of e1 with ⟨h3, k1⟩ | ⟨h3, k1⟩ | ⟨h3, k1⟩ | ⟨h3, k1⟩ <;> rcases four_of e2 with ⟨h4, k2⟩ | ⟨h4, k2⟩ | ⟨h4, k2⟩ | ⟨h4, k2⟩ <;> simp only [Prod.mk.injEq] at h3 h4 <;> obtain ⟨rfl, rfl, rfl, rfl⟩ := h3 <;> obtain ⟨rfl, rfl, rfl, rfl⟩ := h4 <;> first | (exact absurd hf (by decide)) | (exact absurd (k1.trans k2.symm) hne) | skip
      · have : i = 0 := by simp at hi; omega
        subst this
        rcases d0 i' hi' with h | h
        · exact .inl (Ne.symm h)
        · exact .inr (fun e => h (by omega))
      · have : i' = 0 := by simp at hi'; omega
        subst this
        rcases d0 i hi with h | h
        · exact .inl h
        · exact .inr (fun e => h (by omega))
      · exact d1 i i' hi hi'
      · exact d2 i i' hi hi'
      · rcases d1 i' i hi' hi with h | h
        · exact .inl (Ne.symm h)
        · exact .inr (Ne.symm h)
      · rcases d2 i' i hi' hi with h | h
        · exact .inl (Ne.symm h)
        · exact .inr (Ne.symm h))
    (fun q c1 d hq => by
      simp only [SbL.l, List.mem_cons, Prod.mk.injEq, List.not_mem_nil, or_false] at hq
      rcases hq with ⟨rfl, rfl, rfl⟩ | ⟨rfl, rfl, rfl⟩ | ⟨rfl, rfl, rfl⟩ | ⟨rfl, rfl, rfl⟩
      · exact ⟨0, _, _, rfl, rfl⟩
      · exact ⟨1, _, _, rfl, rfl⟩
      · exact ⟨2, _, _, rfl, rfl⟩
      · exact ⟨3, _, _, rfl, rfl⟩)
  refine calls_of_tri hf hb (args := #[.pointer (some ⟨p.pb, p.po, none⟩), .slice (some ⟨p.b, p.o, none⟩) xs.length cx, .slice (some ⟨p.b', p.o', none⟩) xs.length cy]) h0'
    (sb_tri (op := subm rL) (φ := lowm rL) (env_M ac_frSub env_nil) hz he hφ cz cx cy p hn) ?_
  rintro e τ' ⟨rfl, rfl⟩
  refine ⟨by simp, fun a' w' hs => ?_⟩
  obtain ⟨g, T, ρ, k1, k2, k3, k4⟩ := results_of (P := Try.prog) (fn := Try.f50) (v := ptr 43) (fun g T => by
    generalize flatL (List.zipWith (subm rL) xs ys) = us
    kernel_rfl) hs
  have r43 := (k2 43 p.pb p.po (by simp [SbL.l])).1
  have r44 := (k2 44 p.zb p.zo (by simp [SbL.l])).1
  refine ⟨_, k4, by simp [ren, ren1, ren0, rena, r43], k1.inv.fr, fun i v hi => ?_⟩
  have := k1.inv.cell 44 true (flatL (List.zipWith (subm rL) xs ys)) rfl i v hi
  rw [r44, flatL_flat _ v (List.mem_of_getElem? hi)] at this
  exact this
end Go.Proofs.Ytbbifiogcpcpfaa
