/-
  The law FnPolySub holds whatever the input: the difference of two polynomials of as many numbers is that of their numbers.
-/
import Derived.Test.YtbbifiogcpcpfaaLawSub0
import Derived.Test.YtbbifiogcpcpfaaListPs
namespace Go.Proofs.Ytbbifiogcpcpfaa
open Vm

/-- A region is only read from now on. -/
theorem turn_read {τ : TS} {r : Nat} {cs : List Value} (hr : τ.hp[r]? = some (some (true, cs))) : Turns τ ⟨τ.tm, τ.hp.set r (some (false, cs)), τ.loc⟩ := by
  rintro w0 W a w ⟨g, T, ρ, hs, hl⟩
  have hr' : (τ.fill g T).hp[r]? = some (some (true, cs)) := get_append hr
  have hfill : (⟨τ.tm, τ.hp.set r (some (false, cs)), τ.loc⟩ : TS).fill g T = ⟨(τ.fill g T).tm, (τ.fill g T).hp.set r (some (false, cs)), True, 0⟩ := by simp only [TS.fill]; rw [set_append hr]
  have hm : mono (τ.fill g T).hp ((τ.fill g T).hp.set r (some (false, cs))) := mono_set
  have back : ∀ {k : Nat} {f : Bool} {ds : List Value}, ((τ.fill g T).hp.set r (some (false, cs)))[k]? = some (some (f, ds)) → ∃ f0, (τ.fill g T).hp[k]? = some (some (f0, ds)) ∧ (f = true → f0 = true) := by
    intro k f ds hk
    by_cases hkr : k = r
    · subst hkr
      rw [get_set_same hr'] at hk
      simp only [Option.some.injEq, Prod.mk.injEq] at hk
      obtain ⟨rfl, rfl⟩ := hk
      exact ⟨true, hr', fun h => by cases h⟩
    · rw [get_set_other hkr] at hk
      exact ⟨f, hk, id⟩
  refine ⟨g, T, ρ, ?_, fun k b o hk => ⟨(hl k b o hk).1, mono_set _ (hl k b o hk).2⟩⟩
  rw [hfill]
  refine ⟨⟨fun v hv => (hs.ok.tm v hv).mono hm, fun k f ds hk v hv => ?_⟩, hs.tm, ?_⟩
  · obtain ⟨f0, h1, _⟩ := back hk
    exact (hs.ok.hp k f0 ds h1 v hv).mono hm
  · refine hs.inv.cover (fun k i => (k, i)) (fun k f ds hk i v hi => ?_) (fun k k' f ds f' ds' i i' hne _ _ _ _ _ h => hne (congrArg Prod.fst h))
    obtain ⟨f0, h1, h2⟩ := back hk
    exact ⟨f0, ds, v, h1, hi, rfl, h2, rfl, rfl⟩
def fsS (va vb : Value) (xs ys : List Value) (b o b' o' : Nat) : TS := ⟨[va, vb].map some ++ List.replicate (67 - 2) none, hpA 67 [(b, o, false, xs), (b', o', false, ys)], [(67, b, o), (68, b', o')]⟩
abbrev lim31 : Int := 2147483647
section
variable (qa qb : Option Addr) (na ca nb cb : Nat) (xs ys : List Value) (b o b' o' : Nat) (g : Nat → Value) (T : Hp)
theorem fs_A1 : runV Try.prog (lookS [] [] [(9, true)]) 1 cFs ((fsS (.slice qa na ca) (.slice qb nb cb) xs ys b o b' o').fill g T) 67 75 [] [4] = some ⟨.ret, [(4, .bool true)], [], (True ∧ na ≤ 9223372036854775807) ∧ decide (lenI na > lim31) = true⟩ := by kernel_rfl
theorem fs_A2 : runV Try.prog (lookS [] [] [(9, false), (13, true)]) 1 cFs ((fsS (.slice qa na ca) (.slice qb nb cb) xs ys b o b' o').fill g T) 67 75 [] [4] = some ⟨.ret, [(4, .bool true)], [], (((True ∧ na ≤ 9223372036854775807) ∧ decide (lenI na > lim31) = false) ∧ nb ≤ 9223372036854775807) ∧ decide (lenI nb > lim31) = true⟩ := by kernel_rfl
def vcFs (na nb : Nat) : Prop := ((((True ∧ na ≤ 9223372036854775807) ∧ decide (lenI na > lim31) = false) ∧ nb ≤ 9223372036854775807) ∧ decide (lenI nb > lim31) = false)
theorem fs_B1 : runV Try.prog (lookS [] [] [(9, false), (13, false), (17, true)]) 1 cFs ((fsS (.slice qa na ca) (.slice qb nb cb) xs ys b o b' o').fill g T) 67 75 [] [4] = some ⟨.ret, [(4, .bool true)], [], (vcFs na nb ∧ na ≤ 9223372036854775807) ∧ (lenI na == 0) = true⟩ := by kernel_rfl
theorem fs_B2 : runV Try.prog (lookS [] [] [(9, false), (13, false), (17, false), (23, true)]) 1 cFs ((fsS (.slice qa na ca) (.slice qb nb cb) xs ys b o b' o').fill g T) 67 75 [] [4] =
    some ⟨.ret, [(4, .bool true)], [], ((((vcFs na nb ∧ na ≤ 9223372036854775807) ∧ (lenI na == 0) = false) ∧ na ≤ 9223372036854775807) ∧ nb ≤ 9223372036854775807) ∧ (lenI na != lenI nb) = true⟩ := by kernel_rfl
theorem fs_B3 : runV Try.prog (lookS [] [] [(9, false), (13, false), (17, false), (23, false), (28, true)]) 1 cFs ((fsS (.slice qa na ca) (.slice qb nb cb) xs ys b o b' o').fill g T) 67 75 [] [4] =
    some ⟨.ret, [(4, .bool true)], [], ((((((vcFs na nb ∧ na ≤ 9223372036854775807) ∧ (lenI na == 0) = false) ∧ na ≤ 9223372036854775807) ∧ nb ≤ 9223372036854775807) ∧ (lenI na != lenI nb) = false) ∧ na ≤ 9223372036854775807) ∧ decide (lenI na > 50) = true⟩ := by kernel_rfl
end
section
variable (n ca m cb c : Nat) (xs ys us : List Value) (b o b' o' b2 o2 : Nat) (g : Nat → Value) (T : Hp)
theorem fs_0 : runV Try.prog (lookS [] [] []) 1 (cAt cFs [0]) ((fsS (slc 67 n ca) (slc 68 m cb) xs ys b o b' o').fill g T) 67 75 kFs [0, 1] = some ⟨.normal, [(0, slc 67 n ca), (1, slc 68 m cb)], rFs xs ys, True⟩ := by kernel_rfl
theorem fs_1 : runV Try.prog (lookS [] [] [(9, false), (13, false)]) 1 (cAt cFs [1, 0]) ((FsT n ca m cb xs ys).fill g T) 67 75 kFs [0, 1] = some ⟨.normal, [(0, slc 67 n ca), (1, slc 68 m cb)], rFs xs ys, vcFs n m⟩ := by kernel_rfl
theorem fs_2 : runLV Try.prog (lookS [] [] [(17, false), (23, false), (28, false)]) oFs3 (oFs3.toList.take 16) ((FsT n ca m cb xs ys).fill g T) 67 75 kFs [0, 1, 30] =
    some ⟨.normal, [(0, slc 67 n ca), (1, slc 68 m cb), (30, .bool false)], rFs xs ys, ((((((True ∧ n ≤ 9223372036854775807) ∧ (lenI n == 0) = false) ∧ n ≤ 9223372036854775807) ∧ m ≤ 9223372036854775807) ∧ (lenI n != lenI m) = false) ∧ n ≤ 9223372036854775807) ∧ decide (lenI n > 50) = false⟩ := by kernel_rfl
theorem fs_3 : runV Try.prog (lookS [] [] []) 1 (cAt cFs [1, 1, 0, 1]) ((⟨mkT 67 [(38, .bool true), (0, slc 67 n ca), (1, slc 68 m cb)], mkT 75 (rFs xs ys), []⟩ : TS).fill g T) 67 75 [] [4] = some ⟨.ret, [(4, .bool true)], [], True⟩ := by kernel_rfl
theorem fs_4 : runV Try.prog (lookS [] [] []) 1 (cAt cFs [1, 1, 0, 1]) ((⟨mkT 67 [(38, .bool false), (0, slc 67 n ca), (1, slc 68 m cb)], mkT 75 (rFs xs ys), []⟩ : TS).fill g T) 67 75 kFs [0, 1] = some ⟨.normal, [(0, slc 67 n ca), (1, slc 68 m cb)], rFs xs ys, True⟩ := by kernel_rfl
noncomputable abbrev oFs5 : Array Oper := opsOf (cAt cFs [1, 1, 1, 0])
noncomputable abbrev fsCall : Call := match opAt oFs5 2 with
  | some (_, .call c) => c
  | _ => default
theorem fs_op52 : opAt oFs5 2 = some ⟨some 41, .call fsCall⟩ := by kernel_rfl
theorem fs_c52 : fsCall.callee = .value (.func 24) := by kernel_rfl
theorem fs_a52 : fsCall.args = #[.tmp 39, .tmp 40] := by kernel_rfl
theorem fs_5 : runLV Try.prog (lookS [] [] []) oFs5 (oFs5.toList.take 2) ((FsT n ca n cb xs ys).fill g T) 67 75 kFs [39, 40, 0, 1] = some ⟨.normal, [(39, slc 67 n ca), (40, slc 68 n cb), (0, slc 67 n ca), (1, slc 68 n cb)], rFs xs ys, True⟩ := by kernel_rfl
abbrev r3F (us xs ys : List Value) : List (Nat × Bool × List Value) := [(69, true, us), (67, false, xs), (68, false, ys)]
abbrev k3F : Keep := [(69, 69, false), (67, 67, false), (68, 68, false)]
theorem fs_6 : runLV Try.prog (lookS [] [] []) oFs5 (oFs5.toList.drop 3) ((⟨mkT 67 [(41, slc 69 n c), (0, slc 67 n ca), (1, slc 68 n cb)], mkT 75 (r3F us xs ys), []⟩ : TS).fill g T) 67 75 k3F [5, 0, 1] =
    some ⟨.normal, [(5, slc 69 n c), (0, slc 67 n ca), (1, slc 68 n cb)], r3F us xs ys, True⟩ := by kernel_rfl
theorem fs_7 : runV Try.prog (lookS [] [] [(46, false)]) 1 (cAt cFs [1, 1, 1, 1, 0]) ((⟨mkT 67 [(5, slc 69 n c), (0, slc 67 n ca), (1, slc 68 n cb)], mkT 75 (r3F us xs ys), []⟩ : TS).fill g T) 67 75 k3F [5, 0, 1] =
    some ⟨.normal, [(5, slc 69 n c), (0, slc 67 n ca), (1, slc 68 n cb)], r3F us xs ys, ((True ∧ n ≤ 9223372036854775807) ∧ n ≤ 9223372036854775807) ∧ (lenI n != lenI n) = false⟩ := by kernel_rfl
noncomputable abbrev cFsL : Code := cAt cFs [1, 1, 1, 1, 1, 0]
noncomputable abbrev cFsB : Code := cAt cFsL [1]
noncomputable abbrev cFsR : Code := cAt cFsB [0, 0]
abbrev sFi (n c ca cb : Nat) (i : Int) : List (Nat × Value) := [(5, slc 69 n c), (0, slc 67 n ca), (1, slc 68 n cb), (6, num i)]
abbrev r4F (us xs ys : List Value) : List (Nat × Bool × List Value) := [(69, false, us), (67, false, xs), (68, false, ys)]
theorem fs_8 : runV Try.prog (lookS [] [] []) 1 (cAt cFsL [0]) ((⟨mkT 67 [(5, slc 69 n c), (0, slc 67 n ca), (1, slc 68 n cb)], mkT 75 (r4F us xs ys), []⟩ : TS).fill g T) 67 75 k3F [5, 0, 1, 6] = some ⟨.normal, sFi n c ca cb 0, r4F us xs ys, True⟩ := by kernel_rfl
abbrev lF (b o b' o' b2 o2 : Nat) : List (Nat × Nat × Nat) := [(69, b2, o2), (67, b, o), (68, b', o')]
def fsH (us xs ys : List Value) (n c ca cb b o b' o' b2 o2 : Nat) (i : Int) : TS := ⟨mkT 67 (sFi n c ca cb i), mkT 75 (r4F us xs ys), lF b o b' o' b2 o2⟩
def fsP (us xs ys : List Value) (z x y : L4) (n c ca cb b o b' o' b2 o2 s : Nat) (i : Int) : TS :=
  ⟨mkT 67 (sFi n c ca cb i), mkT 75 [(69, false, us), (67, false, xs), (68, false, ys), (70, false, z.cells), (71, false, x.cells), (72, false, y.cells)], (72, b', o' + s) :: (71, b, o + s) :: (70, b2, o2 + s) :: lF b o b' o' b2 o2⟩
abbrev eFs (op : L4 → L4 → L4) (φ : L4 → L4 → Prop) : List (Nat × Sm) := [eV 25 [.V, .V] (rVV op φ)]
theorem fs_go (op : L4 → L4 → L4) (φ : L4 → L4 → Prop) (z x y : L4) (s : Nat) (i : Int) :
    runV Try.prog (lookS (eFs op φ) [(69, s, 70), (67, s, 71), (68, s, 72)] [(50, true), (66, false)]) 1 cFsR ((fsP us xs ys z x y n c ca cb b o b' o' b2 o2 s i).fill g T) 67 75 k3F [5, 0, 1, 6] =
      some ⟨.normal, sFi n c ca cb (IntKind.i64.wrap (i + 1)), r4F us xs ys, ((((((True ∧ n ≤ 9223372036854775807) ∧ decide (i < lenI n) = true) ∧ vcI n i s) ∧ vcI n i s) ∧ vcI n i s) ∧ φ x y) ∧ (!(eq4 z (op x y))) = false⟩ := by kernel_rfl
theorem fs_end (i : Int) : runV Try.prog (lookS [] [] [(50, false)]) 1 cFsR ((fsH us xs ys n c ca cb b o b' o' b2 o2 i).fill g T) 67 75 [] [] = some ⟨.exit 0, [], [], (True ∧ n ≤ 9223372036854775807) ∧ decide (i < lenI n) = false⟩ := by kernel_rfl
theorem fs_9 : runV Try.prog (lookS [] [] []) 1 (cAt cFs [1, 1, 1, 1, 1, 1]) ((⟨mkT 67 [], mkT 75 [], []⟩ : TS).fill g T) 67 75 [] [4] = some ⟨.ret, [(4, .bool true)], [], True⟩ := by kernel_rfl
theorem fs_vres (hp : Hp) : vres Try.prog Try.f7 ⟨fillT g 0 (mkT 67 [(4, .bool true)]), hp, True, 0⟩ = some (.bool true) := by kernel_rfl
end

theorem all_low {xs ys : List L4} (h : ((xs ++ ys).all fun x => ltB x rL) = true) : (∀ x ∈ xs, x.v < rL.v) ∧ ∀ y ∈ ys, y.v < rL.v := by
  rw [List.all_eq_true] at h
  exact ⟨fun x hx => of_decide_eq_true (h x (by simp [hx])), fun y hy => of_decide_eq_true (h y (by simp [hy]))⟩

section
variable {xs ys : List L4} (hx : okL xs) (hy : okL ys) (he : xs.length = ys.length) (hpos : 0 < xs.length) (hn : xs.length ≤ 50) (ca cb : Nat)
include hx hy he hpos hn

omit hx hy in
/-- Behind the making of the differences: each is held against the reference. -/
theorem fsL_tri (hl : ∀ (i : Nat) (h : i < xs.length) (h' : i < ys.length), lowm rL xs[i] ys[i]) (c : Nat) (sp : List Value) (fs : Flat sp) :
    Tri Try.prog (cAt cFs [1, 1, 1, 1, 1]) ⟨mkT 67 [(5, slc 69 xs.length c), (0, slc 67 xs.length ca), (1, slc 68 xs.length cb)], mkT 75 (r4F (flatL (List.zipWith (subm rL) xs ys) ++ sp) (flatL xs) (flatL ys)), []⟩ fun e τ' => e = .ret ∧ τ'.tm = mkT 67 [(4, .bool true)] := by
  have ok : ∀ {al ta}, EnvOK Try.prog (lookS [] al ta) := lookS_ok env_nil
  have fx := flatL_flat xs
  have fy := flatL_flat ys
  have hul : (List.zipWith (subm rL) xs ys).length = xs.length := by simp [← he]
  have fu : Flat (flatL (List.zipWith (subm rL) xs ys) ++ sp) := flat_app (flatL_flat _) fs
  have hn' : xs.length ≤ 9223372036854775807 := by omega
  refine tri_seq' (K1 := fun e τ1 => e = .normal ∧ τ1 = ⟨mkT 67 [], mkT 75 [], []⟩) (by kernel_rfl) ?_ ?_ (fun _ _ he h => absurd h.1 he)
  · refine tri_next (τ1 := ⟨mkT 67 (sFi xs.length c ca cb 0), mkT 75 (r4F (flatL (List.zipWith (subm rL) xs ys) ++ sp) (flatL xs) (flatL ys)), []⟩) (by kernel_rfl) (tri_run ok follows (fs_8 _ ca cb c _ _ _) (by decide) trivial (alT_nil _ _ _) (by exact ⟨fu, fx, fy, trivial⟩) (locK_nil _ _) ⟨rfl, rfl⟩) ?_
    refine tri_loc (r := 69) (x := (false, flatL (List.zipWith (subm rL) xs ys) ++ sp)) rfl fun b2 o2 => ?_
    refine tri_loc (r := 67) (x := (false, flatL xs)) rfl fun b o => ?_
    refine tri_loc (r := 68) (x := (false, flatL ys)) rfl fun b' o' => ?_
    have lk : ∀ {l : List (Nat × Nat × Nat)}, (69, b2, o2) ∈ l → (67, b, o) ∈ l → (68, b', o') ∈ l → LocK k3F l (lF b o b' o' b2 o2) := fun h1 h2 h3 => locK_cons 69 false (by simp) h1 (locK_cons 67 false (by simp) h2 (locK_cons 68 false (by simp) h3 (locK_nil _ _)))
    refine tri_turn (τ1 := fsH (flatL (List.zipWith (subm rL) xs ys) ++ sp) (flatL xs) (flatL ys) xs.length c ca cb b o b' o' b2 o2 0) (fun w0 W a w ⟨g, T, ρ, hs, hl⟩ => ⟨g, T, ρ, hs, fun r b o h => hl r b o (by
      simp only [fsH, lF, List.mem_cons, List.not_mem_nil, or_false] at h ⊢
      rcases h with h | h | h
      · exact .inr (.inr h)
      · exact .inr (.inl h)
      · exact .inl h)⟩) ?_
    refine tri_block' (by kernel_rfl) ?_
    refine tri_loop' (S := Nat) (by kernel_rfl) (fun i => i ≤ xs.length) (fun i => fsH (flatL (List.zipWith (subm rL) xs ys) ++ sp) (flatL xs) (flatL ys) xs.length c ca cb b o b' o' b2 o2 i) (fun i => xs.length - i) ?_ (s := 0) (Nat.zero_le _)
    intro i hi
    by_cases hlt : i < xs.length
    · have hlt' : i < ys.length := he ▸ hlt
      have hu : i < (List.zipWith (subm rL) xs ys).length := by rw [hul]; exact hlt
      have t1 := turn_peek (τ := fsH (flatL (List.zipWith (subm rL) xs ys) ++ sp) (flatL xs) (flatL ys) xs.length c ca cb b o b' o' b2 o2 i) (r := 69) (q := 70) (b := b2) (o := o2) (A := flatL ((List.zipWith (subm rL) xs ys).take i)) (B := (List.zipWith (subm rL) xs ys)[i].cells) (C := flatL ((List.zipWith (subm rL) xs ys).drop (i + 1)) ++ sp)
        (by rw [← List.append_assoc (List.zipWith (subm rL) xs ys)[i].cells, ← List.append_assoc, ← flatL_at hu]; rfl) rfl (by simp [fsH])
      rw [take_len (Nat.le_of_lt hu)] at t1
      have t2 := turn_peek (τ := ⟨mkT 67 (sFi xs.length c ca cb i), mkT 75 [(69, false, flatL (List.zipWith (subm rL) xs ys) ++ sp), (67, false, flatL xs), (68, false, flatL ys), (70, false, (List.zipWith (subm rL) xs ys)[i].cells)], (70, b2, o2 + 4 * i) :: lF b o b' o' b2 o2⟩)
        (r := 67) (q := 71) (b := b) (o := o) (A := flatL (xs.take i)) (B := xs[i].cells) (C := flatL (xs.drop (i + 1))) (by rw [← flatL_at hlt]; rfl) rfl (by simp)
      rw [take_len (Nat.le_of_lt hlt)] at t2
      have t3 := turn_peek (τ := ⟨mkT 67 (sFi xs.length c ca cb i), mkT 75 [(69, false, flatL (List.zipWith (subm rL) xs ys) ++ sp), (67, false, flatL xs), (68, false, flatL ys), (70, false, (List.zipWith (subm rL) xs ys)[i].cells), (71, false, xs[i].cells)], (71, b, o + 4 * i) :: (70, b2, o2 + 4 * i) :: lF b o b' o' b2 o2⟩)
        (r := 68) (q := 72) (b := b') (o := o') (A := flatL (ys.take i)) (B := ys[i].cells) (C := flatL (ys.drop (i + 1))) (by rw [← flatL_at hlt']; rfl) rfl (by simp)
      rw [take_len (Nat.le_of_lt hlt')] at t3
      have t4 : Turns (fsH (flatL (List.zipWith (subm rL) xs ys) ++ sp) (flatL xs) (flatL ys) xs.length c ca cb b o b' o' b2 o2 i) (fsP (flatL (List.zipWith (subm rL) xs ys) ++ sp) (flatL xs) (flatL ys) (List.zipWith (subm rL) xs ys)[i] xs[i] ys[i] xs.length c ca cb b o b' o' b2 o2 (4 * i) i) :=
        fun w0 W a w hs => t3 w0 W a w (t2 w0 W a w (t1 w0 W a w hs))
      refine tri_turn t4 ?_
      have hal : ∀ ta, AlT (lookS (eFs (subm rL) (lowm rL)) [(69, 4 * i, 70), (67, 4 * i, 71), (68, 4 * i, 72)] ta) (fsP (flatL (List.zipWith (subm rL) xs ys) ++ sp) (flatL xs) (flatL ys) (List.zipWith (subm rL) xs ys)[i] xs[i] ys[i] xs.length c ca cb b o b' o' b2 o2 (4 * i) i) :=
        fun ta => alT_cons b2 o2 (by simp [fsP]) (by simp [fsP]) (alT_cons b o (by simp [fsP]) (by simp [fsP]) (alT_cons b' o' (by simp [fsP]) (by simp [fsP]) (fun r s q h => by simp [lookS] at h)))
      have hz : (List.zipWith (subm rL) xs ys)[i] = subm rL xs[i] ys[i] := by rw [List.getElem_zipWith]
      refine tri_run (lookS_ok (env_V ac_MinusR env_nil)) follows (fun g T => fs_go xs.length ca cb c (flatL xs) (flatL ys) (flatL (List.zipWith (subm rL) xs ys) ++ sp) b o b' o' b2 o2 g T (subm rL) (lowm rL) (List.zipWith (subm rL) xs ys)[i] xs[i] ys[i] (4 * i) i) (by decide)
        (by exact ⟨⟨⟨⟨⟨⟨⟨trivial, hn'⟩, lenI_of hn' _ (by omega)⟩, vcI_mk hlt⟩, vcI_mk hlt⟩, vcI_mk hlt⟩, hl i hlt hlt'⟩, by rw [hz, eq4_refl]; rfl⟩) (hal _) (by exact ⟨fu, fx, fy, trivial⟩) (lk (by simp [fsP]) (by simp [fsP]) (by simp [fsP])) ?_
      refine ⟨i + 1, hlt, by omega, ?_⟩
      have e2 := num_next (show i < 9223372036854775807 by omega)
      simp only [sFi]
      rw [show num (IntKind.i64.wrap ((i : Int) + 1)) = num ((i + 1 : Nat) : Int) from e2]
      rfl
    · refine tri_run ok follows (fun g T => fs_end xs.length ca cb c (flatL xs) (flatL ys) (flatL (List.zipWith (subm rL) xs ys) ++ sp) b o b' o' b2 o2 g T i) (by decide) (by exact ⟨⟨trivial, hn'⟩, lenI_not hn' _ (by omega)⟩) (alT_nil _ _ _) trivial (locK_nil _ _) ?_
      exact ⟨rfl, rfl⟩
  · rintro τ1 ⟨_, rfl⟩
    exact tri_run ok follows fs_9 (by decide) trivial (alT_nil _ _ _) trivial (locK_nil _ _) ⟨rfl, rfl⟩

/-- Behind the look at both lists. -/
theorem fsM_tri (hl : ∀ (i : Nat) (h : i < xs.length) (h' : i < ys.length), lowm rL xs[i] ys[i]) :
    Tri Try.prog (cAt cFs [1, 1, 1]) (FsT xs.length ca xs.length cb (flatL xs) (flatL ys)) fun e τ' => e = .ret ∧ τ'.tm = mkT 67 [(4, .bool true)] := by
  have ok : ∀ {al ta}, EnvOK Try.prog (lookS [] al ta) := lookS_ok env_nil
  have fx := flatL_flat xs
  have fy := flatL_flat ys
  have hul : (List.zipWith (subm rL) xs ys).length = xs.length := by simp [← he]
  have hn' : xs.length ≤ 9223372036854775807 := by omega
  refine tri_seq' (K1 := fun e τ' => e = .normal ∧ ∃ c sp, Flat sp ∧ τ' = ⟨mkT 67 [(5, slc 69 xs.length c), (0, slc 67 xs.length ca), (1, slc 68 xs.length cb)], mkT 75 (r3F (flatL (List.zipWith (subm rL) xs ys) ++ sp) (flatL xs) (flatL ys)), []⟩) (by kernel_rfl) ?_ ?_ (fun _ _ he h => absurd h.1 he)
  · refine tri_region' (by kernel_rfl) ?_
    show TriL _ oFs5 oFs5.toList _ _
    rw [← List.take_append_drop 2 oFs5.toList]
    refine tril_run ok (fs_5 _ ca cb _ _) (by decide) trivial (alT_nil _ _ _) ⟨fx, fy, trivial⟩ (locK_nil _ _) ?_
    obtain ⟨o1, g1, d1, p1, e1⟩ := ops_drop fs_op52
    rw [e1]
    refine tril_gain (f := 24) (fn := Try.f24) (code := cPs) (dst := 41) (m := 75) (d := 41) (h' := 69) (us := List.zipWith (subm rL) xs ys) (vs := [slc 67 xs.length ca, slc 68 xs.length cb]) (live := [(0, slc 67 xs.length ca), (1, slc 68 xs.length cb)]) (ks := ksFs (flatL xs) (flatL ys)) (loc := []) p1 d1 fs_c52
      (fun g => by simp only [wantedS, g1]) (fun x hx => by rw [fs_a52] at hx; simp at hx; rcases hx with rfl | rfl <;> rfl) (by kernel_rfl) (by kernel_rfl) (by kernel_rfl) (fun g => by rw [fs_a52]; rfl) (zip_ok (subm_ok rL) _ _) ?_ rfl (by rw [mkT_length]; decide) (fun p hp => by
        simp only [List.mem_cons, List.not_mem_nil, or_false] at hp
        rcases hp with rfl | rfl
        · exact ⟨show (0 : Nat) ≠ 41 by decide, _, fun g => rfl, rfl⟩
        · exact ⟨show (1 : Nat) ≠ 41 by decide, _, fun g => rfl, rfl⟩) (fun k hk => by
        simp only [List.mem_cons, List.not_mem_nil, or_false] at hk
        rcases hk with rfl | rfl
        · exact ⟨rfl, fun _ => fx, show (67 : Nat) ≠ 41 by decide⟩
        · exact ⟨rfl, fun _ => fy, show (68 : Nat) ≠ 41 by decide⟩) rfl (fun q b o h => by simp at h) ?_
    · intro w0 W g T ρ a w hs _
      have l1 := listIn_of hs.inv (r := 67) (f := false) (xs := xs) (ex := []) (by rw [List.append_nil]; rfl)
      have l2 := listIn_of hs.inv (r := 68) (f := false) (xs := ys) (ex := []) (by rw [List.append_nil]; rfl)
      exact ps_calls hx hy hl he hpos (by omega) ca cb (ρ 67).1 (ρ 67).2 (ρ 68).1 (ρ 68).2 w l1 l2
    · intro c sp h1 h2 fs
      rw [hul]
      have fa : Flat (flatL (List.zipWith (subm rL) xs ys) ++ sp) := flat_app (flatL_flat _) fs
      have := tril_run (rest := []) (K := fun τ' => Xt.normal = .normal ∧ ∃ c sp, Flat sp ∧ τ' = ⟨mkT 67 [(5, slc 69 xs.length c), (0, slc 67 xs.length ca), (1, slc 68 xs.length cb)], mkT 75 (r3F (flatL (List.zipWith (subm rL) xs ys) ++ sp) (flatL xs) (flatL ys)), []⟩) ok (fs_6 xs.length ca cb c (flatL xs) (flatL ys) (flatL (List.zipWith (subm rL) xs ys) ++ sp)) (by decide) trivial (alT_nil _ _ _) ⟨fa, fx, fy, trivial⟩ (locK_nil _ _) (tril_nil ⟨rfl, c, sp, fs, rfl⟩)
      rw [List.append_nil] at this
      exact this
  · rintro τ1 ⟨_, c, sp, fs, rfl⟩
    have fa : Flat (flatL (List.zipWith (subm rL) xs ys) ++ sp) := flat_app (flatL_flat _) fs
    refine tri_next (τ1 := ⟨mkT 67 [(5, slc 69 xs.length c), (0, slc 67 xs.length ca), (1, slc 68 xs.length cb)], mkT 75 (r3F (flatL (List.zipWith (subm rL) xs ys) ++ sp) (flatL xs) (flatL ys)), []⟩) (by kernel_rfl) (tri_run ok follows (fs_7 _ ca cb c _ _ _) (by decide) ⟨⟨⟨trivial, hn'⟩, hn'⟩, by simp⟩ (alT_nil _ _ _) ⟨fa, fx, fy, trivial⟩ (locK_nil _ _) ⟨rfl, rfl⟩) ?_
    refine tri_turn (turn_read (r := 69) (cs := flatL (List.zipWith (subm rL) xs ys) ++ sp) rfl) ?_
    exact fsL_tri he hpos hn ca cb hl c sp fs
end

theorem fs_tri {xs ys : List L4} (hx : okL xs) (hy : okL ys) (hnx : xs.length ≤ 9223372036854775807) (hny : ys.length ≤ 9223372036854775807) {va vb : Value} (ha : SV 67 va xs.length) (hb : SV 68 vb ys.length) (b o b' o' : Nat) :
    Tri Try.prog cFs (fsS va vb (flatL xs) (flatL ys) b o b' o') fun e τ' => e = .ret ∧ τ'.tm = mkT 67 [(4, .bool true)] := by
  have ok : ∀ {al ta}, EnvOK Try.prog (lookS [] al ta) := lookS_ok env_nil
  have fx := flatL_flat xs
  have fy := flatL_flat ys
  have ex : lenI xs.length = xs.length := lenI_eq hnx
  have ey : lenI ys.length = ys.length := lenI_eq hny
  have hva : ∃ qa ca, va = .slice qa xs.length ca := by
    rcases ha with ⟨rfl, h⟩ | ⟨c, rfl⟩
    · exact ⟨none, 0, by rw [h]⟩
    · exact ⟨_, c, rfl⟩
  have hvb : ∃ qb cb, vb = .slice qb ys.length cb := by
    rcases hb with ⟨rfl, h⟩ | ⟨c, rfl⟩
    · exact ⟨none, 0, by rw [h]⟩
    · exact ⟨_, c, rfl⟩
  obtain ⟨qa, ca', ea⟩ := hva
  obtain ⟨qb, cb', eb⟩ := hvb
  have gt : ∀ {n : Nat}, n ≤ 9223372036854775807 → 2147483647 < n → decide (lenI n > lim31) = true := fun h1 h2 => decide_eq_true (by rw [lenI_eq h1]; show (2147483647 : Int) < _; omega)
  have le : ∀ {n : Nat}, n ≤ 9223372036854775807 → n ≤ 2147483647 → decide (lenI n > lim31) = false := fun h1 h2 => decide_eq_false (by rw [lenI_eq h1]; show ¬ (2147483647 : Int) < _; omega)
  by_cases h1 : 2147483647 < xs.length
  · subst ea eb
    exact tri_run ok follows (fs_A1 qa qb _ ca' _ cb' _ _ b o b' o') (by decide) ⟨⟨trivial, hnx⟩, gt hnx h1⟩ (alT_nil _ _ _) trivial (locK_nil _ _) ⟨rfl, rfl⟩
  have hx1 : xs.length ≤ 2147483647 := by omega
  by_cases h2 : 2147483647 < ys.length
  · subst ea eb
    exact tri_run ok follows (fs_A2 qa qb _ ca' _ cb' _ _ b o b' o') (by decide) ⟨⟨⟨⟨trivial, hnx⟩, le hnx hx1⟩, hny⟩, gt hny h2⟩ (alT_nil _ _ _) trivial (locK_nil _ _) ⟨rfl, rfl⟩
  have hy1 : ys.length ≤ 2147483647 := by omega
  have vc : vcFs xs.length ys.length := ⟨⟨⟨⟨trivial, hnx⟩, le hnx hx1⟩, hny⟩, le hny hy1⟩
  by_cases h3 : xs.length = 0
  · subst ea eb
    exact tri_run ok follows (fs_B1 qa qb _ ca' _ cb' _ _ b o b' o') (by decide) ⟨⟨vc, hnx⟩, by rw [ex, h3]; rfl⟩ (alT_nil _ _ _) trivial (locK_nil _ _) ⟨rfl, rfl⟩
  have hpx : 0 < xs.length := by omega
  by_cases h4 : xs.length = ys.length
  case neg =>
    subst ea eb
    exact tri_run ok follows (fs_B2 qa qb _ ca' _ cb' _ _ b o b' o') (by decide) ⟨⟨⟨⟨⟨vc, hnx⟩, len_ne hnx hpx⟩, hnx⟩, hny⟩, by rw [ex, ey]; exact bne_iff_ne.2 (by omega)⟩ (alT_nil _ _ _) trivial (locK_nil _ _) ⟨rfl, rfl⟩
  have hne : (lenI xs.length != lenI ys.length) = false := by rw [h4]; exact bne_self_eq_false _
  by_cases h5 : 50 < xs.length
  · subst ea eb
    exact tri_run ok follows (fs_B3 qa qb _ ca' _ cb' _ _ b o b' o') (by decide) ⟨⟨⟨⟨⟨⟨⟨vc, hnx⟩, len_ne hnx hpx⟩, hnx⟩, hny⟩, hne⟩, hnx⟩, decide_eq_true (by rw [ex]; show (50 : Int) < _; omega)⟩ (alT_nil _ _ _) trivial (locK_nil _ _) ⟨rfl, rfl⟩
  have h50 : xs.length ≤ 50 := by omega
  clear ea eb
  rcases ha with ⟨_, h⟩ | ⟨ca, rfl⟩
  · exact absurd h h3
  rcases hb with ⟨_, h⟩ | ⟨cb, rfl⟩
  · exact absurd (h4.trans h) h3
  refine tri_next (τ1 := FsT xs.length ca ys.length cb (flatL xs) (flatL ys)) (by kernel_rfl) (tri_run ok follows (fs_0 _ ca _ cb _ _ b o b' o') (by decide) trivial (alT_nil _ _ _) ⟨fx, fy, trivial⟩ (locK_nil _ _) ⟨rfl, rfl⟩) ?_
  refine tri_next (τ1 := FsT xs.length ca ys.length cb (flatL xs) (flatL ys)) (by kernel_rfl) (tri_run ok follows (fs_1 _ ca _ cb _ _) (by decide) vc (alT_nil _ _ _) ⟨fx, fy, trivial⟩ (locK_nil _ _) ⟨rfl, rfl⟩) ?_
  refine tri_seq' (K1 := fun e τ1 => (e = .ret ∧ τ1.tm = mkT 67 [(4, .bool true)]) ∨ (e = .normal ∧ ((xs ++ ys).all fun x => ltB x rL) = true ∧ τ1 = FsT xs.length ca ys.length cb (flatL xs) (flatL ys))) (by kernel_rfl) ?_ ?_ ?_
  · refine tri_seq' (K1 := fun e τ' => e = .normal ∧ τ' = ⟨mkT 67 [(38, .bool (!((xs ++ ys).all fun x => ltB x rL))), (0, slc 67 xs.length ca), (1, slc 68 ys.length cb)], mkT 75 (rFs (flatL xs) (flatL ys)), []⟩) (by kernel_rfl) ?_ ?_ (fun _ _ he h => absurd h.1 he)
    · refine tri_region' (by kernel_rfl) ?_
      show TriL _ oFs3 oFs3.toList _ _
      rw [← List.take_append_drop 16 oFs3.toList]
      refine tril_run ok (fs_2 _ ca _ cb _ _) (by decide) ⟨⟨⟨⟨⟨⟨⟨trivial, hnx⟩, len_ne hnx hpx⟩, hnx⟩, hny⟩, hne⟩, hnx⟩, decide_eq_false (by rw [ex]; show ¬ (50 : Int) < _; omega)⟩ (alT_nil _ _ _) ⟨fx, fy, trivial⟩ (locK_nil _ _) ?_
      exact Fs_low hx hy hpx (by omega) h50 (by omega) ca cb ⟨rfl, rfl⟩
    · rintro τ1 ⟨_, rfl⟩
      cases hall : ((xs ++ ys).all fun x => ltB x rL) with
      | false => exact tri_run ok follows (fs_3 _ ca _ cb _ _) (by decide) trivial (alT_nil _ _ _) trivial (locK_nil _ _) (.inl ⟨rfl, rfl⟩)
      | true => exact tri_run ok follows (fs_4 _ ca _ cb _ _) (by decide) trivial (alT_nil _ _ _) ⟨fx, fy, trivial⟩ (locK_nil _ _) (.inr ⟨rfl, rfl, rfl⟩)
  · rintro τ1 (⟨h, _⟩ | ⟨_, hall, rfl⟩)
    · cases h
    obtain ⟨lx, ly⟩ := all_low hall
    rw [← h4]
    exact fsM_tri hx hy h4 hpx h50 ca cb fun i h h' => ⟨lx _ (List.getElem_mem h), ly _ (List.getElem_mem h')⟩
  · rintro e τ1 he (h | ⟨h, _⟩)
    · exact h
    · exact absurd h he

open Go.ChangeShapes Go.WideShapes Go.ChangeAt Go.RowKit
set_option maxRecDepth 100000 in
theorem fnPolySub_lifted (os : Os) (started : os.Started) (H : Type) (enc : TypeId × Value → H) :
    ReturnsInHanded {} Try.checked os 7 .any (Rows.fnPolySubSpec.pre6 enc Try.prog Try.f7 Rows.fnPolySubRow.domain false)
      (Rows.fnPolySubSpec.post enc Try.prog Try.f7 false true false false) := by
  refine returnsInHanded_of_change (C := Try.checked) Try.own started (by kernel_rfl) Try.func7
    (ChangeSpec.witness6 (enc := enc) (C := Try.checked) false ⟨#[], #[.slice none 0 0, .slice none 0 0], []⟩ 8 (by kernel_rfl) (by kernel_rfl) (by kernel_rfl) (by kernel_rfl)) ?_
  intro W base args ds gs before hval0 hW hcnd _
  have hval : ∀ (j : Nat) t v, Try.f7.params[j]? = some t → args[j]? = some v → Value.okWide Try.prog W .any base t v := hval0
  have hW' := hW
  obtain ⟨p, q, hA0, hV, rfl, hfz, hnd⟩ := hW
  have hA : DataW.TrodAll enc Try.prog W 0 (fun _ => true) true Try.f7.params.toList args.toList ds p := hA0
  rw [Try.params7] at hA hval
  obtain ⟨v0, v1, d0, d1, p0, p1, rfl, rfl, rfl, h0, h1⟩ := trodAll_two hA
  obtain ⟨rfl, rfl⟩ := trodVars_none hV
  obtain ⟨xs, b, o, ox, nx, lx, ex⟩ := open_list (u := 22) Fs_und (by kernel_rfl) (by kernel_rfl) (by kernel_rfl) (by kernel_rfl) (hval 0 34 v0 rfl rfl) h0
  obtain ⟨ys, b', o', oy, ny, ly, ey⟩ := open_list (u := 22) Fs_und (by kernel_rfl) (by kernel_rfl) (by kernel_rfl) (by kernel_rfl) (hval 1 34 v1 rfl rfl) h1
  clear hA0 hval0
  simp only [List.append_nil] at hW'
  have hlt : ∀ z ∈ p0 ++ p1, z.block < W.heap.size := fun z hz => by simpa using hW'.lt z hz
  refine (law_LL (f := 7) (fn := Try.f7) (nt := 67) (by kernel_rfl) (by kernel_rfl) (by kernel_rfl) ox oy ex ey lx ly (fun ua ub sa sb =>
    tri_conseq (fs_tri ox oy nx ny sa sb b o b' o') fun e τ' h => ⟨h.1, _, h.2, fs_vres⟩)).mono fun e W' ⟨he, hb⟩ => ?_
  refine ⟨_, he, _, _, _, [], p0 ++ p1, [], hW', shut_true (by kernel_rfl), ?_, rfl, hb.frame _, fun h => by cases h⟩
  exact trodAll_mk2 (Below.trod Try.laidOut (by kernel_rfl) (of_decide_eq_true (by kernel_rfl)) h0 hb fun z hz => hlt z (List.mem_append_left _ hz))
    (Below.trod Try.laidOut (by kernel_rfl) (of_decide_eq_true (by kernel_rfl)) h1 hb fun z hz => hlt z (List.mem_append_right _ hz))

/-- **FnPolySub holds whatever the input.** -/
theorem fnPolySub_holds : Rows.FnPolySubSaid :=
  OpenClaim.holds_of_wide 7 Try.f7 rfl rfl rfl rfl rfl rfl rfl ⟨rfl, rfl, rfl, rfl, rfl⟩ rfl rfl rfl rfl rfl (by kernel_rfl) Try.func7 (by kernel_rfl)
    (of_decide_eq_true (by kernel_rfl)) (by unfold Func.isWrapper; rw [if_neg (of_decide_eq_false (by kernel_rfl))]; exact ⟨rfl, rfl⟩)
    (fun os started H enc _ => fnPolySub_lifted os started H enc)
#print axioms fnPolySub_holds
end Go.Proofs.Ytbbifiogcpcpfaa
