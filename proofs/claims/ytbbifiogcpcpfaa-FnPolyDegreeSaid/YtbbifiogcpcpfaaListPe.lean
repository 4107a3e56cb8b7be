/-
  impl.PolyEqual.
-/
import Derived.Test.YtbbifiogcpcpfaaListEq
import Derived.Test.YtbbifiogcpcpfaaVmNil
namespace Go.Proofs.Ytbbifiogcpcpfaa
open Vm

noncomputable abbrev cPe : Code := bodyOf Try.f22
noncomputable abbrev oPe1 : Array Oper := opsOf (cAt cPe [1, 0])
noncomputable abbrev oPe2 : Array Oper := opsOf (cAt cPe [1, 1, 0])
theorem pe_op1 : opAt oPe1 1 = some ⟨some 7, .call { callee := .value (.func 47), args := #[.tmp 6], argTypes := #[34] }⟩ := by kernel_rfl
theorem pe_op2 : opAt oPe2 1 = some ⟨some 9, .call { callee := .value (.func 47), args := #[.tmp 8], argTypes := #[34] }⟩ := by kernel_rfl
noncomputable abbrev eqCall : Call := match opAt oPe2 2 with
  | some (_, .call c) => c
  | _ => default
theorem pe_op3 : opAt oPe2 2 = some ⟨some 10, .call eqCall⟩ := by kernel_rfl
theorem pe_c3 : eqCall.callee = .value (.func 49) := by kernel_rfl
theorem pe_a3 : eqCall.args = #[.tmp 5, .tmp 9] := by kernel_rfl
theorem pe_0 (xs ys : List Value) (n ca cb b o b' o' : Nat) (g : Nat → Value) (T : Hp) : runV Try.prog (lookS [] [] []) 1 (cAt cPe [0]) ((⟨[slc 11 n ca, slc 12 n cb].map some ++ List.replicate (11 - 2) none, hpA 11 [(b, o, false, xs), (b', o', false, ys)], [(11, b, o), (12, b', o')]⟩ : TS).fill g T) 11 15 [(11, 11, false), (12, 12, false)] [0, 1] =
    some ⟨.normal, [(0, slc 11 n ca), (1, slc 12 n cb)], [(11, false, xs), (12, false, ys)], True⟩ := by kernel_rfl
theorem pe_1 (xs ys : List Value) (n ca cb : Nat) (g : Nat → Value) (T : Hp) : runLV Try.prog (lookS [] [] []) oPe1 (oPe1.toList.take 1) ((⟨mkT 11 [(0, slc 11 n ca), (1, slc 12 n cb)], mkT 15 [(11, false, xs), (12, false, ys)], []⟩ : TS).fill g T) 11 15 [(11, 11, false), (12, 12, false)] [6, 1] =
    some ⟨.normal, [(6, slc 11 n ca), (1, slc 12 n cb)], [(11, false, xs), (12, false, ys)], True⟩ := by kernel_rfl
theorem pe_2 (zs ys : List Value) (n c cb : Nat) (g : Nat → Value) (T : Hp) : runLV Try.prog (lookS [] [] []) oPe1 (oPe1.toList.drop 2) ((⟨mkT 11 [(7, slc 13 n c), (1, slc 12 n cb)], mkT 15 [(13, true, zs), (12, false, ys)], []⟩ : TS).fill g T) 11 15 [(5, 5, true), (13, 13, false), (12, 12, false)] [5, 1] =
    some ⟨.normal, [(5, ptr 5), (1, slc 12 n cb)], [(5, true, [slc 13 n c]), (13, true, zs), (12, false, ys)], True⟩ := by kernel_rfl
theorem pe_3 (zs ys : List Value) (n c cb : Nat) (g : Nat → Value) (T : Hp) : runLV Try.prog (lookS [] [] []) oPe2 (oPe2.toList.take 1) ((⟨mkT 11 [(5, ptr 5), (1, slc 12 n cb)], mkT 15 [(5, true, [slc 13 n c]), (13, true, zs), (12, false, ys)], []⟩ : TS).fill g T) 11 15 [(5, 5, true), (13, 13, false), (12, 12, false)] [8, 5] =
    some ⟨.normal, [(8, slc 12 n cb), (5, ptr 5)], [(5, true, [slc 13 n c]), (13, true, zs), (12, false, ys)], True⟩ := by kernel_rfl
theorem pe_4 (b : Bool) (g : Nat → Value) (T : Hp) : runLV Try.prog (lookS [] [] []) oPe2 (oPe2.toList.drop 3) ((⟨mkT 11 [(10, .bool b)], mkT 15 [], []⟩ : TS).fill g T) 11 15 [] [4] =
    some ⟨.normal, [(4, .bool b)], [], True⟩ := by kernel_rfl
theorem pe_5 (b : Bool) (g : Nat → Value) (T : Hp) : runV Try.prog (lookS [] [] []) 1 (cAt cPe [1, 1, 1]) ((⟨mkT 11 [(4, .bool b)], mkT 15 [], []⟩ : TS).fill g T) 11 15 [] [4] =
    some ⟨.ret, [(4, .bool b)], [], True⟩ := by kernel_rfl
theorem pe_tri {xs ys : List L4} (hx : okL xs) (hy : okL ys) (he : xs.length = ys.length) (hpos : 0 < xs.length) (hn : xs.length ≤ 4398046511104) (ca cb b o b' o' : Nat) :
    Tri Try.prog cPe ⟨[slc 11 xs.length ca, slc 12 ys.length cb].map some ++ List.replicate (11 - 2) none, hpA 11 [(b, o, false, flatL xs), (b', o', false, flatL ys)], [(11, b, o), (12, b', o')]⟩ fun e τ' => e = .ret ∧ τ' = ⟨mkT 11 [(4, .bool (sameB xs ys))], mkT 15 [], []⟩ := by
  have ok : ∀ {al ta}, EnvOK Try.prog (lookS [] al ta) := lookS_ok env_nil
  have fx := flatL_flat xs
  have fy := flatL_flat ys
  rw [← he]
  refine tri_next (τ1 := ⟨mkT 11 [(0, slc 11 xs.length ca), (1, slc 12 xs.length cb)], mkT 15 [(11, false, flatL xs), (12, false, flatL ys)], []⟩) (by kernel_rfl) (tri_run ok follows (pe_0 _ _ _ ca cb b o b' o') (by decide) trivial (alT_nil _ _ _) ⟨fx, fy, trivial⟩ (locK_nil _ _) ⟨rfl, rfl⟩) ?_
  refine tri_seq' (K1 := fun e τ1 => e = .normal ∧ ∃ zs c, Flat zs ∧ (∃ sp, zs = flatL xs ++ sp) ∧ τ1 = ⟨mkT 11 [(5, ptr 5), (1, slc 12 xs.length cb)], mkT 15 [(5, true, [slc 13 xs.length c]), (13, true, zs), (12, false, flatL ys)], []⟩) (by kernel_rfl) ?_ ?_ (fun _ _ he h => absurd h.1 he)
  · refine tri_region' (by kernel_rfl) ?_
    obtain ⟨op, hg, hd, ho, hsplit⟩ := ops_split pe_op1
    show TriL _ oPe1 oPe1.toList _ _
    rw [hsplit]
    refine tril_run ok (pe_1 _ _ _ ca cb) (by decide) trivial (alT_nil _ _ _) ⟨fx, fy, trivial⟩ (locK_nil _ _) ?_
    refine tril_made (f := 47) (fn := Try.f47) (code := cmL) (dst := 7) (m := 15) (r := 11) (cap := ca) (d := 7) (h' := 13) (fl := false) (xs := xs) (ex := []) (live := [(1, slc 12 xs.length cb)]) (ks := [(12, 12, false, false, flatL ys)]) (loc := []) ho hd
      (fun g => by simp only [wantedS, hg]) rfl (by kernel_rfl) (by kernel_rfl) (by kernel_rfl) (fun g => rfl) (by rw [List.append_nil]; rfl) hx (mL_calls hx hpos hn) rfl (by rw [mkT_length]; decide) (fun p hp => by
        simp only [List.mem_cons, List.not_mem_nil, or_false] at hp
        subst hp
        exact ⟨show (1 : Nat) ≠ 7 by decide, _, fun g => rfl, rfl⟩) (fun k hk => by
        simp only [List.mem_cons, List.not_mem_nil, or_false] at hk
        subst hk
        exact ⟨rfl, fun _ => fy, show (12 : Nat) ≠ 7 by decide⟩) rfl (fun q b o h => by simp at h) ?_
    intro c sp h1 h2 fs
    have fa : Flat (flatL xs ++ sp) := flat_app fx fs
    have := tril_run (rest := []) (K := fun τ' => Xt.normal = .normal ∧ ∃ zs c, Flat zs ∧ (∃ sp, zs = flatL xs ++ sp) ∧ τ' = ⟨mkT 11 [(5, ptr 5), (1, slc 12 xs.length cb)], mkT 15 [(5, true, [slc 13 xs.length c]), (13, true, zs), (12, false, flatL ys)], []⟩) ok (pe_2 (flatL xs ++ sp) (flatL ys) xs.length c cb) (by decide) trivial (alT_nil _ _ _) ⟨fa, fy, trivial⟩ (locK_nil _ _) (tril_nil ⟨rfl, flatL xs ++ sp, c, fa, ⟨sp, rfl⟩, rfl⟩)
    rw [List.append_nil] at this
    exact this
  · rintro τ1 ⟨_, zs, c, fz, ⟨sp, rfl⟩, rfl⟩
    refine tri_next (τ1 := ⟨mkT 11 [(4, .bool (sameB xs ys))], mkT 15 [], []⟩) (by kernel_rfl) ?_ (tri_run ok follows (pe_5 _) (by decide) trivial (alT_nil _ _ _) trivial (locK_nil _ _) ⟨rfl, rfl⟩)
    refine tri_region' (by kernel_rfl) ?_
    obtain ⟨op, hg, hd, ho, hsplit⟩ := ops_split pe_op2
    show TriL _ oPe2 oPe2.toList _ _
    rw [hsplit]
    refine tril_run ok (pe_3 _ _ _ c cb) (by decide) trivial (alT_nil _ _ _) ⟨fz, fy, trivial⟩ (locK_nil _ _) ?_
    refine tril_made (f := 47) (fn := Try.f47) (code := cmL) (dst := 9) (m := 15) (r := 12) (cap := cb) (d := 9) (h' := 14) (fl := false) (xs := ys) (ex := []) (live := [(5, ptr 5)])
      (ks := [(5, 5, true, true, [slc 13 xs.length c]), (13, 13, false, true, flatL xs ++ sp)]) (loc := []) ho hd
      (fun g => by simp only [wantedS, hg]) rfl (by kernel_rfl) (by kernel_rfl) (by kernel_rfl) (fun g => by rw [← he]; rfl) (by rw [List.append_nil]; rfl) hy (mL_calls hy (he ▸ hpos) (he ▸ hn)) rfl (by rw [mkT_length]; decide) (fun p hp => by
        simp only [List.mem_cons, List.not_mem_nil, or_false] at hp
        subst hp
        exact ⟨show (5 : Nat) ≠ 9 by decide, _, fun g => rfl, rfl⟩) (fun k hk => by
        simp only [List.mem_cons, List.not_mem_nil, or_false] at hk
        rcases hk with rfl | rfl
        · exact ⟨rfl, fun h => absurd h (show ¬ (true = false) by decide), show (5 : Nat) ≠ 9 by decide⟩
        · exact ⟨rfl, fun _ => fz, show (13 : Nat) ≠ 9 by decide⟩) rfl (fun q b o h => by simp at h) ?_
    intro c' sp' h1 h2 fs
    obtain ⟨op3, hg3, hd3, ho3, hsplit3⟩ := ops_drop pe_op3
    rw [hsplit3]
    refine tril_scalar (vs := [ptr 5, slc 14 ys.length c']) (v := .bool (sameB xs ys)) (dst := 10) (m := 15) (live := []) (ks := []) (loc := []) (fn := Try.f49) (code := cQ) ho3 hd3 pe_c3 (fun g => by simp only [wantedS, hg3]) (fun x hx => by
        rw [pe_a3] at hx
        simp at hx
        rcases hx with rfl | rfl <;> rfl) (by kernel_rfl) (by kernel_rfl) (by kernel_rfl) (fun g => by rw [pe_a3]; rfl) ?_
      trivial (by rw [mkT_length, mkT_length]; decide) (fun p hp => by simp at hp) (fun k hk => by simp at hk) (by decide) (fun q b o h => by simp at h) ?_
    · intro w0 W g T ρ a w hs _
      have hc := hs.inv.cell 5 true [slc 13 xs.length c] rfl 0 _ rfl
      have l1 := listIn_of hs.inv (r := 13) (f := true) (xs := xs) (ex := sp) rfl
      have l2 := listIn_of hs.inv (r := 14) (f := true) (xs := ys) (ex := sp') rfl
      have := q_calls hx hy he (by omega) (w := w) (cx := c) (cy := c') (pb := (ρ 5).1) (po := (ρ 5).2 + 0) (b := (ρ 13).1) (o := (ρ 13).2 + 0) (b' := (ρ 14).1) (o' := (ρ 14).2 + 0) hc l1 l2
      rw [he] at this
      exact this
    · have := tril_run (rest := []) (K := fun τ' => Xt.normal = .normal ∧ τ' = ⟨mkT 11 [(4, .bool (sameB xs ys))], mkT 15 [], []⟩) ok (pe_4 (sameB xs ys)) (by decide) trivial (alT_nil _ _ _) trivial (locK_nil _ _) (tril_nil ⟨rfl, rfl⟩)
      rw [List.append_nil] at this
      exact this
theorem pe_calls {xs ys : List L4} (hx : okL xs) (hy : okL ys) (he : xs.length = ys.length) (hpos : 0 < xs.length) (hn : xs.length ≤ 4398046511104) (ca cb b o b' o' : Nat) (w : World) (h1 : ListIn w b o xs) (h2 : ListIn w b' o' ys) :
    Calls Try.prog 22 #[.slice (some ⟨b, o, none⟩) xs.length ca, .slice (some ⟨b', o', none⟩) ys.length cb] w fun e w' => e = .returned (.bool (sameB xs ys)) ∧ Fr (fun _ _ => False) w w' := by
  have hf : Try.prog.funcs[22]? = some Try.f22 := by kernel_rfl
  have hb : Try.f22.body = some cPe := by kernel_rfl
  have h0 := start_LL (nt := 11) (n := xs.length) (n' := ys.length) (ca := ca) (cb := cb) hx hy h1 h2
  refine calls_of_tri hf hb h0 (pe_tri hx hy he hpos hn ca cb b o b' o') ?_
  rintro e τ' ⟨rfl, rfl⟩
  refine ⟨by simp, fun a' w' hs => ?_⟩
  obtain ⟨g, T, ρ, k1, k2, k3, k4⟩ := results_of (P := Try.prog) (fn := Try.f22) (v := .bool (sameB xs ys)) (fun g T => by
    generalize sameB xs ys = bb
    kernel_rfl) hs
  exact ⟨_, k4, rfl, k1.inv.fr⟩
end Go.Proofs.Ytbbifiogcpcpfaa
