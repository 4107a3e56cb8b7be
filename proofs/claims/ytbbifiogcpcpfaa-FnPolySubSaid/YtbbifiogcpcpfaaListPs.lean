/-
  impl.PolySub, of lists of as many numbers.
-/
import Derived.Test.YtbbifiogcpcpfaaListSub
namespace Go.Proofs.Ytbbifiogcpcpfaa
open Vm

noncomputable abbrev cPs : Code := bodyOf Try.f24
noncomputable abbrev oPs1 : Array Oper := opsOf (cAt cPs [1, 0])
noncomputable abbrev oPs2 : Array Oper := opsOf (cAt cPs [1, 1, 0])
noncomputable abbrev oPs5 : Array Oper := opsOf (cAt cPs [1, 1, 1, 1, 0])
theorem ps_op12 : opAt oPs1 2 = some ⟨some 9, .makeSlice 63 (.tmp 8) (.tmp 8)⟩ := by kernel_rfl
theorem ps_op21 : opAt oPs2 1 = some ⟨some 11, .call { callee := .value (.func 47), args := #[.tmp 10], argTypes := #[34] }⟩ := by kernel_rfl
theorem ps_op23 : opAt oPs2 3 = some ⟨some 13, .call { callee := .value (.func 47), args := #[.tmp 12], argTypes := #[34] }⟩ := by kernel_rfl
noncomputable abbrev psCall : Call := match opAt oPs2 4 with
  | some (_, .call c) => c
  | _ => default
theorem ps_op24 : opAt oPs2 4 = some ⟨some 14, .call psCall⟩ := by kernel_rfl
theorem ps_c24 : psCall.callee = .value (.func 50) := by kernel_rfl
theorem ps_a24 : psCall.args = #[.tmp 5, .tmp 11, .tmp 13] := by kernel_rfl
noncomputable abbrev ptCall : Call := match opAt oPs5 3 with
  | some (_, .call c) => c
  | _ => default
theorem ps_op53 : opAt oPs5 3 = some ⟨some 20, .call ptCall⟩ := by kernel_rfl
theorem ps_c53 : ptCall.callee = .value (.func 51) := by kernel_rfl
theorem ps_a53 : ptCall.args = #[.tmp 19] := by kernel_rfl

section
variable (xs ys zs us : List Value) (n ca cb c c' b o b' o' : Nat) (g : Nat → Value) (T : Hp)
def psS : TS := ⟨[slc 21 n ca, slc 22 n cb].map some ++ List.replicate (21 - 2) none, hpA 21 [(b, o, false, xs), (b', o', false, ys)], [(21, b, o), (22, b', o')]⟩
theorem ps_0 : runV Try.prog (lookS [] [] []) 1 (cAt cPs [0]) ((psS xs ys n ca cb b o b' o').fill g T) 21 27 [(21, 21, false), (22, 22, false)] [0, 1] = some ⟨.normal, [(0, slc 21 n ca), (1, slc 22 n cb)], [(21, false, xs), (22, false, ys)], True⟩ := by kernel_rfl
theorem ps_1 : runLV Try.prog (lookS [] [] []) oPs1 (oPs1.toList.take 2) ((⟨mkT 21 [(0, slc 21 n ca), (1, slc 22 n cb)], mkT 27 [(21, false, xs), (22, false, ys)], []⟩ : TS).fill g T) 21 27 [(21, 21, false), (22, 22, false)] [8, 0, 1] =
    some ⟨.normal, [(8, num (lenI n)), (0, slc 21 n ca), (1, slc 22 n cb)], [(21, false, xs), (22, false, ys)], True ∧ n ≤ 9223372036854775807⟩ := by kernel_rfl
theorem ps_2 : runLV Try.prog (lookS [] [] []) oPs1 (oPs1.toList.drop 3) ((⟨mkT 21 [(9, slc 23 n n), (0, slc 21 n ca), (1, slc 22 n cb)], mkT 27 [(23, true, zs), (21, false, xs), (22, false, ys)], []⟩ : TS).fill g T) 21 27 [(5, 5, true), (23, 23, false), (21, 21, false), (22, 22, false)] [5, 0, 1] =
    some ⟨.normal, [(5, ptr 5), (0, slc 21 n ca), (1, slc 22 n cb)], [(5, true, [slc 23 n n]), (23, true, zs), (21, false, xs), (22, false, ys)], True⟩ := by kernel_rfl
theorem ps_3 : runLV Try.prog (lookS [] [] []) oPs2 (oPs2.toList.take 1) ((⟨mkT 21 [(5, ptr 5), (0, slc 21 n ca), (1, slc 22 n cb)], mkT 27 [(5, true, [slc 23 n n]), (23, true, zs), (21, false, xs), (22, false, ys)], []⟩ : TS).fill g T) 21 27 [(5, 5, true), (23, 23, false), (21, 21, false), (22, 22, false)] [10, 5, 1] =
    some ⟨.normal, [(10, slc 21 n ca), (5, ptr 5), (1, slc 22 n cb)], [(5, true, [slc 23 n n]), (23, true, zs), (21, false, xs), (22, false, ys)], True⟩ := by kernel_rfl
theorem ps_4 : runLV Try.prog (lookS [] [] []) oPs2 ((oPs2.toList.drop 2).take 1) ((⟨mkT 21 [(11, slc 24 n c), (5, ptr 5), (1, slc 22 n cb)], mkT 27 [(24, true, us), (5, true, [slc 23 n n]), (23, true, zs), (22, false, ys)], []⟩ : TS).fill g T) 21 27 [(24, 24, false), (5, 5, true), (23, 23, false), (22, 22, false)] [12, 11, 5] =
    some ⟨.normal, [(12, slc 22 n cb), (11, slc 24 n c), (5, ptr 5)], [(24, true, us), (5, true, [slc 23 n n]), (23, true, zs), (22, false, ys)], True⟩ := by kernel_rfl
theorem ps_5 : runLV Try.prog (lookS [] [] []) oPs2 (oPs2.toList.drop 5) ((⟨mkT 21 [(14, ptr 5)], mkT 27 [(5, true, [slc 23 n n]), (23, true, us)], []⟩ : TS).fill g T) 21 27 [(5, 5, true), (23, 23, false)] [6] =
    some ⟨.normal, [(6, ptr 5)], [(5, true, [slc 23 n n]), (23, true, us)], True⟩ := by kernel_rfl
theorem ps_6 : runV Try.prog (lookS [] [] []) 1 (cAt cPs [1, 1, 1, 0]) ((⟨mkT 21 [(6, ptr 5)], mkT 27 [(5, true, [slc 23 n n]), (23, true, us)], []⟩ : TS).fill g T) 21 27 [(5, 5, true), (23, 23, false)] [6] =
    some ⟨.normal, [(6, ptr 5)], [(5, true, [slc 23 n n]), (23, true, us)], True⟩ := by kernel_rfl
theorem ps_7 : runLV Try.prog (lookS [] [] []) oPs5 (oPs5.toList.take 3) ((⟨mkT 21 [(6, ptr 5)], mkT 27 [(5, true, [slc 23 n n]), (23, true, us)], []⟩ : TS).fill g T) 21 27 [(23, 23, false)] [19] =
    some ⟨.normal, [(19, slc 23 n n)], [(23, true, us)], True⟩ := by kernel_rfl
theorem ps_8 : runLV Try.prog (lookS [] [] []) oPs5 (oPs5.toList.drop 4) ((⟨mkT 21 [(20, slc 26 n c)], mkT 27 [(26, true, us)], []⟩ : TS).fill g T) 21 27 [(26, 26, false)] [4] =
    some ⟨.normal, [(4, slc 26 n c)], [(26, true, us)], True⟩ := by kernel_rfl
theorem ps_9 : runV Try.prog (lookS [] [] []) 1 (cAt cPs [1, 1, 1, 1, 1]) ((⟨mkT 21 [(4, slc 26 n c)], mkT 27 [(26, true, us)], []⟩ : TS).fill g T) 21 27 [(26, 26, false)] [4] =
    some ⟨.ret, [(4, slc 26 n c)], [(26, true, us)], True⟩ := by kernel_rfl
theorem ps_vres : vres Try.prog Try.f24 ((⟨mkT 21 [(4, slc 26 n c)], mkT 27 [(26, true, us)], []⟩ : TS).fill g T) = some (slc 26 n c) := by kernel_rfl
end

/-- An operation of a region as it stands in its place. -/
theorem ops_at {ops : Array Oper} {k : Nat} {d : Option Tmp} {op : Op} (h : opAt ops k = some (d, op)) : ∃ o : Oper, o.guard = none ∧ o.dst = d ∧ o.op = op ∧ ops.toList.drop k = o :: ops.toList.drop (k + 1) := ops_drop h

theorem ps_tri {xs ys : List L4} (hx : okL xs) (hy : okL ys) (hφ : ∀ (i : Nat) (h : i < xs.length) (h' : i < ys.length), lowm rL xs[i] ys[i]) (he : xs.length = ys.length) (hpos : 0 < xs.length) (hn : xs.length ≤ 16777216) (ca cb b o b' o' : Nat) :
    Tri Try.prog cPs (psS (flatL xs) (flatL ys) xs.length ca cb b o b' o') fun e τ' => e = .ret ∧ ∃ c sp, (flatL (List.zipWith (subm rL) xs ys) ++ sp).length = c * 4 ∧ xs.length ≤ c ∧ Flat sp ∧ τ' = ⟨mkT 21 [(4, slc 26 xs.length c)], mkT 27 [(26, true, flatL (List.zipWith (subm rL) xs ys) ++ sp)], []⟩ := by
  have ok : ∀ {al ta}, EnvOK Try.prog (lookS [] al ta) := lookS_ok env_nil
  have fx := flatL_flat xs
  have fy := flatL_flat ys
  have hul : (List.zipWith (subm rL) xs ys).length = xs.length := by simp [← he]
  have fu := flatL_flat (List.zipWith (subm rL) xs ys)
  have fz := flatL_flat (List.replicate xs.length z4)
  refine tri_next (τ1 := ⟨mkT 21 [(0, slc 21 xs.length ca), (1, slc 22 xs.length cb)], mkT 27 [(21, false, flatL xs), (22, false, flatL ys)], []⟩) (by kernel_rfl) (tri_run ok follows (ps_0 _ _ _ ca cb b o b' o') (by decide) trivial (alT_nil _ _ _) ⟨fx, fy, trivial⟩ (locK_nil _ _) ⟨rfl, rfl⟩) ?_
  refine tri_next (τ1 := ⟨mkT 21 [(5, ptr 5), (0, slc 21 xs.length ca), (1, slc 22 xs.length cb)], mkT 27 [(5, true, [slc 23 xs.length xs.length]), (23, true, flatL (List.replicate xs.length z4)), (21, false, flatL xs), (22, false, flatL ys)], []⟩) (by kernel_rfl) ?_ ?_
  · refine tri_region' (by kernel_rfl) ?_
    show TriL _ oPs1 oPs1.toList _ _
    rw [← List.take_append_drop 2 oPs1.toList]
    refine tril_run ok (ps_1 _ _ _ ca cb) (by decide) ⟨trivial, by omega⟩ (alT_nil _ _ _) ⟨fx, fy, trivial⟩ (locK_nil _ _) ?_
    rw [lenI_eq (show xs.length ≤ 9223372036854775807 by omega)]
    obtain ⟨o1, g1, d1, p1, e1⟩ := ops_drop ps_op12
    rw [e1]
    obtain ⟨ti, hi, _, hsz, hby⟩ := info_of ps_info
    refine tril_step (m := 27) (v' := slc 23 xs.length xs.length) (live := [(0, slc 21 xs.length ca), (1, slc 22 xs.length cb)]) (ks := [(9, 23, false, true, repL xs.length z4.cells), (21, 21, false, false, flatL xs), (22, 22, false, false, flatL ys)]) (loc := [])
      (steps_make (n := xs.length) (d := 9) p1 ps_und ps_sz ps_zero hi (by decide) (by decide) (by decide) (by omega) hpos hn rfl rfl (fun g => rfl) (fun g => rfl) rfl (fun k hk => by
        simp only [List.mem_cons, List.not_mem_nil, or_false] at hk
        rcases hk with rfl | rfl | rfl
        · exact .inl ⟨rfl, rfl⟩
        · exact .inr ⟨show (21 : Nat) ≠ 9 by decide, rfl⟩
        · exact .inr ⟨show (22 : Nat) ≠ 9 by decide, rfl⟩)) d1 (fun g => by simp only [wantedS, g1]) (by rw [mkT_length]; decide) rfl (fun p hp => by
        simp only [List.mem_cons, List.not_mem_nil, or_false] at hp
        rcases hp with rfl | rfl
        · exact ⟨show (0 : Nat) ≠ 9 by decide, _, fun g => rfl, rfl⟩
        · exact ⟨show (1 : Nat) ≠ 9 by decide, _, fun g => rfl, rfl⟩) (fun k hk => by
        simp only [List.mem_cons, List.not_mem_nil, or_false] at hk
        rcases hk with rfl | rfl | rfl
        · intro _; simp only; rw [repL_flat]; exact fz
        · exact fun _ => fx
        · exact fun _ => fy) rfl (fun q b o h => by simp at h) ?_
    rw [repL_flat]
    have := tril_run (rest := []) (K := fun τ' => Xt.normal = .normal ∧ τ' = ⟨mkT 21 [(5, ptr 5), (0, slc 21 xs.length ca), (1, slc 22 xs.length cb)], mkT 27 [(5, true, [slc 23 xs.length xs.length]), (23, true, flatL (List.replicate xs.length z4)), (21, false, flatL xs), (22, false, flatL ys)], []⟩) ok (ps_2 (flatL xs) (flatL ys) (flatL (List.replicate xs.length z4)) xs.length ca cb) (by decide) trivial (alT_nil _ _ _) ⟨fz, fx, fy, trivial⟩ (locK_nil _ _) (tril_nil ⟨rfl, rfl⟩)
    rw [List.append_nil] at this
    exact this
  refine tri_next (τ1 := ⟨mkT 21 [(6, ptr 5)], mkT 27 [(5, true, [slc 23 xs.length xs.length]), (23, true, flatL (List.zipWith (subm rL) xs ys))], []⟩) (by kernel_rfl) ?_ ?_
  · refine tri_region' (by kernel_rfl) ?_
    show TriL _ oPs2 oPs2.toList _ _
    rw [← List.take_append_drop 1 oPs2.toList]
    refine tril_run ok (ps_3 _ _ _ _ ca cb) (by decide) trivial (alT_nil _ _ _) ⟨fz, fx, fy, trivial⟩ (locK_nil _ _) ?_
    obtain ⟨o1, g1, d1, p1, e1⟩ := ops_drop ps_op21
    rw [e1]
    refine tril_made (f := 47) (fn := Try.f47) (code := cmL) (dst := 11) (m := 27) (r := 21) (cap := ca) (d := 11) (h' := 24) (fl := false) (xs := xs) (ex := []) (live := [(5, ptr 5), (1, slc 22 xs.length cb)])
      (ks := [(5, 5, true, true, [slc 23 xs.length xs.length]), (23, 23, false, true, flatL (List.replicate xs.length z4)), (22, 22, false, false, flatL ys)]) (loc := []) p1 d1
      (fun g => by simp only [wantedS, g1]) rfl (by kernel_rfl) (by kernel_rfl) (by kernel_rfl) (fun g => rfl) (by rw [List.append_nil]; rfl) hx (mL_calls hx hpos (by omega)) rfl (by rw [mkT_length]; decide) (fun p hp => by
        simp only [List.mem_cons, List.not_mem_nil, or_false] at hp
        rcases hp with rfl | rfl
        · exact ⟨show (5 : Nat) ≠ 11 by decide, _, fun g => rfl, rfl⟩
        · exact ⟨show (1 : Nat) ≠ 11 by decide, _, fun g => rfl, rfl⟩) (fun k hk => by
        simp only [List.mem_cons, List.not_mem_nil, or_false] at hk
        rcases hk with rfl | rfl | rfl
        · exact ⟨rfl, fun h => absurd h (show ¬ (true = false) by decide), show (5 : Nat) ≠ 11 by decide⟩
        · exact ⟨rfl, fun _ => fz, show (23 : Nat) ≠ 11 by decide⟩
        · exact ⟨rfl, fun _ => fy, show (22 : Nat) ≠ 11 by decide⟩) rfl (fun q b o h => by simp at h) ?_
    intro c sp h1 h2 fs
    have fa : Flat (flatL xs ++ sp) := flat_app fx fs
    rw [ops_part oPs2.toList 2 1 3 rfl]
    refine tril_run ok (ps_4 _ _ _ _ cb c) (by decide) trivial (alT_nil _ _ _) ⟨fa, fz, fy, trivial⟩ (locK_nil _ _) ?_
    obtain ⟨o2, g2, d2, p2, e2⟩ := ops_drop ps_op23
    rw [e2]
    refine tril_made (f := 47) (fn := Try.f47) (code := cmL) (dst := 13) (m := 27) (r := 22) (cap := cb) (d := 13) (h' := 25) (fl := false) (xs := ys) (ex := []) (live := [(11, slc 24 xs.length c), (5, ptr 5)])
      (ks := [(24, 24, false, true, flatL xs ++ sp), (5, 5, true, true, [slc 23 xs.length xs.length]), (23, 23, false, true, flatL (List.replicate xs.length z4))]) (loc := []) p2 d2
      (fun g => by simp only [wantedS, g2]) rfl (by kernel_rfl) (by kernel_rfl) (by kernel_rfl) (fun g => by rw [← he]; rfl) (by rw [List.append_nil]; rfl) hy (mL_calls hy (he ▸ hpos) (by omega)) rfl (by rw [mkT_length]; decide) (fun p hp => by
        simp only [List.mem_cons, List.not_mem_nil, or_false] at hp
        rcases hp with rfl | rfl
        · exact ⟨show (11 : Nat) ≠ 13 by decide, _, fun g => rfl, rfl⟩
        · exact ⟨show (5 : Nat) ≠ 13 by decide, _, fun g => rfl, rfl⟩) (fun k hk => by
        simp only [List.mem_cons, List.not_mem_nil, or_false] at hk
        rcases hk with rfl | rfl | rfl
        · exact ⟨rfl, fun _ => fa, show (24 : Nat) ≠ 13 by decide⟩
        · exact ⟨rfl, fun h => absurd h (show ¬ (true = false) by decide), show (5 : Nat) ≠ 13 by decide⟩
        · exact ⟨rfl, fun _ => fz, show (23 : Nat) ≠ 13 by decide⟩) rfl (fun q b o h => by simp at h) ?_
    intro c' sp' h1' h2' fs'
    rw [← he]
    obtain ⟨o3, g3, d3, p3, e3⟩ := ops_drop ps_op24
    rw [e3]
    have hnil : flatL (List.zipWith (subm rL) xs ys) ++ (flatL (List.replicate xs.length z4)).drop (flatL (List.zipWith (subm rL) xs ys)).length = flatL (List.zipWith (subm rL) xs ys) := by
      rw [List.drop_eq_nil_of_le (by rw [flatL_length, flatL_length, hul]; simp), List.append_nil]
    refine tril_step (m := 27) (dst := 14) (v' := ptr 5) (live := []) (ks := [(5, 5, true, true, [slc 23 xs.length xs.length]), (23, 23, false, true, flatL (List.zipWith (subm rL) xs ys))]) (loc := [])
      (steps_wcall (vs := [ptr 5, slc 24 xs.length c, slc 25 xs.length c']) (v := ptr 5) (r := 23) (cs := flatL (List.replicate xs.length z4)) (new := flatL (List.zipWith (subm rL) xs ys)) (fn := Try.f50) (code := cSb) p3 ps_c24
        (fun x hx => by
          rw [ps_a24] at hx
          simp at hx
          rcases hx with rfl | rfl | rfl <;> rfl) (by kernel_rfl) (by kernel_rfl) (by kernel_rfl) (fun g => by rw [ps_a24]; rfl) rfl (by rw [flatL_length, flatL_length, hul]; simp) fu (fun u hu => flatL_ok0 (zip_ok (subm_ok rL) _ _) _ u hu) (fun T => ⟨rfl, _, rfl⟩) ?_
        (fun k hk => by
          simp only [List.mem_cons, List.not_mem_nil, or_false] at hk
          rcases hk with rfl | rfl
          · exact .inr ⟨show (5 : Nat) ≠ 23 by decide, rfl⟩
          · exact .inl ⟨rfl, by rw [hnil]⟩)) d3 (fun g => by simp only [wantedS, g3]) (by (repeat rw [mkT_length]); decide) rfl (fun p hp => by simp at hp) (fun k hk => by
          simp only [List.mem_cons, List.not_mem_nil, or_false] at hk
          rcases hk with rfl | rfl
          · exact fun h => absurd h (show ¬ (true = false) by decide)
          · exact fun _ => fu) rfl (fun q b o h => by simp at h) ?_
    · intro w0 W g T ρ a w hs _
      have c0 := hs.inv.cell 5 true [slc 23 xs.length xs.length] rfl 0 _ rfl
      have l0 := listIn_of hs.inv (r := 23) (f := true) (xs := List.replicate xs.length z4) (ex := []) (by rw [List.append_nil]; rfl)
      have l1 := listIn_of hs.inv (r := 24) (f := true) (xs := xs) (ex := sp) rfl
      have l2 := listIn_of hs.inv (r := 25) (f := true) (xs := ys) (ex := sp') rfl
      exact sb_calls (okL_zero _) hx hy hφ (by simp) he (by omega) (cx := c) (cy := c') (p := ⟨(ρ 5).1, (ρ 5).2, (ρ 23).1, (ρ 23).2, (ρ 24).1, (ρ 24).2, (ρ 25).1, (ρ 25).2⟩) c0 l0 l1 l2
        (fun i hi => (hs.inv.own 23 (flatL (List.replicate xs.length z4)) rfl i hi).1)
        (fun i hi => hs.inv.dis 23 5 true (flatL (List.replicate xs.length z4)) true [slc 23 xs.length xs.length] (by decide) rfl rfl rfl i 0 hi (by simp))
        (fun i j hi hj => hs.inv.dis 23 24 true (flatL (List.replicate xs.length z4)) true (flatL xs ++ sp) (by decide) rfl rfl rfl i j hi (by rw [List.length_append]; omega))
        (fun i j hi hj => hs.inv.dis 23 25 true (flatL (List.replicate xs.length z4)) true (flatL ys ++ sp') (by decide) rfl rfl rfl i j hi (by rw [List.length_append]; omega))
    · have := tril_run (rest := []) (K := fun τ' => Xt.normal = .normal ∧ τ' = ⟨mkT 21 [(6, ptr 5)], mkT 27 [(5, true, [slc 23 xs.length xs.length]), (23, true, flatL (List.zipWith (subm rL) xs ys))], []⟩) ok (ps_5 (flatL (List.zipWith (subm rL) xs ys)) xs.length) (by decide) trivial (alT_nil _ _ _) ⟨fu, trivial⟩ (locK_nil _ _) (tril_nil ⟨rfl, rfl⟩)
      rw [List.append_nil] at this
      exact this
  refine tri_next (τ1 := ⟨mkT 21 [(6, ptr 5)], mkT 27 [(5, true, [slc 23 xs.length xs.length]), (23, true, flatL (List.zipWith (subm rL) xs ys))], []⟩) (by kernel_rfl) (tri_run ok follows (ps_6 _ _) (by decide) trivial (alT_nil _ _ _) ⟨fu, trivial⟩ (locK_nil _ _) ⟨rfl, rfl⟩) ?_
  refine tri_seq' (K1 := fun e τ' => e = .normal ∧ ∃ c sp, (flatL (List.zipWith (subm rL) xs ys) ++ sp).length = c * 4 ∧ xs.length ≤ c ∧ Flat sp ∧ τ' = ⟨mkT 21 [(4, slc 26 xs.length c)], mkT 27 [(26, true, flatL (List.zipWith (subm rL) xs ys) ++ sp)], []⟩) (by kernel_rfl) ?_ ?_ (fun _ _ he h => absurd h.1 he)
  · refine tri_region' (by kernel_rfl) ?_
    show TriL _ oPs5 oPs5.toList _ _
    rw [← List.take_append_drop 3 oPs5.toList]
    refine tril_run ok (ps_7 _ _) (by decide) trivial (alT_nil _ _ _) ⟨fu, trivial⟩ (locK_nil _ _) ?_
    obtain ⟨o1, g1, d1, p1, e1⟩ := ops_drop ps_op53
    rw [e1]
    refine tril_gain (f := 51) (fn := Try.f51) (code := ctL) (dst := 20) (m := 27) (d := 20) (h' := 26) (us := List.zipWith (subm rL) xs ys) (vs := [slc 23 xs.length xs.length]) (live := []) (ks := []) (loc := []) p1 d1 ps_c53
      (fun g => by simp only [wantedS, g1]) (fun x hx => by rw [ps_a53] at hx; simp at hx; subst hx; rfl) (by kernel_rfl) (by kernel_rfl) (by kernel_rfl) (fun g => by rw [ps_a53]; rfl) (zip_ok (subm_ok rL) _ _) ?_ rfl (by rw [mkT_length]; decide) (fun p hp => by simp at hp) (fun k hk => by simp at hk) rfl (fun q b o h => by simp at h) ?_
    · intro w0 W g T ρ a w hs _
      have l0 := listIn_of hs.inv (r := 23) (f := true) (xs := List.zipWith (subm rL) xs ys) (ex := []) (by rw [List.append_nil]; rfl)
      have := tL_calls (zip_ok (subm_ok rL) xs ys) (by rw [hul]; exact hpos) (by rw [hul]; omega) xs.length (ρ 23).1 (ρ 23).2 w l0
      rw [hul] at this
      exact this
    · intro c sp h1 h2 fs
      rw [hul] at h2
      rw [hul]
      have fa : Flat (flatL (List.zipWith (subm rL) xs ys) ++ sp) := flat_app fu fs
      have := tril_run (rest := []) (K := fun τ' => Xt.normal = .normal ∧ ∃ c sp, (flatL (List.zipWith (subm rL) xs ys) ++ sp).length = c * 4 ∧ xs.length ≤ c ∧ Flat sp ∧ τ' = ⟨mkT 21 [(4, slc 26 xs.length c)], mkT 27 [(26, true, flatL (List.zipWith (subm rL) xs ys) ++ sp)], []⟩) ok (ps_8 (flatL (List.zipWith (subm rL) xs ys) ++ sp) xs.length c) (by decide) trivial (alT_nil _ _ _) ⟨fa, trivial⟩ (locK_nil _ _) (tril_nil ⟨rfl, c, sp, h1, h2, fs, rfl⟩)
      rw [List.append_nil] at this
      exact this
  · rintro τ1 ⟨_, c, sp, h1, h2, fs, rfl⟩
    exact tri_run ok follows (ps_9 _ _ c) (by decide) trivial (alT_nil _ _ _) ⟨flat_app fu fs, trivial⟩ (locK_nil _ _) ⟨rfl, c, sp, h1, h2, fs, rfl⟩
/-- What impl.PolySub yields: the differences, in a new row. -/
theorem ps_calls {xs ys : List L4} (hx : okL xs) (hy : okL ys) (hφ : ∀ (i : Nat) (h : i < xs.length) (h' : i < ys.length), lowm rL xs[i] ys[i]) (he : xs.length = ys.length) (hpos : 0 < xs.length) (hn : xs.length ≤ 16777216) (ca cb b o b' o' : Nat) (w : World) (h1 : ListIn w b o xs) (h2 : ListIn w b' o' ys) :
    Calls Try.prog 24 #[.slice (some ⟨b, o, none⟩) xs.length ca, .slice (some ⟨b', o', none⟩) xs.length cb] w (MadeR (List.zipWith (subm rL) xs ys) w) := by
  have hf : Try.prog.funcs[24]? = some Try.f24 := by kernel_rfl
  have hb : Try.f24.body = some cPs := by kernel_rfl
  have hul : (List.zipWith (subm rL) xs ys).length = xs.length := by simp [← he]
  have h0 := start_LL (nt := 21) (n := xs.length) (n' := xs.length) (ca := ca) (cb := cb) hx hy h1 h2
  refine calls_of_tri hf hb h0 (ps_tri hx hy hφ he hpos hn ca cb b o b' o') ?_
  rintro e τ' ⟨rfl, c, sp, k1, k2, k3, rfl⟩
  refine ⟨by simp, fun a' w' hs => ?_⟩
  exact madeR_of (fn := Try.f24) (us := List.zipWith (subm rL) xs ys) (by rw [hul]; exact hpos) (fun g T => by rw [hul]; exact ps_vres _ _ _ g T) (fun T => rfl) k1 (by rw [hul]; exact k2) k3 hs
end Go.Proofs.Ytbbifiogcpcpfaa
