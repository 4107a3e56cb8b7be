/-
  The law FnPolyDegree: the walk, its last region and the whole.
-/
import Derived.Test.YtbbifiogcpcpfaaLawDeg2
namespace Go.Proofs.Ytbbifiogcpcpfaa
open Vm

section
variable {xs ys : List L4} (hx : okL xs) (hy : okL ys) (hpx : 0 < xs.length) (hpy : 0 < ys.length) (hnx : xs.length ≤ 2147483647) (hny : ys.length ≤ 2147483647) (ca cb : Nat)
include hx hy hpx hpy hnx hny

theorem fd5_tri : Tri Try.prog (cAt cFD [1, 1, 1, 0]) (fdT xs.length ca ys.length cb (flatL xs) (flatL ys)) fun e τ' => e = .normal ∧ τ' = ⟨mkT 57 [(4, .bool true)], mkT 60 [], []⟩ := by
  have ok : ∀ {al ta}, EnvOK Try.prog (lookS [] al ta) := lookS_ok env_nil
  have fx := flatL_flat xs
  have fy := flatL_flat ys
  have ex : lenI xs.length = xs.length := lenI_eq (by omega)
  have ey : lenI ys.length = ys.length := lenI_eq (by omega)
  refine tri_region' (by kernel_rfl) ?_
  show TriL _ oF5 oF5.toList _ _
  rw [← List.take_append_drop 1 oF5.toList]
  refine tril_run ok (fd5_0 _ ca _ cb _ _) (by decide) trivial (alT_nil _ _ _) ⟨fx, fy, trivial⟩ (locK_nil _ _) ?_
  -- the degree
  obtain ⟨o1, g1, d1, p1, e1⟩ := ops_dropG fd_op5_1
  rw [e1]
  refine tril_scalar (vs := [slc 57 xs.length ca]) (v := num ((xs.length - 1 : Nat) : Int)) (dst := 31) (m := 60) (live := [(0, slc 57 xs.length ca), (1, slc 58 ys.length cb)]) (ks := ksF (flatL xs) (flatL ys)) (loc := [])
    (fn := Try.f21) (code := cPd) p1 d1 rfl (fun g => by simp only [wantedS, g1]) (fun x hx => by simp at hx; subst hx; rfl) (by kernel_rfl) (by kernel_rfl) (by kernel_rfl) (fun g => rfl) ?_
    ⟨by show (-9223372036854775808 : Int) ≤ _; omega, by show _ ≤ (9223372036854775807 : Int); omega⟩ (by rw [mkT_length]; decide) (fun p hp => by
      simp only [List.mem_cons, List.not_mem_nil, or_false] at hp
      rcases hp with rfl | rfl
      · exact ⟨show (0 : Nat) ≠ 31 by decide, _, fun g => rfl, rfl⟩
      · exact ⟨show (1 : Nat) ≠ 31 by decide, _, fun g => rfl, rfl⟩) (fun k hk => by
      simp only [List.mem_cons, List.not_mem_nil, or_false] at hk
      rcases hk with rfl | rfl
      · exact ⟨rfl, fun _ => fx⟩
      · exact ⟨rfl, fun _ => fy⟩) rfl (fun q b o h => by simp at h) ?_
  · intro w0 W g T ρ a w hs _
    exact pd_calls hx hpx (by omega) ca (ρ 57).1 ((ρ 57).2 + 0) w (listIn_of hs.inv (r := 57) (f := false) (xs := xs) (ex := []) (by rw [List.append_nil]; rfl))
  rw [ops_part oF5.toList 2 7 9 rfl]
  refine tril_run ok (fd5_1 _ _ ca _ cb _ _) (by decide) ⟨⟨trivial, by omega⟩, by
    rw [ex, IntWalk.i64_in _ (by omega)]
    exact beq_iff_eq.2 (by omega)⟩ (alT_nil _ _ _) ⟨fx, fy, trivial⟩ (locK_nil _ _) ?_
  -- equal to itself
  obtain ⟨o2, g2, d2, p2, e2⟩ := ops_dropG fd_op5_9
  rw [e2]
  refine tril_scalar (vs := [slc 57 xs.length ca, slc 57 xs.length ca]) (v := .bool true) (dst := 39) (m := 60) (live := [(36, .bool true), (0, slc 57 xs.length ca), (1, slc 58 ys.length cb)]) (ks := ksF (flatL xs) (flatL ys)) (loc := [])
    (fn := Try.f22) (code := cPe) p2 d2 rfl (fun g => wanted_of g2 (g5_6 rfl)) (fun x hx => by simp at hx; rcases hx with rfl | rfl <;> rfl) (by kernel_rfl) (by kernel_rfl) (by kernel_rfl) (fun g => rfl) ?_
    trivial (by (repeat rw [mkT_length]); decide) (fun p hp => by
      simp only [List.mem_cons, List.not_mem_nil, or_false] at hp
      rcases hp with rfl | rfl | rfl
      · exact ⟨show (36 : Nat) ≠ 39 by decide, _, fun g => rfl, rfl⟩
      · exact ⟨show (0 : Nat) ≠ 39 by decide, _, fun g => rfl, rfl⟩
      · exact ⟨show (1 : Nat) ≠ 39 by decide, _, fun g => rfl, rfl⟩) (fun k hk => by
      simp only [List.mem_cons, List.not_mem_nil, or_false] at hk
      rcases hk with rfl | rfl
      · exact ⟨rfl, fun _ => fx⟩
      · exact ⟨rfl, fun _ => fy⟩) rfl (fun q b o h => by simp at h) ?_
  · intro w0 W g T ρ a w hs _
    have hl := listIn_of hs.inv (r := 57) (f := false) (xs := xs) (ex := []) (by rw [List.append_nil]; rfl)
    have := pe_calls hx hx rfl hpx (by omega) ca ca (ρ 57).1 ((ρ 57).2 + 0) (ρ 57).1 ((ρ 57).2 + 0) w hl hl
    rw [sameB_iff.2 (rfl : xs = xs)] at this
    exact this
  by_cases he : xs.length = ys.length
  · rw [ops_part oF5.toList 10 10 20 rfl]
    refine tril_run ok (fd5_3 _ ca _ cb _ _) (by decide) ⟨⟨⟨trivial, by omega⟩, by omega⟩, by rw [he]; exact bne_self_eq_false _⟩ (alT_nil _ _ _) ⟨fx, fy, trivial⟩ (locK_nil _ _) ?_
    obtain ⟨o3, g3, d3, p3, e3⟩ := ops_dropG fd_op5_20
    rw [e3]
    refine tril_scalar (vs := [slc 57 xs.length ca, slc 58 ys.length cb]) (v := .bool (sameB xs ys)) (dst := 50) (m := 60) (live := [(41, .bool true), (47, .bool false), (0, slc 57 xs.length ca), (1, slc 58 ys.length cb)]) (ks := ksF (flatL xs) (flatL ys)) (loc := [])
      (fn := Try.f22) (code := cPe) p3 d3 rfl (fun g => wanted_of g3 (g5_17 rfl)) (fun x hx => by simp at hx; rcases hx with rfl | rfl <;> rfl) (by kernel_rfl) (by kernel_rfl) (by kernel_rfl) (fun g => rfl) ?_
      trivial (by (repeat rw [mkT_length]); decide) (fun p hp => by
        simp only [List.mem_cons, List.not_mem_nil, or_false] at hp
        rcases hp with rfl | rfl | rfl | rfl
        · exact ⟨show (41 : Nat) ≠ 50 by decide, _, fun g => rfl, rfl⟩
        · exact ⟨show (47 : Nat) ≠ 50 by decide, _, fun g => rfl, rfl⟩
        · exact ⟨show (0 : Nat) ≠ 50 by decide, _, fun g => rfl, rfl⟩
        · exact ⟨show (1 : Nat) ≠ 50 by decide, _, fun g => rfl, rfl⟩) (fun k hk => by
        simp only [List.mem_cons, List.not_mem_nil, or_false] at hk
        rcases hk with rfl | rfl
        · exact ⟨rfl, fun _ => fx⟩
        · exact ⟨rfl, fun _ => fy⟩) rfl (fun q b o h => by simp at h) ?_
    · intro w0 W g T ρ a w hs _
      have h1 := listIn_of hs.inv (r := 57) (f := false) (xs := xs) (ex := []) (by rw [List.append_nil]; rfl)
      have h2 := listIn_of hs.inv (r := 58) (f := false) (xs := ys) (ex := []) (by rw [List.append_nil]; rfl)
      exact pe_calls hx hy he hpx (by omega) ca cb (ρ 57).1 ((ρ 57).2 + 0) (ρ 58).1 ((ρ 58).2 + 0) w h1 h2
    rw [ops_part oF5.toList 21 2 23 rfl]
    refine tril_run ok (fd5_4 _ _ ca _ cb _ _) (by decide) trivial (alT_nil _ _ _) ⟨fx, fy, trivial⟩ (locK_nil _ _) ?_
    obtain ⟨o4, g4, d4, p4, e4⟩ := ops_dropG fd_op5_23
    rw [e4]
    refine tril_scalar (vs := [slc 57 xs.length ca, slc 58 ys.length cb]) (v := .bool (sameB xs ys)) (dst := 53) (m := 60) (live := [(50, .bool (sameB xs ys)), (41, .bool true), (47, .bool false)]) (ks := []) (loc := [])
      (fn := Try.f23) (code := cSa) p4 d4 rfl (fun g => wanted_of g4 (g5_17 rfl)) (fun x hx => by simp at hx; rcases hx with rfl | rfl <;> rfl) (by kernel_rfl) (by kernel_rfl) (by kernel_rfl) (fun g => rfl) ?_
      trivial (by (repeat rw [mkT_length]); decide) (fun p hp => by
        simp only [List.mem_cons, List.not_mem_nil, or_false] at hp
        rcases hp with rfl | rfl | rfl
        · exact ⟨show (50 : Nat) ≠ 53 by decide, _, fun g => rfl, rfl⟩
        · exact ⟨show (41 : Nat) ≠ 53 by decide, _, fun g => rfl, rfl⟩
        · exact ⟨show (47 : Nat) ≠ 53 by decide, _, fun g => rfl, rfl⟩) (fun k hk => by simp at hk) rfl (fun q b o h => by simp at h) ?_
    · intro w0 W g T ρ a w hs _
      have h1 := listIn_of hs.inv (r := 57) (f := false) (xs := xs) (ex := []) (by rw [List.append_nil]; rfl)
      have h2 := listIn_of hs.inv (r := 58) (f := false) (xs := ys) (ex := []) (by rw [List.append_nil]; rfl)
      exact same_calls xs ys hx hy he ca cb (ρ 57).1 ((ρ 57).2 + 0) (ρ 58).1 ((ρ 58).2 + 0) (by omega) w h1 h2
    have := tril_run (rest := []) (K := fun τ' => Xt.normal = .normal ∧ τ' = ⟨mkT 57 [(4, .bool true)], mkT 60 [], []⟩) ok (fd5_5 (sameB xs ys) (sameB xs ys)) (by decide) ⟨trivial, beq_self_eq_true _⟩ (alT_nil _ _ _) trivial (locK_nil _ _) (tril_nil ⟨rfl, rfl⟩)
    rw [List.append_nil] at this
    exact this
  · have := tril_run (rest := []) (K := fun τ' => Xt.normal = .normal ∧ τ' = ⟨mkT 57 [(4, .bool true)], mkT 60 [], []⟩) ok (fd5_2 xs.length ca ys.length cb (flatL xs) (flatL ys)) (by decide) ⟨⟨⟨trivial, by omega⟩, by omega⟩, by
      rw [ex, ey]; exact bne_iff_ne.2 (by omega)⟩ (alT_nil _ _ _) trivial (locK_nil _ _) (tril_nil ⟨rfl, rfl⟩)
    rw [List.append_nil] at this
    exact this
end

theorem fd_tri {xs ys : List L4} (hx : okL xs) (hy : okL ys) (hnx : xs.length ≤ 9223372036854775807) (hny : ys.length ≤ 9223372036854775807) {va vb : Value} (ha : SV 57 va xs.length) (hb : SV 58 vb ys.length) (b o b' o' : Nat) :
    Tri Try.prog cFD (fdS va vb (flatL xs) (flatL ys) b o b' o') fun e τ' => e = .ret ∧ τ'.tm = mkT 57 [(4, .bool true)] := by
  have ok : ∀ {al ta}, EnvOK Try.prog (lookS [] al ta) := lookS_ok env_nil
  have fx := flatL_flat xs
  have fy := flatL_flat ys
  have ex : lenI xs.length = xs.length := lenI_eq hnx
  have ey : lenI ys.length = ys.length := lenI_eq hny
  have hva : ∃ qa ca, va = .slice qa xs.length ca := by
    rcases ha with ⟨rfl, h⟩ | ⟨c, rfl⟩
    · exact ⟨none, 0, by rw [h]⟩
    · exact ⟨_, c, rfl⟩
  have hvb : ∃ qb cb, vb = .slice qb ys.length cb := by
    rcases hb with ⟨rfl, h⟩ | ⟨c, rfl⟩
    · exact ⟨none, 0, by rw [h]⟩
    · exact ⟨_, c, rfl⟩
  obtain ⟨qa, ca', ea⟩ := hva
  obtain ⟨qb, cb', eb⟩ := hvb
  have gt : ∀ {n : Nat}, n ≤ 9223372036854775807 → 2147483647 < n → decide (lenI n > bdA) = true := fun h1 h2 => decide_eq_true (by rw [lenI_eq h1]; show (2147483647 : Int) < _; omega)
  have le : ∀ {n : Nat}, n ≤ 9223372036854775807 → n ≤ 2147483647 → decide (lenI n > bdA) = false := fun h1 h2 => decide_eq_false (by rw [lenI_eq h1]; show ¬ (2147483647 : Int) < _; omega)
  by_cases h1 : 2147483647 < xs.length
  · subst ea eb
    exact tri_run ok follows (fd_A1 qa qb _ ca' _ cb' _ _ b o b' o') (by decide) ⟨⟨trivial, hnx⟩, gt hnx h1⟩ (alT_nil _ _ _) trivial (locK_nil _ _) ⟨rfl, rfl⟩
  have hx1 : xs.length ≤ 2147483647 := by omega
  by_cases h2 : 2147483647 < ys.length
  · subst ea eb
    exact tri_run ok follows (fd_A2 qa qb _ ca' _ cb' _ _ b o b' o') (by decide) ⟨⟨⟨⟨trivial, hnx⟩, le hnx hx1⟩, hny⟩, gt hny h2⟩ (alT_nil _ _ _) trivial (locK_nil _ _) ⟨rfl, rfl⟩
  have hy1 : ys.length ≤ 2147483647 := by omega
  have vc : vcF xs.length ys.length := ⟨⟨⟨⟨trivial, hnx⟩, le hnx hx1⟩, hny⟩, le hny hy1⟩
  by_cases h3 : xs.length = 0
  · subst ea eb
    exact tri_run ok follows (fd_B1 qa qb _ ca' _ cb' _ _ b o b' o') (by decide) ⟨⟨vc, hnx⟩, by rw [ex, h3]; rfl⟩ (alT_nil _ _ _) trivial (locK_nil _ _) ⟨rfl, rfl⟩
  by_cases h4 : ys.length = 0
  · subst ea eb
    exact tri_run ok follows (fd_B2 qa qb _ ca' _ cb' _ _ b o b' o') (by decide) ⟨⟨⟨⟨vc, hnx⟩, len_ne hnx (by omega)⟩, hny⟩, by rw [ey, h4]; rfl⟩ (alT_nil _ _ _) trivial (locK_nil _ _) ⟨rfl, rfl⟩
  have hpx : 0 < xs.length := by omega
  have hpy : 0 < ys.length := by omega
  clear ea eb
  rcases ha with ⟨_, h⟩ | ⟨ca, rfl⟩
  · exact absurd h h3
  rcases hb with ⟨_, h⟩ | ⟨cb, rfl⟩
  · exact absurd h h4
  refine tri_next (τ1 := fdT xs.length ca ys.length cb (flatL xs) (flatL ys)) (by kernel_rfl) (tri_run ok follows (fd_0 _ ca _ cb _ _ b o b' o') (by decide) trivial (alT_nil _ _ _) ⟨fx, fy, trivial⟩ (locK_nil _ _) ⟨rfl, rfl⟩) ?_
  refine tri_next (τ1 := fdT xs.length ca ys.length cb (flatL xs) (flatL ys)) (by kernel_rfl) (tri_run ok follows (fd_1 _ ca _ cb _ _) (by decide) vc (alT_nil _ _ _) ⟨fx, fy, trivial⟩ (locK_nil _ _) ⟨rfl, rfl⟩) ?_
  refine tri_seq' (K1 := fun e τ1 => (e = .ret ∧ τ1.tm = mkT 57 [(4, .bool true)]) ∨ (e = .normal ∧ τ1 = fdT xs.length ca ys.length cb (flatL xs) (flatL ys))) (by kernel_rfl) ?_ ?_ ?_
  · refine tri_seq' (K1 := fun e τ' => e = .normal ∧ ∃ r, τ' = ⟨mkT 57 [(29, .bool r), (0, slc 57 xs.length ca), (1, slc 58 ys.length cb)], mkT 60 [(57, false, flatL xs), (58, false, flatL ys)], []⟩) (by kernel_rfl) (fd3_tri hx hy hpx hpy hx1 hy1 ca cb) ?_ (fun _ _ he h => absurd h.1 he)
    rintro τ1 ⟨_, r, rfl⟩
    cases r with
    | true => exact tri_run ok follows (fd_6 _ ca _ cb _ _) (by decide) trivial (alT_nil _ _ _) trivial (locK_nil _ _) (.inl ⟨rfl, rfl⟩)
    | false => exact tri_run ok follows (fd_7 _ ca _ cb _ _) (by decide) trivial (alT_nil _ _ _) ⟨fx, fy, trivial⟩ (locK_nil _ _) (.inr ⟨rfl, rfl⟩)
  · rintro τ1 (⟨h, _⟩ | ⟨_, rfl⟩)
    · cases h
    refine tri_next (τ1 := ⟨mkT 57 [(4, .bool true)], mkT 60 [], []⟩) (by kernel_rfl) (fd5_tri hx hy hpx hpy hx1 hy1 ca cb) ?_
    exact tri_run ok follows fd_ret (by decide) trivial (alT_nil _ _ _) trivial (locK_nil _ _) ⟨rfl, rfl⟩
  · rintro e τ1 he (h | ⟨h, _⟩)
    · exact h
    · exact absurd h he
end Go.Proofs.Ytbbifiogcpcpfaa
