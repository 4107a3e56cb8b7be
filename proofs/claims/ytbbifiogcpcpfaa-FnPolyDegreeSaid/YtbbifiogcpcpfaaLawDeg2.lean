/-
  The law FnPolyDegree: the walk.
-/
import Derived.Test.YtbbifiogcpcpfaaLawDeg1
import Derived.Test.YtbbifiogcpcpfaaLawL
import Derived.Test.YtbbifiogcpcpfaaListLow
namespace Go.Proofs.Ytbbifiogcpcpfaa
open Vm

theorem g3_8 {tm : List Value} (h : tm[21]? = some (.bool false)) : guardB oF3 tm 8 = some false := by
  unfold guardB; rw [fd_d8]; simp [h]
theorem g5_6 {tm : List Value} (h : tm[36]? = some (.bool true)) : guardB oF5 tm 6 = some true := by
  unfold guardB; rw [fd_d5_6]; simp [h]
theorem g5_17 {tm : List Value} (h : tm[47]? = some (.bool false)) : guardB oF5 tm 17 = some false := by
  unfold guardB; rw [fd_d5_17]; simp [h]
abbrev ksF (xs ys : List Value) : Kept := [(57, 57, false, false, xs), (58, 58, false, false, ys)]

section
variable {xs ys : List L4} (hx : okL xs) (hy : okL ys) (hpx : 0 < xs.length) (hpy : 0 < ys.length) (hnx : xs.length ≤ 2147483647) (hny : ys.length ≤ 2147483647) (ca cb : Nat)
include hx hy hpx hpy hnx hny

theorem fd3_tri : Tri Try.prog (cAt cFD [1, 1, 0, 0]) (fdT xs.length ca ys.length cb (flatL xs) (flatL ys)) fun e τ' => e = .normal ∧ ∃ r, τ' = ⟨mkT 57 [(29, .bool r), (0, slc 57 xs.length ca), (1, slc 58 ys.length cb)], mkT 60 [(57, false, flatL xs), (58, false, flatL ys)], []⟩ := by
  have ok : ∀ {al ta}, EnvOK Try.prog (lookS [] al ta) := lookS_ok env_nil
  have fx := flatL_flat xs
  have fy := flatL_flat ys
  refine tri_region' (by kernel_rfl) ?_
  show TriL _ oF3 oF3.toList _ _
  rw [← List.take_append_drop 9 oF3.toList]
  refine tril_run ok (fd_2 _ ca _ cb _ _) (by decide) ⟨⟨⟨⟨trivial, by omega⟩, len_ne (by omega) hpx⟩, by omega⟩, len_ne (by omega) hpy⟩ (alT_nil _ _ _) ⟨fx, fy, trivial⟩ (locK_nil _ _) ?_
  obtain ⟨o1, g1, d1, p1, e1⟩ := ops_dropG fd_op9
  rw [e1]
  refine tril_build0 (m := 60) (d := 22) (dst := 22) (h' := 59) (live := [(0, slc 57 xs.length ca), (1, slc 58 ys.length cb), (21, .bool false)]) (ks := ksF (flatL xs) (flatL ys)) (loc := []) p1 d1 (fun g => wanted_of g1 (g3_8 rfl)) fd_und fd_sz rfl (by rw [mkT_length]; decide) (fun p hp => by
      simp only [List.mem_cons, List.not_mem_nil, or_false] at hp
      rcases hp with rfl | rfl | rfl
      · exact ⟨show (0 : Nat) ≠ 22 by decide, _, fun g => rfl, rfl⟩
      · exact ⟨show (1 : Nat) ≠ 22 by decide, _, fun g => rfl, rfl⟩
      · exact ⟨show (21 : Nat) ≠ 22 by decide, _, fun g => rfl, rfl⟩) (fun k hk => by
      simp only [List.mem_cons, List.not_mem_nil, or_false] at hk
      rcases hk with rfl | rfl
      · exact ⟨rfl, fun _ => fx, show (57 : Nat) ≠ 22 by decide⟩
      · exact ⟨rfl, fun _ => fy, show (58 : Nat) ≠ 22 by decide⟩) rfl (fun q b o h => by simp at h) ?_
  rw [ops_part oF3.toList 10 1 11 rfl]
  refine tril_run ok (fd_3 _ ca _ cb _ _) (by decide) trivial (alT_nil _ _ _) ⟨fun v hv => by simp at hv, fx, fy, trivial⟩ (locK_nil _ _) ?_
  obtain ⟨o2, g2, d2, p2, e2⟩ := ops_dropG fd_op11
  rw [e2]
  obtain ⟨ti, hi, hz, hsz, hby⟩ := info_of fd_info
  refine tril_append (P := Try.prog) p2 d2 (e := 23) fd_und hi hz hsz hby (by decide) (by decide) (m := 60) (v := slc 59 0 0) (h := 59) (h' := 59) (d := 24) (n := 0) (q := 57) (oq := 0) (mm := xs.length) (c := ca) (xs := []) (sp := []) (news := flatL xs)
    (live := [(0, slc 57 xs.length ca), (1, slc 58 ys.length cb), (21, .bool false)]) (regs := [(57, false, flatL xs), (58, false, flatL ys)]) (loc := [])
    (fun g => wanted_of g2 (g3_8 rfl)) rfl rfl (fun g => rfl) (fun g => rfl) (fun T => ⟨.inr ⟨0, rfl, rfl, rfl, rfl, Nat.le_refl 0⟩⟩) (fun T => rd_all (b := false) rfl (by rw [flatL_length]; omega)) (fun v hv => by simp at hv) (fun v hv => by simp at hv) fx rfl hpx (by omega) (by rw [mkT_length]; decide) (fun p hp => by
      simp only [List.mem_cons, List.not_mem_nil, or_false] at hp
      rcases hp with rfl | rfl | rfl
      · exact ⟨show (0 : Nat) ≠ 24 by decide, fun g => rfl, fun d' h => by rcases h with rfl | rfl <;> rfl⟩
      · exact ⟨show (1 : Nat) ≠ 24 by decide, fun g => rfl, fun d' h => by rcases h with rfl | rfl <;> rfl⟩
      · exact ⟨show (21 : Nat) ≠ 24 by decide, fun g => rfl, fun d' h => by rcases h with rfl | rfl <;> rfl⟩) (fun p hp => by
      simp only [List.mem_cons, List.not_mem_nil, or_false] at hp
      rcases hp with rfl | rfl
      · exact ⟨rfl, fx, show (57 : Nat) ≠ 59 by decide, show (57 : Nat) ≠ 24 by decide⟩
      · exact ⟨rfl, fy, show (58 : Nat) ≠ 59 by decide, show (58 : Nat) ≠ 24 by decide⟩) (fun d' h => by rcases h with rfl | rfl <;> rfl) (fun q b o h => by simp at h) ?_
  intro c1 s1 hl1 hc1 fs1
  rw [List.nil_append, Nat.zero_add] at *
  have fa : Flat (flatL xs ++ s1) := flat_app fx fs1
  rw [ops_part oF3.toList 12 1 13 rfl]
  refine tril_run ok (fd_4 _ ca _ cb _ c1 _ _ _) (by decide) trivial (alT_nil _ _ _) ⟨fa, fx, fy, trivial⟩ (locK_nil _ _) ?_
  obtain ⟨o3, g3, d3, p3, e3⟩ := ops_dropG fd_op13
  rw [e3]
  refine tril_append (P := Try.prog) p3 d3 (e := 23) fd_und hi hz hsz hby (by decide) (by decide) (m := 60) (v := slc 59 xs.length c1) (h := 59) (h' := 59) (d := 26) (n := xs.length) (q := 58) (oq := 0) (mm := ys.length) (c := cb) (xs := flatL xs) (sp := s1) (news := flatL ys)
    (live := [(0, slc 57 xs.length ca), (1, slc 58 ys.length cb), (21, .bool false)]) (regs := [(57, false, flatL xs), (58, false, flatL ys)]) (loc := [])
    (fun g => wanted_of g3 (g3_8 rfl)) rfl rfl (fun g => rfl) (fun g => rfl) (fun T => ⟨.inr ⟨c1, rfl, rfl, by rw [flatL_length]; omega, hl1, hc1⟩⟩) (fun T => rd_all (b := false) rfl (by rw [flatL_length]; omega)) fx fs1 fy rfl hpy (by omega) (by rw [mkT_length]; decide) (fun p hp => by
      simp only [List.mem_cons, List.not_mem_nil, or_false] at hp
      rcases hp with rfl | rfl | rfl
      · exact ⟨show (0 : Nat) ≠ 26 by decide, fun g => rfl, fun d' h => by rcases h with rfl | rfl <;> rfl⟩
      · exact ⟨show (1 : Nat) ≠ 26 by decide, fun g => rfl, fun d' h => by rcases h with rfl | rfl <;> rfl⟩
      · exact ⟨show (21 : Nat) ≠ 26 by decide, fun g => rfl, fun d' h => by rcases h with rfl | rfl <;> rfl⟩) (fun p hp => by
      simp only [List.mem_cons, List.not_mem_nil, or_false] at hp
      rcases hp with rfl | rfl
      · exact ⟨rfl, fx, show (57 : Nat) ≠ 59 by decide, show (57 : Nat) ≠ 26 by decide⟩
      · exact ⟨rfl, fy, show (58 : Nat) ≠ 59 by decide, show (58 : Nat) ≠ 26 by decide⟩) (fun d' h => by rcases h with rfl | rfl <;> rfl) (fun q b o h => by simp at h) ?_
  intro c2 s2 hl2 hc2 fs2
  obtain ⟨o4, g4, d4, p4, e4⟩ := ops_dropG fd_op14
  rw [e4]
  have hxy : okL (xs ++ ys) := fun x h => by
    rcases List.mem_append.1 h with h | h
    · exact hx x h
    · exact hy x h
  refine tril_scalar (vs := [slc 59 (xs.length + ys.length) c2]) (v := .bool ((xs ++ ys).all fun x => ltB x rL)) (dst := 27) (m := 60) (live := [(0, slc 57 xs.length ca), (1, slc 58 ys.length cb), (21, .bool false)]) (ks := ksF (flatL xs) (flatL ys)) (loc := [])
    (fn := Try.f20) (code := cLR) p4 d4 rfl (fun g => wanted_of g4 (g3_8 rfl)) (fun x hx => by simp at hx; subst hx; rfl) (by kernel_rfl) (by kernel_rfl) (by kernel_rfl) (fun g => rfl) ?_ trivial (by rw [mkT_length, mkT_length]; decide) (fun p hp => by
      simp only [List.mem_cons, List.not_mem_nil, or_false] at hp
      rcases hp with rfl | rfl | rfl
      · exact ⟨show (0 : Nat) ≠ 27 by decide, _, fun g => rfl, rfl⟩
      · exact ⟨show (1 : Nat) ≠ 27 by decide, _, fun g => rfl, rfl⟩
      · exact ⟨show (21 : Nat) ≠ 27 by decide, _, fun g => rfl, rfl⟩) (fun k hk => by
      simp only [List.mem_cons, List.not_mem_nil, or_false] at hk
      rcases hk with rfl | rfl
      · exact ⟨rfl, fun _ => fx⟩
      · exact ⟨rfl, fun _ => fy⟩) rfl (fun q b o h => by simp at h) ?_
  · intro w0 W g T ρ a w hs _
    have hl := listIn_of hs.inv (r := 59) (f := true) (xs := xs ++ ys) (ex := s2) (by rw [flatL_append]; rfl)
    have := lowR_calls (xs ++ ys) hxy c2 (ρ 59).1 ((ρ 59).2 + 0) (by rw [List.length_append]; omega) w hl
    rw [List.length_append] at this
    exact this
  · have := tril_run (rest := []) (K := fun τ' => Xt.normal = .normal ∧ ∃ r, τ' = ⟨mkT 57 [(29, .bool r), (0, slc 57 xs.length ca), (1, slc 58 ys.length cb)], mkT 60 [(57, false, flatL xs), (58, false, flatL ys)], []⟩) ok (fd_5 xs.length ca ys.length cb ((xs ++ ys).all fun x => ltB x rL) (flatL xs) (flatL ys)) (by decide) trivial (alT_nil _ _ _) ⟨fx, fy, trivial⟩ (locK_nil _ _) (tril_nil ⟨rfl, _, rfl⟩)
    rw [List.append_nil] at this
    exact this
end
end Go.Proofs.Ytbbifiogcpcpfaa
