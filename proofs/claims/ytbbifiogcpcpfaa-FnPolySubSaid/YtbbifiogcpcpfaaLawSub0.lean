/-
  The law FnPolySub: its second region: both lists put into one, and looked at. (printed by lawsL.py)
-/
import Derived.Test.YtbbifiogcpcpfaaLawL
import Derived.Test.YtbbifiogcpcpfaaListCal
import Derived.Test.YtbbifiogcpcpfaaVmNil
import Derived.Test.YtbbifiogcpcpfaaListLow
namespace Go.Proofs.Ytbbifiogcpcpfaa
open Vm

noncomputable abbrev cFs : Code := bodyOf Try.f7

noncomputable abbrev oFs3 : Array Oper := opsOf (cAt cFs [1, 1, 0, 0])
abbrev kFs : Keep := [(67, 67, false), (68, 68, false)]
abbrev ksFs (xs ys : List Value) : Kept := [(67, 67, false, false, xs), (68, 68, false, false, ys)]
abbrev rFs (xs ys : List Value) : List (Nat × Bool × List Value) := [(67, false, xs), (68, false, ys)]
def FsT (n ca m cb : Nat) (xs ys : List Value) : TS := ⟨mkT 67 [(0, slc 67 n ca), (1, slc 68 m cb)], mkT 75 (rFs xs ys), []⟩
theorem Fs_op0 : opG oFs3 16 = some (some (15, false), some 31, .buildSlice 34 0 #[]) := by kernel_rfl
theorem Fs_op2 : opG oFs3 18 = some (some (15, false), some 33, .call { callee := .builtin .append, args := #[.tmp 31, .tmp 32], argTypes := #[34, 34] }) := by kernel_rfl
theorem Fs_op4 : opG oFs3 20 = some (some (15, false), some 35, .call { callee := .builtin .append, args := #[.tmp 33, .tmp 34], argTypes := #[34, 34] }) := by kernel_rfl
theorem Fs_op5 : opG oFs3 21 = some (some (15, false), some 36, .call { callee := .value (.func 20), args := #[.tmp 35], argTypes := #[34] }) := by kernel_rfl
theorem Fs_d8 : (oFs3[15]?).bind (·.dst) = some 30 := by kernel_rfl
theorem Fs_und : Try.prog.underlying 34 = some (.slice 23) := by kernel_rfl
theorem Fs_sz : szT Try.prog 23 = some 4 := by kernel_rfl
theorem Fs_info : (Try.prog.info? 23).map (fun i => (i.zero, i.size, i.bytes)) = some (some (.agg #[.int .u64 0, .int .u64 0, .int .u64 0, .int .u64 0]), 4, 32) := by kernel_rfl
theorem Fs_3 (n ca m cb : Nat) (xs ys : List Value) (g : Nat → Value) (T : Hp) :
    runLV Try.prog (lookS [] [] []) oFs3 ((oFs3.toList.drop 17).take 1) ((⟨mkT 67 [(31, slc 69 0 0), (0, slc 67 n ca), (1, slc 68 m cb), (30, .bool false)], mkT 75 [(69, true, []), (67, false, xs), (68, false, ys)], []⟩ : TS).fill g T) 67 75 [(69, 69, false), (67, 67, false), (68, 68, false)] [31, 32, 0, 1, 30] =
      some ⟨.normal, [(31, slc 69 0 0), (32, slc 67 n ca), (0, slc 67 n ca), (1, slc 68 m cb), (30, .bool false)], [(69, true, []), (67, false, xs), (68, false, ys)], True⟩ := by kernel_rfl
theorem Fs_4 (n ca m cb k c : Nat) (zs xs ys : List Value) (g : Nat → Value) (T : Hp) :
    runLV Try.prog (lookS [] [] []) oFs3 ((oFs3.toList.drop 19).take 1) ((⟨mkT 67 [(33, slc 69 k c), (0, slc 67 n ca), (1, slc 68 m cb), (30, .bool false)], mkT 75 [(69, true, zs), (67, false, xs), (68, false, ys)], []⟩ : TS).fill g T) 67 75 [(69, 69, false), (67, 67, false), (68, 68, false)] [33, 34, 0, 1, 30] =
      some ⟨.normal, [(33, slc 69 k c), (34, slc 68 m cb), (0, slc 67 n ca), (1, slc 68 m cb), (30, .bool false)], [(69, true, zs), (67, false, xs), (68, false, ys)], True⟩ := by kernel_rfl
theorem Fs_5 (n ca m cb : Nat) (r : Bool) (xs ys : List Value) (g : Nat → Value) (T : Hp) :
    runLV Try.prog (lookS [] [] []) oFs3 (oFs3.toList.drop 22) ((⟨mkT 67 [(36, .bool r), (0, slc 67 n ca), (1, slc 68 m cb), (30, .bool false)], mkT 75 (rFs xs ys), []⟩ : TS).fill g T) 67 75 kFs [38, 0, 1] =
      some ⟨.normal, [(38, .bool (!r)), (0, slc 67 n ca), (1, slc 68 m cb)], rFs xs ys, True⟩ := by kernel_rfl
theorem Fs_g {tm : List Value} (h : tm[30]? = some (.bool false)) : guardB oFs3 tm 15 = some false := by
  unfold guardB; rw [Fs_d8]; simp [h]
/-- Both lists put into one, and looked at. -/
theorem Fs_low {xs ys : List L4} (hx : okL xs) (hy : okL ys) (hpx : 0 < xs.length) (hpy : 0 < ys.length) (hnx : xs.length ≤ 50) (hny : ys.length ≤ 50) (ca cb : Nat) {K : TS → Prop}
    (hK : K ⟨mkT 67 [(38, .bool (!((xs ++ ys).all fun x => ltB x rL))), (0, slc 67 xs.length ca), (1, slc 68 ys.length cb)], mkT 75 (rFs (flatL xs) (flatL ys)), []⟩) :
    TriL Try.prog oFs3 (oFs3.toList.drop 16) ⟨mkT 67 [(0, slc 67 xs.length ca), (1, slc 68 ys.length cb), (30, .bool false)], mkT 75 (rFs (flatL xs) (flatL ys)), []⟩ K := by
  have ok : ∀ {al ta}, EnvOK Try.prog (lookS [] al ta) := lookS_ok env_nil
  have fx := flatL_flat xs
  have fy := flatL_flat ys
  obtain ⟨o1, g1, d1, p1, e1⟩ := ops_dropG Fs_op0
  rw [e1]
  refine tril_build0 (m := 75) (d := 31) (dst := 31) (h' := 69) (live := [(0, slc 67 xs.length ca), (1, slc 68 ys.length cb), (30, .bool false)]) (ks := ksFs (flatL xs) (flatL ys)) (loc := []) p1 d1 (fun g => wanted_of g1 (Fs_g rfl)) Fs_und Fs_sz rfl (by rw [mkT_length]; decide) (fun p hp => by
      simp only [List.mem_cons, List.not_mem_nil, or_false] at hp
      rcases hp with rfl | rfl | rfl
      · exact ⟨show (0 : Nat) ≠ 31 by decide, _, fun g => rfl, rfl⟩
      · exact ⟨show (1 : Nat) ≠ 31 by decide, _, fun g => rfl, rfl⟩
      · exact ⟨show (30 : Nat) ≠ 31 by decide, _, fun g => rfl, rfl⟩) (fun k hk => by
      simp only [List.mem_cons, List.not_mem_nil, or_false] at hk
      rcases hk with rfl | rfl
      · exact ⟨rfl, fun _ => fx, show (67 : Nat) ≠ 31 by decide⟩
      · exact ⟨rfl, fun _ => fy, show (68 : Nat) ≠ 31 by decide⟩) rfl (fun q b o h => by simp at h) ?_
  rw [ops_part oFs3.toList 17 1 18 rfl]
  refine tril_run ok (Fs_3 _ ca _ cb _ _) (by decide) trivial (alT_nil _ _ _) ⟨fun v hv => by simp at hv, fx, fy, trivial⟩ (locK_nil _ _) ?_
  obtain ⟨o2, g2, d2, p2, e2⟩ := ops_dropG Fs_op2
  rw [e2]
  obtain ⟨ti, hi, hz, hsz, hby⟩ := info_of Fs_info
  refine tril_append (P := Try.prog) p2 d2 (e := 23) Fs_und hi hz hsz hby (by decide) (by decide) (m := 75) (v := slc 69 0 0) (h := 69) (h' := 69) (d := 33) (n := 0) (q := 67) (oq := 0) (mm := xs.length) (c := ca) (xs := []) (sp := []) (news := flatL xs)
    (live := [(0, slc 67 xs.length ca), (1, slc 68 ys.length cb), (30, .bool false)]) (regs := [(67, false, flatL xs), (68, false, flatL ys)]) (loc := [])
    (fun g => wanted_of g2 (Fs_g rfl)) rfl rfl (fun g => rfl) (fun g => rfl) (fun T => ⟨.inr ⟨0, rfl, rfl, rfl, rfl, Nat.le_refl 0⟩⟩) (fun T => rd_all (b := false) rfl (by rw [flatL_length]; omega)) (fun v hv => by simp at hv) (fun v hv => by simp at hv) fx rfl hpx (by omega) (by rw [mkT_length]; decide) (fun p hp => by
      simp only [List.mem_cons, List.not_mem_nil, or_false] at hp
      rcases hp with rfl | rfl | rfl
      · exact ⟨show (0 : Nat) ≠ 33 by decide, fun g => rfl, fun d' h => by rcases h with rfl | rfl <;> rfl⟩
      · exact ⟨show (1 : Nat) ≠ 33 by decide, fun g => rfl, fun d' h => by rcases h with rfl | rfl <;> rfl⟩
      · exact ⟨show (30 : Nat) ≠ 33 by decide, fun g => rfl, fun d' h => by rcases h with rfl | rfl <;> rfl⟩) (fun p hp => by
      simp only [List.mem_cons, List.not_mem_nil, or_false] at hp
      rcases hp with rfl | rfl
      · exact ⟨rfl, fx, show (67 : Nat) ≠ 69 by decide, show (67 : Nat) ≠ 33 by decide⟩
      · exact ⟨rfl, fy, show (68 : Nat) ≠ 69 by decide, show (68 : Nat) ≠ 33 by decide⟩) (fun d' h => by rcases h with rfl | rfl <;> rfl) (fun q b o h => by simp at h) ?_
  intro c1 s1 hl1 hc1 fs1
  rw [List.nil_append, Nat.zero_add] at *
  have fa : Flat (flatL xs ++ s1) := flat_app fx fs1
  rw [ops_part oFs3.toList 19 1 20 rfl]
  refine tril_run ok (Fs_4 _ ca _ cb _ c1 _ _ _) (by decide) trivial (alT_nil _ _ _) ⟨fa, fx, fy, trivial⟩ (locK_nil _ _) ?_
  obtain ⟨o3, g3, d3, p3, e3⟩ := ops_dropG Fs_op4
  rw [e3]
  refine tril_append (P := Try.prog) p3 d3 (e := 23) Fs_und hi hz hsz hby (by decide) (by decide) (m := 75) (v := slc 69 xs.length c1) (h := 69) (h' := 69) (d := 35) (n := xs.length) (q := 68) (oq := 0) (mm := ys.length) (c := cb) (xs := flatL xs) (sp := s1) (news := flatL ys)
    (live := [(0, slc 67 xs.length ca), (1, slc 68 ys.length cb), (30, .bool false)]) (regs := [(67, false, flatL xs), (68, false, flatL ys)]) (loc := [])
    (fun g => wanted_of g3 (Fs_g rfl)) rfl rfl (fun g => rfl) (fun g => rfl) (fun T => ⟨.inr ⟨c1, rfl, rfl, by rw [flatL_length]; omega, hl1, hc1⟩⟩) (fun T => rd_all (b := false) rfl (by rw [flatL_length]; omega)) fx fs1 fy rfl hpy (by omega) (by rw [mkT_length]; decide) (fun p hp => by
      simp only [List.mem_cons, List.not_mem_nil, or_false] at hp
      rcases hp with rfl | rfl | rfl
      · exact ⟨show (0 : Nat) ≠ 35 by decide, fun g => rfl, fun d' h => by rcases h with rfl | rfl <;> rfl⟩
      · exact ⟨show (1 : Nat) ≠ 35 by decide, fun g => rfl, fun d' h => by rcases h with rfl | rfl <;> rfl⟩
      · exact ⟨show (30 : Nat) ≠ 35 by decide, fun g => rfl, fun d' h => by rcases h with rfl | rfl <;> rfl⟩) (fun p hp => by
      simp only [List.mem_cons, List.not_mem_nil, or_false] at hp
      rcases hp with rfl | rfl
      · exact ⟨rfl, fx, show (67 : Nat) ≠ 69 by decide, show (67 : Nat) ≠ 35 by decide⟩
      · exact ⟨rfl, fy, show (68 : Nat) ≠ 69 by decide, show (68 : Nat) ≠ 35 by decide⟩) (fun d' h => by rcases h with rfl | rfl <;> rfl) (fun q b o h => by simp at h) ?_
  intro c2 s2 hl2 hc2 fs2
  obtain ⟨o4, g4, d4, p4, e4⟩ := ops_dropG Fs_op5
  rw [e4]
  have hxy : okL (xs ++ ys) := fun x h => by
    rcases List.mem_append.1 h with h | h
    · exact hx x h
    · exact hy x h
  refine tril_scalar (vs := [slc 69 (xs.length + ys.length) c2]) (v := .bool ((xs ++ ys).all fun x => ltB x rL)) (dst := 36) (m := 75) (live := [(0, slc 67 xs.length ca), (1, slc 68 ys.length cb), (30, .bool false)]) (ks := ksFs (flatL xs) (flatL ys)) (loc := [])
    (fn := Try.f20) (code := cLR) p4 d4 rfl (fun g => wanted_of g4 (Fs_g rfl)) (fun x hx => by simp at hx; subst hx; rfl) (by kernel_rfl) (by kernel_rfl) (by kernel_rfl) (fun g => rfl) ?_ trivial (by rw [mkT_length, mkT_length]; decide) (fun p hp => by
      simp only [List.mem_cons, List.not_mem_nil, or_false] at hp
      rcases hp with rfl | rfl | rfl
      · exact ⟨show (0 : Nat) ≠ 36 by decide, _, fun g => rfl, rfl⟩
      · exact ⟨show (1 : Nat) ≠ 36 by decide, _, fun g => rfl, rfl⟩
      · exact ⟨show (30 : Nat) ≠ 36 by decide, _, fun g => rfl, rfl⟩) (fun k hk => by
      simp only [List.mem_cons, List.not_mem_nil, or_false] at hk
      rcases hk with rfl | rfl
      · exact ⟨rfl, fun _ => fx⟩
      · exact ⟨rfl, fun _ => fy⟩) rfl (fun q b o h => by simp at h) ?_
  · intro w0 W g T ρ a w hs _
    have hl := listIn_of hs.inv (r := 69) (f := true) (xs := xs ++ ys) (ex := s2) (by rw [flatL_append]; rfl)
    have := lowR_calls (xs ++ ys) hxy c2 (ρ 69).1 ((ρ 69).2 + 0) (by rw [List.length_append]; omega) w hl
    rw [List.length_append] at this
    exact this
  · have := tril_run (rest := []) (K := K) ok (Fs_5 xs.length ca ys.length cb ((xs ++ ys).all fun x => ltB x rL) (flatL xs) (flatL ys)) (by decide) trivial (alT_nil _ _ _) ⟨fx, fy, trivial⟩ (locK_nil _ _) (tril_nil hK)
    rw [List.append_nil] at this
    exact this
end Go.Proofs.Ytbbifiogcpcpfaa
