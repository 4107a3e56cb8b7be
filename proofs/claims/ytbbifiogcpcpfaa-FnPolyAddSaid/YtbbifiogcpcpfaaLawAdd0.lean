/-
  The law FnPolyAdd: its second region: both lists put into one, and looked at. (printed by lawsL.py)
-/
import Derived.Test.YtbbifiogcpcpfaaLawL
import Derived.Test.YtbbifiogcpcpfaaListCal
import Derived.Test.YtbbifiogcpcpfaaVmNil
import Derived.Test.YtbbifiogcpcpfaaListLow
namespace Go.Proofs.Ytbbifiogcpcpfaa
open Vm

noncomputable abbrev cFa : Code := bodyOf Try.f8

noncomputable abbrev oFa3 : Array Oper := opsOf (cAt cFa [1, 1, 0, 0])
abbrev kFa : Keep := [(85, 85, false), (86, 86, false)]
abbrev ksFa (xs ys : List Value) : Kept := [(85, 85, false, false, xs), (86, 86, false, false, ys)]
abbrev rFa (xs ys : List Value) : List (Nat × Bool × List Value) := [(85, false, xs), (86, false, ys)]
def FaT (n ca m cb : Nat) (xs ys : List Value) : TS := ⟨mkT 85 [(0, slc 85 n ca), (1, slc 86 m cb)], mkT 93 (rFa xs ys), []⟩
theorem Fa_op0 : opG oFa3 19 = some (some (18, false), some 35, .buildSlice 34 0 #[]) := by kernel_rfl
theorem Fa_op2 : opG oFa3 21 = some (some (18, false), some 37, .call { callee := .builtin .append, args := #[.tmp 35, .tmp 36], argTypes := #[34, 34] }) := by kernel_rfl
theorem Fa_op4 : opG oFa3 23 = some (some (18, false), some 39, .call { callee := .builtin .append, args := #[.tmp 37, .tmp 38], argTypes := #[34, 34] }) := by kernel_rfl
theorem Fa_op5 : opG oFa3 24 = some (some (18, false), some 40, .call { callee := .value (.func 20), args := #[.tmp 39], argTypes := #[34] }) := by kernel_rfl
theorem Fa_d8 : (oFa3[18]?).bind (·.dst) = some 34 := by kernel_rfl
theorem Fa_und : Try.prog.underlying 34 = some (.slice 23) := by kernel_rfl
theorem Fa_sz : szT Try.prog 23 = some 4 := by kernel_rfl
theorem Fa_info : (Try.prog.info? 23).map (fun i => (i.zero, i.size, i.bytes)) = some (some (.agg #[.int .u64 0, .int .u64 0, .int .u64 0, .int .u64 0]), 4, 32) := by kernel_rfl
theorem Fa_3 (n ca m cb : Nat) (xs ys : List Value) (g : Nat → Value) (T : Hp) :
    runLV Try.prog (lookS [] [] []) oFa3 ((oFa3.toList.drop 20).take 1) ((⟨mkT 85 [(35, slc 87 0 0), (0, slc 85 n ca), (1, slc 86 m cb), (34, .bool false)], mkT 93 [(87, true, []), (85, false, xs), (86, false, ys)], []⟩ : TS).fill g T) 85 93 [(87, 87, false), (85, 85, false), (86, 86, false)] [35, 36, 0, 1, 34] =
      some ⟨.normal, [(35, slc 87 0 0), (36, slc 85 n ca), (0, slc 85 n ca), (1, slc 86 m cb), (34, .bool false)], [(87, true, []), (85, false, xs), (86, false, ys)], True⟩ := by kernel_rfl
theorem Fa_4 (n ca m cb k c : Nat) (zs xs ys : List Value) (g : Nat → Value) (T : Hp) :
    runLV Try.prog (lookS [] [] []) oFa3 ((oFa3.toList.drop 22).take 1) ((⟨mkT 85 [(37, slc 87 k c), (0, slc 85 n ca), (1, slc 86 m cb), (34, .bool false)], mkT 93 [(87, true, zs), (85, false, xs), (86, false, ys)], []⟩ : TS).fill g T) 85 93 [(87, 87, false), (85, 85, false), (86, 86, false)] [37, 38, 0, 1, 34] =
      some ⟨.normal, [(37, slc 87 k c), (38, slc 86 m cb), (0, slc 85 n ca), (1, slc 86 m cb), (34, .bool false)], [(87, true, zs), (85, false, xs), (86, false, ys)], True⟩ := by kernel_rfl
theorem Fa_5 (n ca m cb : Nat) (r : Bool) (xs ys : List Value) (g : Nat → Value) (T : Hp) :
    runLV Try.prog (lookS [] [] []) oFa3 (oFa3.toList.drop 25) ((⟨mkT 85 [(40, .bool r), (0, slc 85 n ca), (1, slc 86 m cb), (34, .bool false)], mkT 93 (rFa xs ys), []⟩ : TS).fill g T) 85 93 kFa [42, 0, 1] =
      some ⟨.normal, [(42, .bool (!r)), (0, slc 85 n ca), (1, slc 86 m cb)], rFa xs ys, True⟩ := by kernel_rfl
theorem Fa_g {tm : List Value} (h : tm[34]? = some (.bool false)) : guardB oFa3 tm 18 = some false := by
  unfold guardB; rw [Fa_d8]; simp [h]
/-- Both lists put into one, and looked at. -/
theorem Fa_low {xs ys : List L4} (hx : okL xs) (hy : okL ys) (hpx : 0 < xs.length) (hpy : 0 < ys.length) (hnx : xs.length ≤ 50) (hny : ys.length ≤ 50) (ca cb : Nat) {K : TS → Prop}
    (hK : K ⟨mkT 85 [(42, .bool (!((xs ++ ys).all fun x => ltB x rL))), (0, slc 85 xs.length ca), (1, slc 86 ys.length cb)], mkT 93 (rFa (flatL xs) (flatL ys)), []⟩) :
    TriL Try.prog oFa3 (oFa3.toList.drop 19) ⟨mkT 85 [(0, slc 85 xs.length ca), (1, slc 86 ys.length cb), (34, .bool false)], mkT 93 (rFa (flatL xs) (flatL ys)), []⟩ K := by
  have ok : ∀ {al ta}, EnvOK Try.prog (lookS [] al ta) := lookS_ok env_nil
  have fx := flatL_flat xs
  have fy := flatL_flat ys
  obtain ⟨o1, g1, d1, p1, e1⟩ := ops_dropG Fa_op0
  rw [e1]
  refine tril_build0 (m := 93) (d := 35) (dst := 35) (h' := 87) (live := [(0, slc 85 xs.length ca), (1, slc 86 ys.length cb), (34, .bool false)]) (ks := ksFa (flatL xs) (flatL ys)) (loc := []) p1 d1 (fun g => wanted_of g1 (Fa_g rfl)) Fa_und Fa_sz rfl (by rw [mkT_length]; decide) (fun p hp => by
      simp only [List.mem_cons, List.not_mem_nil, or_false] at hp
      rcases hp with rfl | rfl | rfl
      · exact ⟨show (0 : Nat) ≠ 35 by decide, _, fun g => rfl, rfl⟩
      · exact ⟨show (1 : Nat) ≠ 35 by decide, _, fun g => rfl, rfl⟩
      · exact ⟨show (34 : Nat) ≠ 35 by decide, _, fun g => rfl, rfl⟩) (fun k hk => by
      simp only [List.mem_cons, List.not_mem_nil, or_false] at hk
      rcases hk with rfl | rfl
      · exact ⟨rfl, fun _ => fx, show (85 : Nat) ≠ 35 by decide⟩
      · exact ⟨rfl, fun _ => fy, show (86 : Nat) ≠ 35 by decide⟩) rfl (fun q b o h => by simp at h) ?_
  rw [ops_part oFa3.toList 20 1 21 rfl]
  refine tril_run ok (Fa_3 _ ca _ cb _ _) (by decide) trivial (alT_nil _ _ _) ⟨fun v hv => by simp at hv, fx, fy, trivial⟩ (locK_nil _ _) ?_
  obtain ⟨o2, g2, d2, p2, e2⟩ := ops_dropG Fa_op2
  rw [e2]
  obtain ⟨ti, hi, hz, hsz, hby⟩ := info_of Fa_info
  refine tril_append (P := Try.prog) p2 d2 (e := 23) Fa_und hi hz hsz hby (by decide) (by decide) (m := 93) (v := slc 87 0 0) (h := 87) (h' := 87) (d := 37) (n := 0) (q := 85) (oq := 0) (mm := xs.length) (c := ca) (xs := []) (sp := []) (news := flatL xs)
    (live := [(0, slc 85 xs.length ca), (1, slc 86 ys.length cb), (34, .bool false)]) (regs := [(85, false, flatL xs), (86, false, flatL ys)]) (loc := [])
    (fun g => wanted_of g2 (Fa_g rfl)) rfl rfl (fun g => rfl) (fun g => rfl) (fun T => ⟨.inr ⟨0, rfl, rfl, rfl, rfl, Nat.le_refl 0⟩⟩) (fun T => rd_all (b := false) rfl (by rw [flatL_length]; omega)) (fun v hv => by simp at hv) (fun v hv => by simp at hv) fx rfl hpx (by omega) (by rw [mkT_length]; decide) (fun p hp => by
      simp only [List.mem_cons, List.not_mem_nil, or_false] at hp
      rcases hp with rfl | rfl | rfl
      · exact ⟨show (0 : Nat) ≠ 37 by decide, fun g => rfl, fun d' h => by rcases h with rfl | rfl <;> rfl⟩
      · exact ⟨show (1 : Nat) ≠ 37 by decide, fun g => rfl, fun d' h => by rcases h with rfl | rfl <;> rfl⟩
      · exact ⟨show (34 : Nat) ≠ 37 by decide, fun g => rfl, fun d' h => by rcases h with rfl | rfl <;> rfl⟩) (fun p hp => by
      simp only [List.mem_cons, List.not_mem_nil, or_false] at hp
      rcases hp with rfl | rfl
      · exact ⟨rfl, fx, show (85 : Nat) ≠ 87 by decide, show (85 : Nat) ≠ 37 by decide⟩
      · exact ⟨rfl, fy, show (86 : Nat) ≠ 87 by decide, show (86 : Nat) ≠ 37 by decide⟩) (fun d' h => by rcases h with rfl | rfl <;> rfl) (fun q b o h => by simp at h) ?_
  intro c1 s1 hl1 hc1 fs1
  rw [List.nil_append, Nat.zero_add] at *
  have fa : Flat (flatL xs ++ s1) := flat_app fx fs1
  rw [ops_part oFa3.toList 22 1 23 rfl]
  refine tril_run ok (Fa_4 _ ca _ cb _ c1 _ _ _) (by decide) trivial (alT_nil _ _ _) ⟨fa, fx, fy, trivial⟩ (locK_nil _ _) ?_
  obtain ⟨o3, g3, d3, p3, e3⟩ := ops_dropG Fa_op4
  rw [e3]
  refine tril_append (P := Try.prog) p3 d3 (e := 23) Fa_und hi hz hsz hby (by decide) (by decide) (m := 93) (v := slc 87 xs.length c1) (h := 87) (h' := 87) (d := 39) (n := xs.length) (q := 86) (oq := 0) (mm := ys.length) (c := cb) (xs := flatL xs) (sp := s1) (news := flatL ys)
    (live := [(0, slc 85 xs.length ca), (1, slc 86 ys.length cb), (34, .bool false)]) (regs := [(85, false, flatL xs), (86, false, flatL ys)]) (loc := [])
    (fun g => wanted_of g3 (Fa_g rfl)) rfl rfl (fun g => rfl) (fun g => rfl) (fun T => ⟨.inr ⟨c1, rfl, rfl, by rw [flatL_length]; omega, hl1, hc1⟩⟩) (fun T => rd_all (b := false) rfl (by rw [flatL_length]; omega)) fx fs1 fy rfl hpy (by omega) (by rw [mkT_length]; decide) (fun p hp => by
      simp only [List.mem_cons, List.not_mem_nil, or_false] at hp
      rcases hp with rfl | rfl | rfl
      · exact ⟨show (0 : Nat) ≠ 39 by decide, fun g => rfl, fun d' h => by rcases h with rfl | rfl <;> rfl⟩
      · exact ⟨show (1 : Nat) ≠ 39 by decide, fun g => rfl, fun d' h => by rcases h with rfl | rfl <;> rfl⟩
      · exact ⟨show (34 : Nat) ≠ 39 by decide, fun g => rfl, fun d' h => by rcases h with rfl | rfl <;> rfl⟩) (fun p hp => by
      simp only [List.mem_cons, List.not_mem_nil, or_false] at hp
      rcases hp with rfl | rfl
      · exact ⟨rfl, fx, show (85 : Nat) ≠ 87 by decide, show (85 : Nat) ≠ 39 by decide⟩
      · exact ⟨rfl, fy, show (86 : Nat) ≠ 87 by decide, show (86 : Nat) ≠ 39 by decide⟩) (fun d' h => by rcases h with rfl | rfl <;> rfl) (fun q b o h => by simp at h) ?_
  intro c2 s2 hl2 hc2 fs2
  obtain ⟨o4, g4, d4, p4, e4⟩ := ops_dropG Fa_op5
  rw [e4]
  have hxy : okL (xs ++ ys) := fun x h => by
    rcases List.mem_append.1 h with h | h
    · exact hx x h
    · exact hy x h
  refine tril_scalar (vs := [slc 87 (xs.length + ys.length) c2]) (v := .bool ((xs ++ ys).all fun x => ltB x rL)) (dst := 40) (m := 93) (live := [(0, slc 85 xs.length ca), (1, slc 86 ys.length cb), (34, .bool false)]) (ks := ksFa (flatL xs) (flatL ys)) (loc := [])
    (fn := Try.f20) (code := cLR) p4 d4 rfl (fun g => wanted_of g4 (Fa_g rfl)) (fun x hx => by simp at hx; subst hx; rfl) (by kernel_rfl) (by kernel_rfl) (by kernel_rfl) (fun g => rfl) ?_ trivial (by rw [mkT_length, mkT_length]; decide) (fun p hp => by
      simp only [List.mem_cons, List.not_mem_nil, or_false] at hp
      rcases hp with rfl | rfl | rfl
      · exact ⟨show (0 : Nat) ≠ 40 by decide, _, fun g => rfl, rfl⟩
      · exact ⟨show (1 : Nat) ≠ 40 by decide, _, fun g => rfl, rfl⟩
      · exact ⟨show (34 : Nat) ≠ 40 by decide, _, fun g => rfl, rfl⟩) (fun k hk => by
      simp only [List.mem_cons, List.not_mem_nil, or_false] at hk
      rcases hk with rfl | rfl
      · exact ⟨rfl, fun _ => fx⟩
      · exact ⟨rfl, fun _ => fy⟩) rfl (fun q b o h => by simp at h) ?_
  · intro w0 W g T ρ a w hs _
    have hl := listIn_of hs.inv (r := 87) (f := true) (xs := xs ++ ys) (ex := s2) (by rw [flatL_append]; rfl)
    have := lowR_calls (xs ++ ys) hxy c2 (ρ 87).1 ((ρ 87).2 + 0) (by rw [List.length_append]; omega) w hl
    rw [List.length_append] at this
    exact this
  · have := tril_run (rest := []) (K := K) ok (Fa_5 xs.length ca ys.length cb ((xs ++ ys).all fun x => ltB x rL) (flatL xs) (flatL ys)) (by decide) trivial (alT_nil _ _ _) ⟨fx, fy, trivial⟩ (locK_nil _ _) (tril_nil hK)
    rw [List.append_nil] at this
    exact this
end Go.Proofs.Ytbbifiogcpcpfaa
