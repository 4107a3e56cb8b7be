/-
  The law FnPolyAdd holds whatever the input: the sum of two polynomials is the sum of their numbers; what one of them lacks is 0.
-/
import Derived.Test.YtbbifiogcpcpfaaLawAdd0
import Derived.Test.YtbbifiogcpcpfaaListPa
import Derived.Laws.Small
namespace Go.Proofs.Ytbbifiogcpcpfaa
open Vm

/-- A region is only read from now on. -/
theorem turn_read {τ : TS} {r : Nat} {cs : List Value} (hr : τ.hp[r]? = some (some (true, cs))) : Turns τ ⟨τ.tm, τ.hp.set r (some (false, cs)), τ.loc⟩ := by
  rintro w0 W a w ⟨g, T, ρ, hs, hl⟩
  have hr' : (τ.fill g T).hp[r]? = some (some (true, cs)) := get_append hr
  have hfill : (⟨τ.tm, τ.hp.set r (some (false, cs)), τ.loc⟩ : TS).fill g T = ⟨(τ.fill g T).tm, (τ.fill g T).hp.set r (some (false, cs)), True, 0⟩ := by simp only [TS.fill]; rw [set_append hr]
  have hm : mono (τ.fill g T).hp ((τ.fill g T).hp.set r (some (false, cs))) := mono_set
  have back : ∀ {k : Nat} {f : Bool} {ds : List Value}, ((τ.fill g T).hp.set r (some (false, cs)))[k]? = some (some (f, ds)) → ∃ f0, (τ.fill g T).hp[k]? = some (some (f0, ds)) ∧ (f = true → f0 = true) := by
    intro k f ds hk
    by_cases hkr : k = r
    · subst hkr
      rw [get_set_same hr'] at hk
      simp only [Option.some.injEq, Prod.mk.injEq] at hk
      obtain ⟨rfl, rfl⟩ := hk
      exact ⟨true, hr', fun h => by cases h⟩
    · rw [get_set_other hkr] at hk
      exact ⟨f, hk, id⟩
  refine ⟨g, T, ρ, ?_, fun k b o hk => ⟨(hl k b o hk).1, mono_set _ (hl k b o hk).2⟩⟩
  rw [hfill]
  refine ⟨⟨fun v hv => (hs.ok.tm v hv).mono hm, fun k f ds hk v hv => ?_⟩, hs.tm, ?_⟩
  · obtain ⟨f0, h1, _⟩ := back hk
    exact (hs.ok.hp k f0 ds h1 v hv).mono hm
  · refine hs.inv.cover (fun k i => (k, i)) (fun k f ds hk i v hi => ?_) (fun k k' f ds f' ds' i i' hne _ _ _ _ _ h => hne (congrArg Prod.fst h))
    obtain ⟨f0, h1, h2⟩ := back hk
    exact ⟨f0, ds, v, h1, hi, rfl, h2, rfl, rfl⟩
def faS (va vb : Value) (xs ys : List Value) (b o b' o' : Nat) : TS := ⟨[va, vb].map some ++ List.replicate (85 - 2) none, hpA 85 [(b, o, false, xs), (b', o', false, ys)], [(85, b, o), (86, b', o')]⟩
abbrev lim31 : Int := 2147483647
section
variable (qa qb : Option Addr) (na ca nb cb : Nat) (xs ys : List Value) (b o b' o' : Nat) (g : Nat → Value) (T : Hp)
theorem fa_A1 : runV Try.prog (lookS [] [] [(10, true)]) 1 cFa ((faS (.slice qa na ca) (.slice qb nb cb) xs ys b o b' o').fill g T) 85 93 [] [4] = some ⟨.ret, [(4, .bool true)], [], (True ∧ na ≤ 9223372036854775807) ∧ decide (lenI na > lim31) = true⟩ := by kernel_rfl
theorem fa_A2 : runV Try.prog (lookS [] [] [(10, false), (14, true)]) 1 cFa ((faS (.slice qa na ca) (.slice qb nb cb) xs ys b o b' o').fill g T) 85 93 [] [4] = some ⟨.ret, [(4, .bool true)], [], (((True ∧ na ≤ 9223372036854775807) ∧ decide (lenI na > lim31) = false) ∧ nb ≤ 9223372036854775807) ∧ decide (lenI nb > lim31) = true⟩ := by kernel_rfl
def vcFa (na nb : Nat) : Prop := ((((True ∧ na ≤ 9223372036854775807) ∧ decide (lenI na > lim31) = false) ∧ nb ≤ 9223372036854775807) ∧ decide (lenI nb > lim31) = false)
theorem fa_B1 : runV Try.prog (lookS [] [] [(10, false), (14, false), (18, true)]) 1 cFa ((faS (.slice qa na ca) (.slice qb nb cb) xs ys b o b' o').fill g T) 85 93 [] [4] = some ⟨.ret, [(4, .bool true)], [], (vcFa na nb ∧ na ≤ 9223372036854775807) ∧ (lenI na == 0) = true⟩ := by kernel_rfl
theorem fa_B2 : runV Try.prog (lookS [] [] [(10, false), (14, false), (18, false), (22, true)]) 1 cFa ((faS (.slice qa na ca) (.slice qb nb cb) xs ys b o b' o').fill g T) 85 93 [] [4] =
    some ⟨.ret, [(4, .bool true)], [], (((vcFa na nb ∧ na ≤ 9223372036854775807) ∧ (lenI na == 0) = false) ∧ nb ≤ 9223372036854775807) ∧ (lenI nb == 0) = true⟩ := by kernel_rfl
theorem fa_B3 : runV Try.prog (lookS [] [] [(10, false), (14, false), (18, false), (22, false), (27, true)]) 1 cFa ((faS (.slice qa na ca) (.slice qb nb cb) xs ys b o b' o').fill g T) 85 93 [] [4] =
    some ⟨.ret, [(4, .bool true)], [], (((((vcFa na nb ∧ na ≤ 9223372036854775807) ∧ (lenI na == 0) = false) ∧ nb ≤ 9223372036854775807) ∧ (lenI nb == 0) = false) ∧ na ≤ 9223372036854775807) ∧ decide (lenI na > 50) = true⟩ := by kernel_rfl
theorem fa_B4 : runV Try.prog (lookS [] [] [(10, false), (14, false), (18, false), (22, false), (27, false), (32, true)]) 1 cFa ((faS (.slice qa na ca) (.slice qb nb cb) xs ys b o b' o').fill g T) 85 93 [] [4] =
    some ⟨.ret, [(4, .bool true)], [], (((((((vcFa na nb ∧ na ≤ 9223372036854775807) ∧ (lenI na == 0) = false) ∧ nb ≤ 9223372036854775807) ∧ (lenI nb == 0) = false) ∧ na ≤ 9223372036854775807) ∧ decide (lenI na > 50) = false) ∧ nb ≤ 9223372036854775807) ∧ decide (lenI nb > 50) = true⟩ := by kernel_rfl
end
section
variable (n ca m cb k c : Nat) (xs ys us : List Value) (b o b' o' b2 o2 : Nat) (g : Nat → Value) (T : Hp)
theorem fa_0 : runV Try.prog (lookS [] [] []) 1 (cAt cFa [0]) ((faS (slc 85 n ca) (slc 86 m cb) xs ys b o b' o').fill g T) 85 93 kFa [0, 1] = some ⟨.normal, [(0, slc 85 n ca), (1, slc 86 m cb)], rFa xs ys, True⟩ := by kernel_rfl
theorem fa_1 : runV Try.prog (lookS [] [] [(10, false), (14, false)]) 1 (cAt cFa [1, 0]) ((FaT n ca m cb xs ys).fill g T) 85 93 kFa [0, 1] = some ⟨.normal, [(0, slc 85 n ca), (1, slc 86 m cb)], rFa xs ys, vcFa n m⟩ := by kernel_rfl
theorem fa_2 : runLV Try.prog (lookS [] [] [(18, false), (22, false), (27, false), (32, false)]) oFa3 (oFa3.toList.take 19) ((FaT n ca m cb xs ys).fill g T) 85 93 kFa [0, 1, 34] =
    some ⟨.normal, [(0, slc 85 n ca), (1, slc 86 m cb), (34, .bool false)], rFa xs ys, (((((((True ∧ n ≤ 9223372036854775807) ∧ (lenI n == 0) = false) ∧ m ≤ 9223372036854775807) ∧ (lenI m == 0) = false) ∧ n ≤ 9223372036854775807) ∧ decide (lenI n > 50) = false) ∧ m ≤ 9223372036854775807) ∧ decide (lenI m > 50) = false⟩ := by kernel_rfl
theorem fa_3 : runV Try.prog (lookS [] [] []) 1 (cAt cFa [1, 1, 0, 1]) ((⟨mkT 85 [(42, .bool true), (0, slc 85 n ca), (1, slc 86 m cb)], mkT 93 (rFa xs ys), []⟩ : TS).fill g T) 85 93 [] [4] = some ⟨.ret, [(4, .bool true)], [], True⟩ := by kernel_rfl
theorem fa_4 : runV Try.prog (lookS [] [] []) 1 (cAt cFa [1, 1, 0, 1]) ((⟨mkT 85 [(42, .bool false), (0, slc 85 n ca), (1, slc 86 m cb)], mkT 93 (rFa xs ys), []⟩ : TS).fill g T) 85 93 kFa [0, 1] = some ⟨.normal, [(0, slc 85 n ca), (1, slc 86 m cb)], rFa xs ys, True⟩ := by kernel_rfl
noncomputable abbrev oFa5 : Array Oper := opsOf (cAt cFa [1, 1, 1, 0])
noncomputable abbrev oFa6 : Array Oper := opsOf (cAt cFa [1, 1, 1, 1, 0, 0])
noncomputable abbrev faCall : Call := match opAt oFa5 2 with
  | some (_, .call c) => c
  | _ => default
theorem fa_op52 : opAt oFa5 2 = some ⟨some 45, .call faCall⟩ := by kernel_rfl
theorem fa_c52 : faCall.callee = .value (.func 26) := by kernel_rfl
theorem fa_a52 : faCall.args = #[.tmp 43, .tmp 44] := by kernel_rfl
theorem fa_op66 : opAt oFa6 6 = some ⟨some 52, .call { callee := .builtin .max, args := #[.tmp 49, .tmp 51], argTypes := #[3, 3] }⟩ := by kernel_rfl
theorem fa_5 : runLV Try.prog (lookS [] [] []) oFa5 (oFa5.toList.take 2) ((FaT n ca m cb xs ys).fill g T) 85 93 kFa [43, 44, 0, 1] = some ⟨.normal, [(43, slc 85 n ca), (44, slc 86 m cb), (0, slc 85 n ca), (1, slc 86 m cb)], rFa xs ys, True⟩ := by kernel_rfl
abbrev r3A (us xs ys : List Value) : List (Nat × Bool × List Value) := [(87, true, us), (85, false, xs), (86, false, ys)]
abbrev k3A : Keep := [(87, 87, false), (85, 85, false), (86, 86, false)]
abbrev s3A (k c n ca m cb : Nat) : List (Nat × Value) := [(5, slc 87 k c), (0, slc 85 n ca), (1, slc 86 m cb)]
theorem fa_6 : runLV Try.prog (lookS [] [] []) oFa5 (oFa5.toList.drop 3) ((⟨mkT 85 [(45, slc 87 k c), (0, slc 85 n ca), (1, slc 86 m cb)], mkT 93 (r3A us xs ys), []⟩ : TS).fill g T) 85 93 k3A [5, 0, 1] =
    some ⟨.normal, s3A k c n ca m cb, r3A us xs ys, True⟩ := by kernel_rfl
theorem fa_7 : runLV Try.prog (lookS [] [] []) oFa6 (oFa6.toList.take 6) ((⟨mkT 85 (s3A k c n ca m cb), mkT 93 (r3A us xs ys), []⟩ : TS).fill g T) 85 93 k3A [47, 49, 51, 5, 0, 1] =
    some ⟨.normal, [(47, num (lenI k)), (49, num (lenI n)), (51, num (lenI m)), (5, slc 87 k c), (0, slc 85 n ca), (1, slc 86 m cb)], r3A us xs ys, ((True ∧ k ≤ 9223372036854775807) ∧ n ≤ 9223372036854775807) ∧ m ≤ 9223372036854775807⟩ := by kernel_rfl
theorem fa_7' : runLV Try.prog (lookS [] [] [(53, false)]) oFa6 (oFa6.toList.drop 7) ((⟨mkT 85 [(52, num k), (47, num k), (5, slc 87 k c), (0, slc 85 n ca), (1, slc 86 m cb)], mkT 93 (r3A us xs ys), []⟩ : TS).fill g T) 85 93 k3A [53, 5, 0, 1] =
    some ⟨.normal, [(53, .bool false), (5, slc 87 k c), (0, slc 85 n ca), (1, slc 86 m cb)], r3A us xs ys, True ∧ ((k : Int) != k) = false⟩ := by kernel_rfl
theorem fa_7'' : runV Try.prog (lookS [] [] []) 1 (cAt cFa [1, 1, 1, 1, 0, 1]) ((⟨mkT 85 [(53, .bool false), (5, slc 87 k c), (0, slc 85 n ca), (1, slc 86 m cb)], mkT 93 (r3A us xs ys), []⟩ : TS).fill g T) 85 93 k3A [5, 0, 1] = some ⟨.normal, s3A k c n ca m cb, r3A us xs ys, True⟩ := by kernel_rfl
noncomputable abbrev cFaL : Code := cAt cFa [1, 1, 1, 1, 1, 0]
noncomputable abbrev cFaB : Code := cAt cFaL [1]
noncomputable abbrev cFaR : Code := cAt cFaB [0, 0]
abbrev sAj (k c n ca m cb : Nat) (i : Int) : List (Nat × Value) := [(5, slc 87 k c), (0, slc 85 n ca), (1, slc 86 m cb), (6, num i)]
abbrev r4A (us xs ys : List Value) : List (Nat × Bool × List Value) := [(87, false, us), (85, false, xs), (86, false, ys)]
theorem fa_8 : runV Try.prog (lookS [] [] []) 1 (cAt cFaL [0]) ((⟨mkT 85 (s3A k c n ca m cb), mkT 93 (r4A us xs ys), []⟩ : TS).fill g T) 85 93 k3A [5, 0, 1, 6] = some ⟨.normal, sAj k c n ca m cb 0, r4A us xs ys, True⟩ := by kernel_rfl
abbrev lA (b o b' o' b2 o2 : Nat) : List (Nat × Nat × Nat) := [(87, b2, o2), (85, b, o), (86, b', o')]
def faH (us xs ys : List Value) (k c n ca m cb b o b' o' b2 o2 : Nat) (i : Int) : TS := ⟨mkT 85 (sAj k c n ca m cb i), mkT 93 (r4A us xs ys), lA b o b' o' b2 o2⟩
def faP (us xs ys : List Value) (z x y : L4) (k c n ca m cb b o b' o' b2 o2 s : Nat) (i : Int) : TS :=
  ⟨mkT 85 (sAj k c n ca m cb i), mkT 93 [(87, false, us), (85, false, xs), (86, false, ys), (88, false, z.cells), (89, false, x.cells), (90, false, y.cells)], (90, b', o' + s) :: (89, b, o + s) :: (88, b2, o2 + s) :: lA b o b' o' b2 o2⟩
def faPx (us xs ys : List Value) (z x : L4) (k c n ca m cb b o b' o' b2 o2 s : Nat) (i : Int) : TS :=
  ⟨mkT 85 (sAj k c n ca m cb i), mkT 93 [(87, false, us), (85, false, xs), (86, false, ys), (88, false, z.cells), (89, false, x.cells)], (89, b, o + s) :: (88, b2, o2 + s) :: lA b o b' o' b2 o2⟩
def faPy (us xs ys : List Value) (z y : L4) (k c n ca m cb b o b' o' b2 o2 s : Nat) (i : Int) : TS :=
  ⟨mkT 85 (sAj k c n ca m cb i), mkT 93 [(87, false, us), (85, false, xs), (86, false, ys), (88, false, z.cells), (90, false, y.cells)], (90, b', o' + s) :: (88, b2, o2 + s) :: lA b o b' o' b2 o2⟩
abbrev eFa (op : L4 → L4 → L4) (φ : L4 → L4 → Prop) : List (Nat × Sm) := [eV 27 [.V, .V] (rVV op φ)]
def vcHd (k n : Nat) (i : Int) (t : Bool) : Prop := (((True ∧ k ≤ 9223372036854775807) ∧ decide (i < lenI k) = true) ∧ n ≤ 9223372036854775807) ∧ decide (i < lenI n) = t
theorem fa_goA (op : L4 → L4 → L4) (φ : L4 → L4 → Prop) (z x y : L4) (s : Nat) (i : Int) :
    runV Try.prog (lookS (eFa op φ) [(87, s, 88), (85, s, 89), (86, s, 90)] [(57, true), (64, true), (72, true), (84, false)]) 1 cFaR ((faP us xs ys z x y k c n ca m cb b o b' o' b2 o2 s i).fill g T) 85 93 k3A [5, 0, 1, 6] =
      some ⟨.normal, sAj k c n ca m cb (IntKind.i64.wrap (i + 1)), r4A us xs ys, (((((((vcHd k n i true) ∧ vcI n i s) ∧ m ≤ 9223372036854775807) ∧ decide (i < lenI m) = true) ∧ vcI m i s) ∧ φ x y) ∧ vcI k i s) ∧ (!(eq4 z (op x y))) = false⟩ := by kernel_rfl
theorem fa_goB (op : L4 → L4 → L4) (φ : L4 → L4 → Prop) (z x : L4) (s : Nat) (i : Int) :
    runV Try.prog (lookS (eFa op φ) [(87, s, 88), (85, s, 89)] [(57, true), (64, true), (72, false), (84, false)]) 1 cFaR ((faPx us xs ys z x k c n ca m cb b o b' o' b2 o2 s i).fill g T) 85 93 k3A [5, 0, 1, 6] =
      some ⟨.normal, sAj k c n ca m cb (IntKind.i64.wrap (i + 1)), r4A us xs ys, (((((vcHd k n i true) ∧ vcI n i s) ∧ m ≤ 9223372036854775807) ∧ decide (i < lenI m) = false) ∧ vcI k i s) ∧ (!(eq4 z x)) = false⟩ := by kernel_rfl
theorem fa_goC (op : L4 → L4 → L4) (φ : L4 → L4 → Prop) (z y : L4) (s : Nat) (i : Int) :
    runV Try.prog (lookS (eFa op φ) [(87, s, 88), (86, s, 90)] [(57, true), (64, false), (72, true), (84, false)]) 1 cFaR ((faPy us xs ys z y k c n ca m cb b o b' o' b2 o2 s i).fill g T) 85 93 k3A [5, 0, 1, 6] =
      some ⟨.normal, sAj k c n ca m cb (IntKind.i64.wrap (i + 1)), r4A us xs ys, ((((((vcHd k n i false) ∧ m ≤ 9223372036854775807) ∧ decide (i < lenI m) = true) ∧ vcI m i s) ∧ φ z4 y) ∧ vcI k i s) ∧ (!(eq4 z (op z4 y))) = false⟩ := by kernel_rfl
theorem fa_end (i : Int) : runV Try.prog (lookS [] [] [(57, false)]) 1 cFaR ((faH us xs ys k c n ca m cb b o b' o' b2 o2 i).fill g T) 85 93 [] [] = some ⟨.exit 0, [], [], (True ∧ k ≤ 9223372036854775807) ∧ decide (i < lenI k) = false⟩ := by kernel_rfl
theorem fa_9 : runV Try.prog (lookS [] [] []) 1 (cAt cFa [1, 1, 1, 1, 1, 1]) ((⟨mkT 85 [], mkT 93 [], []⟩ : TS).fill g T) 85 93 [] [4] = some ⟨.ret, [(4, .bool true)], [], True⟩ := by kernel_rfl
theorem fa_vres (hp : Hp) : vres Try.prog Try.f8 ⟨fillT g 0 (mkT 85 [(4, .bool true)]), hp, True, 0⟩ = some (.bool true) := by kernel_rfl
end

theorem mix_get {us zs : List L4} {j i : Nat} (hj : j ≤ us.length) : (mix us zs j)[i]? = if i < j then us[i]? else zs[i]? := by
  unfold mix
  by_cases h : i < j
  · rw [if_pos h, List.getElem?_append_left (by rw [List.length_take]; omega), List.getElem?_take_of_lt h]
  · rw [if_neg h, List.getElem?_append_right (by rw [List.length_take]; omega), List.length_take, Nat.min_eq_left hj, List.getElem?_drop]
    congr 1; omega
theorem addr_comm (x y : L4) : addm rL x y = addm rL y x := by unfold addm; rw [Int.add_comm]
theorem zero_addr {y : L4} (hy : y.ok) (h : y.v < rL.v) : addm rL z4 y = y := by
  refine v_inj (lim_ok _) hy ?_
  rw [addr_v z4_ok hy ⟨by rw [z4_v, rL_v]; decide, h⟩, z4_v]
  split <;> omega
theorem sum_both {xs ys : List L4} {i : Nat} (h : i < xs.length) (h' : i < ys.length) : (sumL (addm rL) xs ys)[i]? = some (addm rL xs[i] ys[i]) := by
  unfold sumL
  split
  · rw [mix_get (by simp; omega), if_pos h, List.getElem?_zipWith, List.getElem?_eq_getElem h, List.getElem?_eq_getElem h']
    simp only [Option.some.injEq]
    exact addr_comm _ _
  · rw [mix_get (by simp; omega), if_pos h', List.getElem?_zipWith, List.getElem?_eq_getElem h, List.getElem?_eq_getElem h']
theorem sum_left {xs ys : List L4} {i : Nat} (h : i < xs.length) (h' : ys.length ≤ i) : (sumL (addm rL) xs ys)[i]? = some xs[i] := by
  unfold sumL
  rw [if_neg (by omega), mix_get (by simp; omega), if_neg (by omega), List.getElem?_eq_getElem h]
theorem sum_right {xs ys : List L4} {i : Nat} (h : xs.length ≤ i) (h' : i < ys.length) : (sumL (addm rL) xs ys)[i]? = some ys[i] := by
  unfold sumL
  rw [if_pos (by omega), mix_get (by simp; omega), if_neg (by omega), List.getElem?_eq_getElem h']
theorem get_of {α : Type} {l : List α} {i : Nat} {x : α} (h : l[i]? = some x) : ∃ h' : i < l.length, l[i] = x := List.getElem?_eq_some_iff.1 h

theorem all_low {xs ys : List L4} (h : ((xs ++ ys).all fun x => ltB x rL) = true) : (∀ x ∈ xs, x.v < rL.v) ∧ ∀ y ∈ ys, y.v < rL.v := by
  rw [List.all_eq_true] at h
  exact ⟨fun x hx => of_decide_eq_true (h x (by simp [hx])), fun y hy => of_decide_eq_true (h y (by simp [hy]))⟩
theorem steps_max {o : Oper} {a b : Operand} {x y : Nat} {τ : TS} {ks : Kept} (ho : o.op = .call { callee := .builtin .max, args := #[a, b], argTypes := #[3, 3] }) (oa : opdOK a = true) (ob : opdOK b = true)
    (ea : ∀ g, evS (fillT g 0 τ.tm) a = num x) (eb : ∀ g, evS (fillT g 0 τ.tm) b = num y) (hm : max x y ≤ 9223372036854775807) (hks : ∀ k ∈ ks, τ.hp[k.1]? = some (some k.2.2.2)) : StepsTo Try.prog o τ (num (max x y : Nat)) ks := by
  intro w0 W g T ρ ac w h _ Kt Q hK
  have e1 : ac.eval a = num x := by rw [h.tm.eval (τ.fill g T).hp oa, show evS (τ.fill g T).tm a = _ from ea g]; rfl
  have e2 : ac.eval b = num y := by rw [h.tm.eval (τ.fill g T).hp ob, show evS (τ.fill g T).tm b = _ from eb g]; rfl
  have hv : (if (y : Int) > x then (y : Int) else x) = ((max x y : Nat) : Int) := by split <;> omega
  have hrun : (Builtin.max_ #[3, 3] o.type #[num x, num y]).run Try.prog w = .ok (num (max x y : Nat)) w := by
    rw [run_max_int2, hv]
  unfold Oper.wp execOp
  simp only [ho, resolve, invoke, builtin, Sem.run_bind, Sem.run_pure, Result.andThen_ok, List.map_toArray, List.map_cons, List.map_nil, e1, e2, hrun]
  have hok : ok2 (τ.fill g T).hp (num ((max x y : Nat) : Int)) := ⟨by show (-9223372036854775808 : Int) ≤ _; omega, by show _ ≤ (9223372036854775807 : Int); omega⟩
  refine hK ρ _ _ w (Agree.refl _ _) ⟨⟨fun u hu => ?_, h.ok.hp⟩, h.tm.put o.dst (num ((max x y : Nat) : Int)), h.inv⟩ fun k hk => get_append (hks k hk)
  rcases putT_mem hu with hu | rfl
  · exact h.ok.tm u hu
  · exact hok

section
variable {xs ys : List L4} (hx : okL xs) (hy : okL ys) (hpx : 0 < xs.length) (hpy : 0 < ys.length) (hnx : xs.length ≤ 50) (hny : ys.length ≤ 50) (ca cb : Nat) (lx : ∀ x ∈ xs, x.v < rL.v) (ly : ∀ y ∈ ys, y.v < rL.v)
include hx hy hpx hpy hnx hny lx ly

omit hx in
/-- Behind the making of the sum: each is held against the reference. -/
theorem faL_tri (c : Nat) (sp : List Value) (fs : Flat sp) :
    Tri Try.prog (cAt cFa [1, 1, 1, 1, 1]) ⟨mkT 85 (s3A (sumL (addm rL) xs ys).length c xs.length ca ys.length cb), mkT 93 (r4A (flatL (sumL (addm rL) xs ys) ++ sp) (flatL xs) (flatL ys)), []⟩ fun e τ' => e = .ret ∧ τ'.tm = mkT 85 [(4, .bool true)] := by
  have ok : ∀ {al ta}, EnvOK Try.prog (lookS [] al ta) := lookS_ok env_nil
  have fx := flatL_flat xs
  have fy := flatL_flat ys
  have hul : (sumL (addm rL) xs ys).length = max xs.length ys.length := sumL_length _ _ _
  generalize hus : sumL (addm rL) xs ys = us at *
  have fu : Flat (flatL us ++ sp) := flat_app (flatL_flat _) fs
  have hn' : xs.length ≤ 9223372036854775807 := by omega
  have hm' : ys.length ≤ 9223372036854775807 := by omega
  have hk' : us.length ≤ 9223372036854775807 := by omega
  refine tri_seq' (K1 := fun e τ1 => e = .normal ∧ τ1 = ⟨mkT 85 [], mkT 93 [], []⟩) (by kernel_rfl) ?_ ?_ (fun _ _ he h => absurd h.1 he)
  · refine tri_next (τ1 := ⟨mkT 85 (sAj us.length c xs.length ca ys.length cb 0), mkT 93 (r4A (flatL us ++ sp) (flatL xs) (flatL ys)), []⟩) (by kernel_rfl) (tri_run ok follows (fa_8 _ ca _ cb _ c _ _ _) (by decide) trivial (alT_nil _ _ _) (by exact ⟨fu, fx, fy, trivial⟩) (locK_nil _ _) ⟨rfl, rfl⟩) ?_
    refine tri_loc (r := 87) (x := (false, flatL us ++ sp)) rfl fun b2 o2 => ?_
    refine tri_loc (r := 85) (x := (false, flatL xs)) rfl fun b o => ?_
    refine tri_loc (r := 86) (x := (false, flatL ys)) rfl fun b' o' => ?_
    have lk : ∀ {l : List (Nat × Nat × Nat)}, (87, b2, o2) ∈ l → (85, b, o) ∈ l → (86, b', o') ∈ l → LocK k3A l (lA b o b' o' b2 o2) := fun h1 h2 h3 => locK_cons 87 false (by simp) h1 (locK_cons 85 false (by simp) h2 (locK_cons 86 false (by simp) h3 (locK_nil _ _)))
    refine tri_turn (τ1 := faH (flatL us ++ sp) (flatL xs) (flatL ys) us.length c xs.length ca ys.length cb b o b' o' b2 o2 0) (fun w0 W a w ⟨g, T, ρ, hs, hl⟩ => ⟨g, T, ρ, hs, fun r b o h => hl r b o (by
      simp only [faH, lA, List.mem_cons, List.not_mem_nil, or_false] at h ⊢
      rcases h with h | h | h
      · exact .inr (.inr h)
      · exact .inr (.inl h)
      · exact .inl h)⟩) ?_
    refine tri_block' (by kernel_rfl) ?_
    refine tri_loop' (S := Nat) (by kernel_rfl) (fun i => i ≤ us.length) (fun i => faH (flatL us ++ sp) (flatL xs) (flatL ys) us.length c xs.length ca ys.length cb b o b' o' b2 o2 i) (fun i => us.length - i) ?_ (s := 0) (Nat.zero_le _)
    intro i hi
    by_cases hlt : i < us.length
    · have t1 := turn_peek (τ := faH (flatL us ++ sp) (flatL xs) (flatL ys) us.length c xs.length ca ys.length cb b o b' o' b2 o2 i) (r := 87) (q := 88) (b := b2) (o := o2) (A := flatL (us.take i)) (B := us[i].cells) (C := flatL (us.drop (i + 1)) ++ sp)
        (by rw [← List.append_assoc us[i].cells, ← List.append_assoc, ← flatL_at hlt]; rfl) rfl (by simp [faH])
      rw [take_len (Nat.le_of_lt hlt)] at t1
      have hi63 : i < 9223372036854775807 := by omega
      have e2 := num_next hi63
      have fin : ∀ τ', τ' = (⟨mkT 85 (sAj us.length c xs.length ca ys.length cb (IntKind.i64.wrap ((i : Int) + 1))), mkT 93 (r4A (flatL us ++ sp) (flatL xs) (flatL ys)), lA b o b' o' b2 o2⟩ : TS) → ∃ s', s' ≤ us.length ∧ us.length - s' < us.length - i ∧ τ' = faH (flatL us ++ sp) (flatL xs) (flatL ys) us.length c xs.length ca ys.length cb b o b' o' b2 o2 (s' : Nat) := by
        intro τ' h
        refine ⟨i + 1, hlt, by omega, ?_⟩
        rw [h]
        simp only [sAj]
        rw [show num (IntKind.i64.wrap ((i : Int) + 1)) = num ((i + 1 : Nat) : Int) from e2]
        rfl
      have hk1 : decide ((i : Int) < lenI us.length) = true := lenI_of hk' _ (by omega)
      by_cases hix : i < xs.length
      · have t2 := turn_peek (τ := ⟨mkT 85 (sAj us.length c xs.length ca ys.length cb i), mkT 93 [(87, false, flatL us ++ sp), (85, false, flatL xs), (86, false, flatL ys), (88, false, us[i].cells)], (88, b2, o2 + 4 * i) :: lA b o b' o' b2 o2⟩)
          (r := 85) (q := 89) (b := b) (o := o) (A := flatL (xs.take i)) (B := xs[i].cells) (C := flatL (xs.drop (i + 1))) (by rw [← flatL_at hix]; rfl) rfl (by simp)
        rw [take_len (Nat.le_of_lt hix)] at t2
        have hd : vcHd us.length xs.length i true := ⟨⟨⟨⟨trivial, hk'⟩, hk1⟩, hn'⟩, lenI_of hn' _ (by omega)⟩
        by_cases hiy : i < ys.length
        · have t3 := turn_peek (τ := ⟨mkT 85 (sAj us.length c xs.length ca ys.length cb i), mkT 93 [(87, false, flatL us ++ sp), (85, false, flatL xs), (86, false, flatL ys), (88, false, us[i].cells), (89, false, xs[i].cells)], (89, b, o + 4 * i) :: (88, b2, o2 + 4 * i) :: lA b o b' o' b2 o2⟩)
            (r := 86) (q := 90) (b := b') (o := o') (A := flatL (ys.take i)) (B := ys[i].cells) (C := flatL (ys.drop (i + 1))) (by rw [← flatL_at hiy]; rfl) rfl (by simp)
          rw [take_len (Nat.le_of_lt hiy)] at t3
          have t4 : Turns (faH (flatL us ++ sp) (flatL xs) (flatL ys) us.length c xs.length ca ys.length cb b o b' o' b2 o2 i) (faP (flatL us ++ sp) (flatL xs) (flatL ys) us[i] xs[i] ys[i] us.length c xs.length ca ys.length cb b o b' o' b2 o2 (4 * i) i) :=
            fun w0 W a w hs => t3 w0 W a w (t2 w0 W a w (t1 w0 W a w hs))
          refine tri_turn t4 ?_
          have hal : ∀ ta, AlT (lookS (eFa (addm rL) (lowm rL)) [(87, 4 * i, 88), (85, 4 * i, 89), (86, 4 * i, 90)] ta) (faP (flatL us ++ sp) (flatL xs) (flatL ys) us[i] xs[i] ys[i] us.length c xs.length ca ys.length cb b o b' o' b2 o2 (4 * i) i) :=
            fun ta => alT_cons b2 o2 (by simp [faP]) (by simp [faP]) (alT_cons b o (by simp [faP]) (by simp [faP]) (alT_cons b' o' (by simp [faP]) (by simp [faP]) (fun r s q h => by simp [lookS] at h)))
          have hz : us[i] = addm rL xs[i] ys[i] := by
            obtain ⟨_, h⟩ := get_of (sum_both hix hiy)
            rw [← h]; congr 1; exact hus.symm
          refine tri_run (lookS_ok (env_V ac_PlusR env_nil)) follows (fun g T => fa_goA xs.length ca ys.length cb us.length c (flatL xs) (flatL ys) (flatL us ++ sp) b o b' o' b2 o2 g T (addm rL) (lowm rL) us[i] xs[i] ys[i] (4 * i) i) (by decide)
            (by exact ⟨⟨⟨⟨⟨⟨⟨hd, vcI_mk hix⟩, hm'⟩, lenI_of hm' _ (by omega)⟩, vcI_mk hiy⟩, lx _ (List.getElem_mem hix), ly _ (List.getElem_mem hiy)⟩, vcI_mk hlt⟩, by rw [hz, eq4_refl]; rfl⟩) (hal _) (by exact ⟨fu, fx, fy, trivial⟩) (lk (by simp [faP]) (by simp [faP]) (by simp [faP])) ?_
          exact fin _ rfl
        · have t4 : Turns (faH (flatL us ++ sp) (flatL xs) (flatL ys) us.length c xs.length ca ys.length cb b o b' o' b2 o2 i) (faPx (flatL us ++ sp) (flatL xs) (flatL ys) us[i] xs[i] us.length c xs.length ca ys.length cb b o b' o' b2 o2 (4 * i) i) :=
            fun w0 W a w hs => t2 w0 W a w (t1 w0 W a w hs)
          refine tri_turn t4 ?_
          have hal : ∀ ta, AlT (lookS (eFa (addm rL) (lowm rL)) [(87, 4 * i, 88), (85, 4 * i, 89)] ta) (faPx (flatL us ++ sp) (flatL xs) (flatL ys) us[i] xs[i] us.length c xs.length ca ys.length cb b o b' o' b2 o2 (4 * i) i) :=
            fun ta => alT_cons b2 o2 (by simp [faPx]) (by simp [faPx]) (alT_cons b o (by simp [faPx]) (by simp [faPx]) (fun r s q h => by simp [lookS] at h))
          have hz : us[i] = xs[i] := by
            obtain ⟨_, h⟩ := get_of (sum_left hix (Nat.le_of_not_lt hiy))
            rw [← h]; congr 1; exact hus.symm
          refine tri_run (lookS_ok (env_V ac_PlusR env_nil)) follows (fun g T => fa_goB xs.length ca ys.length cb us.length c (flatL xs) (flatL ys) (flatL us ++ sp) b o b' o' b2 o2 g T (addm rL) (lowm rL) us[i] xs[i] (4 * i) i) (by decide)
            (by exact ⟨⟨⟨⟨⟨hd, vcI_mk hix⟩, hm'⟩, lenI_not hm' _ (by omega)⟩, vcI_mk hlt⟩, by rw [hz, eq4_refl]; rfl⟩) (hal _) (by exact ⟨fu, fx, fy, trivial⟩) (lk (by simp [faPx]) (by simp [faPx]) (by simp [faPx])) ?_
          exact fin _ rfl
      · have hiy : i < ys.length := by omega
        have t3 := turn_peek (τ := ⟨mkT 85 (sAj us.length c xs.length ca ys.length cb i), mkT 93 [(87, false, flatL us ++ sp), (85, false, flatL xs), (86, false, flatL ys), (88, false, us[i].cells)], (88, b2, o2 + 4 * i) :: lA b o b' o' b2 o2⟩)
          (r := 86) (q := 90) (b := b') (o := o') (A := flatL (ys.take i)) (B := ys[i].cells) (C := flatL (ys.drop (i + 1))) (by rw [← flatL_at hiy]; rfl) rfl (by simp)
        rw [take_len (Nat.le_of_lt hiy)] at t3
        have t4 : Turns (faH (flatL us ++ sp) (flatL xs) (flatL ys) us.length c xs.length ca ys.length cb b o b' o' b2 o2 i) (faPy (flatL us ++ sp) (flatL xs) (flatL ys) us[i] ys[i] us.length c xs.length ca ys.length cb b o b' o' b2 o2 (4 * i) i) :=
          fun w0 W a w hs => t3 w0 W a w (t1 w0 W a w hs)
        refine tri_turn t4 ?_
        have hd : vcHd us.length xs.length i false := ⟨⟨⟨⟨trivial, hk'⟩, hk1⟩, hn'⟩, lenI_not hn' _ (by omega)⟩
        have hal : ∀ ta, AlT (lookS (eFa (addm rL) (lowm rL)) [(87, 4 * i, 88), (86, 4 * i, 90)] ta) (faPy (flatL us ++ sp) (flatL xs) (flatL ys) us[i] ys[i] us.length c xs.length ca ys.length cb b o b' o' b2 o2 (4 * i) i) :=
          fun ta => alT_cons b2 o2 (by simp [faPy]) (by simp [faPy]) (alT_cons b' o' (by simp [faPy]) (by simp [faPy]) (fun r s q h => by simp [lookS] at h))
        have hyl := ly _ (List.getElem_mem hiy)
        have hz : us[i] = addm rL z4 ys[i] := by
          obtain ⟨_, h⟩ := get_of (sum_right (Nat.le_of_not_lt hix) hiy)
          rw [zero_addr (hy _ (List.getElem_mem hiy)) hyl, ← h]; congr 1; exact hus.symm
        refine tri_run (lookS_ok (env_V ac_PlusR env_nil)) follows (fun g T => fa_goC xs.length ca ys.length cb us.length c (flatL xs) (flatL ys) (flatL us ++ sp) b o b' o' b2 o2 g T (addm rL) (lowm rL) us[i] ys[i] (4 * i) i) (by decide)
          (by exact ⟨⟨⟨⟨⟨⟨hd, hm'⟩, lenI_of hm' _ (by omega)⟩, vcI_mk hiy⟩, by rw [z4_v, rL_v]; decide, hyl⟩, vcI_mk hlt⟩, by rw [hz, eq4_refl]; rfl⟩) (hal _) (by exact ⟨fu, fx, fy, trivial⟩) (lk (by simp [faPy]) (by simp [faPy]) (by simp [faPy])) ?_
        exact fin _ rfl
    · refine tri_run ok follows (fun g T => fa_end xs.length ca ys.length cb us.length c (flatL xs) (flatL ys) (flatL us ++ sp) b o b' o' b2 o2 g T i) (by decide) (by exact ⟨⟨trivial, hk'⟩, lenI_not hk' _ (by omega)⟩) (alT_nil _ _ _) trivial (locK_nil _ _) ?_
      exact ⟨rfl, rfl⟩
  · rintro τ1 ⟨_, rfl⟩
    exact tri_run ok follows fa_9 (by decide) trivial (alT_nil _ _ _) trivial (locK_nil _ _) ⟨rfl, rfl⟩

/-- Behind the look at both lists. -/
theorem faM_tri : Tri Try.prog (cAt cFa [1, 1, 1]) (FaT xs.length ca ys.length cb (flatL xs) (flatL ys)) fun e τ' => e = .ret ∧ τ'.tm = mkT 85 [(4, .bool true)] := by
  have ok : ∀ {al ta}, EnvOK Try.prog (lookS [] al ta) := lookS_ok env_nil
  have fx := flatL_flat xs
  have fy := flatL_flat ys
  have hul : (sumL (addm rL) xs ys).length = max xs.length ys.length := sumL_length _ _ _
  have hn' : xs.length ≤ 9223372036854775807 := by omega
  have hm' : ys.length ≤ 9223372036854775807 := by omega
  have hk' : (sumL (addm rL) xs ys).length ≤ 9223372036854775807 := by omega
  have fu0 := flatL_flat (sumL (addm rL) xs ys)
  refine tri_seq' (K1 := fun e τ' => e = .normal ∧ ∃ c sp, Flat sp ∧ τ' = ⟨mkT 85 (s3A (sumL (addm rL) xs ys).length c xs.length ca ys.length cb), mkT 93 (r3A (flatL (sumL (addm rL) xs ys) ++ sp) (flatL xs) (flatL ys)), []⟩) (by kernel_rfl) ?_ ?_ (fun _ _ he h => absurd h.1 he)
  · refine tri_region' (by kernel_rfl) ?_
    show TriL _ oFa5 oFa5.toList _ _
    rw [← List.take_append_drop 2 oFa5.toList]
    refine tril_run ok (fa_5 _ ca _ cb _ _) (by decide) trivial (alT_nil _ _ _) ⟨fx, fy, trivial⟩ (locK_nil _ _) ?_
    obtain ⟨o1, g1, d1, p1, e1⟩ := ops_drop fa_op52
    rw [e1]
    refine tril_gain (f := 26) (fn := Try.f26) (code := cPa) (dst := 45) (m := 93) (d := 45) (h' := 87) (us := sumL (addm rL) xs ys) (vs := [slc 85 xs.length ca, slc 86 ys.length cb]) (live := [(0, slc 85 xs.length ca), (1, slc 86 ys.length cb)]) (ks := ksFa (flatL xs) (flatL ys)) (loc := []) p1 d1 fa_c52
      (fun g => by simp only [wantedS, g1]) (fun x hx => by rw [fa_a52] at hx; simp at hx; rcases hx with rfl | rfl <;> rfl) (by kernel_rfl) (by kernel_rfl) (by kernel_rfl) (fun g => by rw [fa_a52]; rfl) (sumL_ok (addm_ok rL) hx hy) ?_ rfl (by rw [mkT_length]; decide) (fun p hp => by
        simp only [List.mem_cons, List.not_mem_nil, or_false] at hp
        rcases hp with rfl | rfl
        · exact ⟨show (0 : Nat) ≠ 45 by decide, _, fun g => rfl, rfl⟩
        · exact ⟨show (1 : Nat) ≠ 45 by decide, _, fun g => rfl, rfl⟩) (fun k hk => by
        simp only [List.mem_cons, List.not_mem_nil, or_false] at hk
        rcases hk with rfl | rfl
        · exact ⟨rfl, fun _ => fx, show (85 : Nat) ≠ 45 by decide⟩
        · exact ⟨rfl, fun _ => fy, show (86 : Nat) ≠ 45 by decide⟩) rfl (fun q b o h => by simp at h) ?_
    · intro w0 W g T ρ a w hs _
      have l1 := listIn_of hs.inv (r := 85) (f := false) (xs := xs) (ex := []) (by rw [List.append_nil]; rfl)
      have l2 := listIn_of hs.inv (r := 86) (f := false) (xs := ys) (ex := []) (by rw [List.append_nil]; rfl)
      exact pa_calls hx hy hpx hpy (by omega) (by omega) (fun x hx y hy => ⟨⟨lx x hx, ly y hy⟩, ly y hy, lx x hx⟩) ca cb (ρ 85).1 (ρ 85).2 (ρ 86).1 (ρ 86).2 w l1 l2
    · intro c sp h1 h2 fs
      have fa : Flat (flatL (sumL (addm rL) xs ys) ++ sp) := flat_app fu0 fs
      have := tril_run (rest := []) (K := fun τ' => Xt.normal = .normal ∧ ∃ c sp, Flat sp ∧ τ' = ⟨mkT 85 (s3A (sumL (addm rL) xs ys).length c xs.length ca ys.length cb), mkT 93 (r3A (flatL (sumL (addm rL) xs ys) ++ sp) (flatL xs) (flatL ys)), []⟩) ok (fa_6 xs.length ca ys.length cb (sumL (addm rL) xs ys).length c (flatL xs) (flatL ys) (flatL (sumL (addm rL) xs ys) ++ sp)) (by decide) trivial (alT_nil _ _ _) ⟨fa, fx, fy, trivial⟩ (locK_nil _ _) (tril_nil ⟨rfl, c, sp, fs, rfl⟩)
      rw [List.append_nil] at this
      exact this
  · rintro τ1 ⟨_, c, sp, fs, rfl⟩
    have fa : Flat (flatL (sumL (addm rL) xs ys) ++ sp) := flat_app fu0 fs
    refine tri_next (τ1 := ⟨mkT 85 (s3A (sumL (addm rL) xs ys).length c xs.length ca ys.length cb), mkT 93 (r3A (flatL (sumL (addm rL) xs ys) ++ sp) (flatL xs) (flatL ys)), []⟩) (by kernel_rfl) ?_ ?_
    · refine tri_next (τ1 := ⟨mkT 85 [(53, .bool false), (5, slc 87 (sumL (addm rL) xs ys).length c), (0, slc 85 xs.length ca), (1, slc 86 ys.length cb)], mkT 93 (r3A (flatL (sumL (addm rL) xs ys) ++ sp) (flatL xs) (flatL ys)), []⟩) (by kernel_rfl) ?_ (tri_run ok follows (fa_7'' _ ca _ cb _ c _ _ _) (by decide) trivial (alT_nil _ _ _) ⟨fa, fx, fy, trivial⟩ (locK_nil _ _) ⟨rfl, rfl⟩)
      refine tri_region' (by kernel_rfl) ?_
      show TriL _ oFa6 oFa6.toList _ _
      rw [← List.take_append_drop 6 oFa6.toList]
      refine tril_run ok (fa_7 _ ca _ cb _ c _ _ _) (by decide) ⟨⟨⟨trivial, hk'⟩, hn'⟩, hm'⟩ (alT_nil _ _ _) ⟨fa, fx, fy, trivial⟩ (locK_nil _ _) ?_
      rw [lenI_eq hk', lenI_eq hn', lenI_eq hm']
      obtain ⟨o1, g1, d1, p1, e1⟩ := ops_drop fa_op66
      rw [e1]
      refine tril_step (m := 93) (v' := num (max xs.length ys.length : Nat)) (live := [(47, num (sumL (addm rL) xs ys).length), (5, slc 87 (sumL (addm rL) xs ys).length c), (0, slc 85 xs.length ca), (1, slc 86 ys.length cb)]) (ks := [(87, 87, false, true, flatL (sumL (addm rL) xs ys) ++ sp), (85, 85, false, false, flatL xs), (86, 86, false, false, flatL ys)]) (loc := [])
        (steps_max (x := xs.length) (y := ys.length) p1 rfl rfl (fun g => rfl) (fun g => rfl) (by omega) (fun k hk => by
          simp only [List.mem_cons, List.not_mem_nil, or_false] at hk
          rcases hk with rfl | rfl | rfl <;> rfl)) d1 (fun g => by simp only [wantedS, g1]) (by rw [mkT_length]; decide) rfl (fun p hp => by
          simp only [List.mem_cons, List.not_mem_nil, or_false] at hp
          rcases hp with rfl | rfl | rfl | rfl
          · exact ⟨show (47 : Nat) ≠ 52 by decide, _, fun g => rfl, rfl⟩
          · exact ⟨show (5 : Nat) ≠ 52 by decide, _, fun g => rfl, rfl⟩
          · exact ⟨show (0 : Nat) ≠ 52 by decide, _, fun g => rfl, rfl⟩
          · exact ⟨show (1 : Nat) ≠ 52 by decide, _, fun g => rfl, rfl⟩) (fun k hk => by
          simp only [List.mem_cons, List.not_mem_nil, or_false] at hk
          rcases hk with rfl | rfl | rfl
          · exact fun _ => fa
          · exact fun _ => fx
          · exact fun _ => fy) rfl (fun q b o h => by simp at h) ?_
      rw [← hul]
      have := tril_run (rest := []) (K := fun τ' => Xt.normal = .normal ∧ τ' = ⟨mkT 85 [(53, .bool false), (5, slc 87 (sumL (addm rL) xs ys).length c), (0, slc 85 xs.length ca), (1, slc 86 ys.length cb)], mkT 93 (r3A (flatL (sumL (addm rL) xs ys) ++ sp) (flatL xs) (flatL ys)), []⟩) ok (fa_7' xs.length ca ys.length cb (sumL (addm rL) xs ys).length c (flatL xs) (flatL ys) (flatL (sumL (addm rL) xs ys) ++ sp)) (by decide) ⟨trivial, bne_self_eq_false _⟩ (alT_nil _ _ _) ⟨fa, fx, fy, trivial⟩ (locK_nil _ _) (tril_nil ⟨rfl, rfl⟩)
      rw [List.append_nil] at this
      exact this
    refine tri_turn (turn_read (r := 87) (cs := flatL (sumL (addm rL) xs ys) ++ sp) rfl) ?_
    exact faL_tri hy hpx hpy hnx hny ca cb lx ly c sp fs
end

theorem fa_tri {xs ys : List L4} (hx : okL xs) (hy : okL ys) (hnx : xs.length ≤ 9223372036854775807) (hny : ys.length ≤ 9223372036854775807) {va vb : Value} (ha : SV 85 va xs.length) (hb : SV 86 vb ys.length) (b o b' o' : Nat) :
    Tri Try.prog cFa (faS va vb (flatL xs) (flatL ys) b o b' o') fun e τ' => e = .ret ∧ τ'.tm = mkT 85 [(4, .bool true)] := by
  have ok : ∀ {al ta}, EnvOK Try.prog (lookS [] al ta) := lookS_ok env_nil
  have fx := flatL_flat xs
  have fy := flatL_flat ys
  have ex : lenI xs.length = xs.length := lenI_eq hnx
  have ey : lenI ys.length = ys.length := lenI_eq hny
  have hva : ∃ qa ca, va = .slice qa xs.length ca := by
    rcases ha with ⟨rfl, h⟩ | ⟨c, rfl⟩
    · exact ⟨none, 0, by rw [h]⟩
    · exact ⟨_, c, rfl⟩
  have hvb : ∃ qb cb, vb = .slice qb ys.length cb := by
    rcases hb with ⟨rfl, h⟩ | ⟨c, rfl⟩
    · exact ⟨none, 0, by rw [h]⟩
    · exact ⟨_, c, rfl⟩
  obtain ⟨qa, ca', ea⟩ := hva
  obtain ⟨qb, cb', eb⟩ := hvb
  have gt : ∀ {n : Nat} {k : Int}, n ≤ 9223372036854775807 → k < n → decide (lenI n > k) = true := fun h1 h2 => decide_eq_true (by rw [lenI_eq h1]; omega)
  have le : ∀ {n : Nat} {k : Int}, n ≤ 9223372036854775807 → n ≤ k → decide (lenI n > k) = false := fun h1 h2 => decide_eq_false (by rw [lenI_eq h1]; omega)
  by_cases h1 : 2147483647 < xs.length
  · subst ea eb
    exact tri_run ok follows (fa_A1 qa qb _ ca' _ cb' _ _ b o b' o') (by decide) ⟨⟨trivial, hnx⟩, gt hnx (by show (2147483647 : Int) < _; omega)⟩ (alT_nil _ _ _) trivial (locK_nil _ _) ⟨rfl, rfl⟩
  have lx1 : decide (lenI xs.length > lim31) = false := le hnx (by show _ ≤ (2147483647 : Int); omega)
  by_cases h2 : 2147483647 < ys.length
  · subst ea eb
    exact tri_run ok follows (fa_A2 qa qb _ ca' _ cb' _ _ b o b' o') (by decide) ⟨⟨⟨⟨trivial, hnx⟩, lx1⟩, hny⟩, gt hny (by show (2147483647 : Int) < _; omega)⟩ (alT_nil _ _ _) trivial (locK_nil _ _) ⟨rfl, rfl⟩
  have vc : vcFa xs.length ys.length := ⟨⟨⟨⟨trivial, hnx⟩, lx1⟩, hny⟩, le hny (by show _ ≤ (2147483647 : Int); omega)⟩
  by_cases h3 : xs.length = 0
  · subst ea eb
    exact tri_run ok follows (fa_B1 qa qb _ ca' _ cb' _ _ b o b' o') (by decide) ⟨⟨vc, hnx⟩, by rw [ex, h3]; rfl⟩ (alT_nil _ _ _) trivial (locK_nil _ _) ⟨rfl, rfl⟩
  have hpx : 0 < xs.length := by omega
  have nx := len_ne hnx hpx
  by_cases h4 : ys.length = 0
  · subst ea eb
    exact tri_run ok follows (fa_B2 qa qb _ ca' _ cb' _ _ b o b' o') (by decide) ⟨⟨⟨⟨vc, hnx⟩, nx⟩, hny⟩, by rw [ey, h4]; rfl⟩ (alT_nil _ _ _) trivial (locK_nil _ _) ⟨rfl, rfl⟩
  have hpy : 0 < ys.length := by omega
  have ny := len_ne hny hpy
  by_cases h5 : 50 < xs.length
  · subst ea eb
    exact tri_run ok follows (fa_B3 qa qb _ ca' _ cb' _ _ b o b' o') (by decide) ⟨⟨⟨⟨⟨⟨vc, hnx⟩, nx⟩, hny⟩, ny⟩, hnx⟩, gt hnx (by omega)⟩ (alT_nil _ _ _) trivial (locK_nil _ _) ⟨rfl, rfl⟩
  have l50 : decide (lenI xs.length > 50) = false := le hnx (by omega)
  by_cases h6 : 50 < ys.length
  · subst ea eb
    exact tri_run ok follows (fa_B4 qa qb _ ca' _ cb' _ _ b o b' o') (by decide) ⟨⟨⟨⟨⟨⟨⟨⟨vc, hnx⟩, nx⟩, hny⟩, ny⟩, hnx⟩, l50⟩, hny⟩, gt hny (by omega)⟩ (alT_nil _ _ _) trivial (locK_nil _ _) ⟨rfl, rfl⟩
  have m50 : decide (lenI ys.length > 50) = false := le hny (by omega)
  have hx50 : xs.length ≤ 50 := by omega
  have hy50 : ys.length ≤ 50 := by omega
  clear ea eb
  rcases ha with ⟨_, h⟩ | ⟨ca, rfl⟩
  · exact absurd h h3
  rcases hb with ⟨_, h⟩ | ⟨cb, rfl⟩
  · exact absurd h h4
  refine tri_next (τ1 := FaT xs.length ca ys.length cb (flatL xs) (flatL ys)) (by kernel_rfl) (tri_run ok follows (fa_0 _ ca _ cb _ _ b o b' o') (by decide) trivial (alT_nil _ _ _) ⟨fx, fy, trivial⟩ (locK_nil _ _) ⟨rfl, rfl⟩) ?_
  refine tri_next (τ1 := FaT xs.length ca ys.length cb (flatL xs) (flatL ys)) (by kernel_rfl) (tri_run ok follows (fa_1 _ ca _ cb _ _) (by decide) vc (alT_nil _ _ _) ⟨fx, fy, trivial⟩ (locK_nil _ _) ⟨rfl, rfl⟩) ?_
  refine tri_seq' (K1 := fun e τ1 => (e = .ret ∧ τ1.tm = mkT 85 [(4, .bool true)]) ∨ (e = .normal ∧ ((xs ++ ys).all fun x => ltB x rL) = true ∧ τ1 = FaT xs.length ca ys.length cb (flatL xs) (flatL ys))) (by kernel_rfl) ?_ ?_ ?_
  · refine tri_seq' (K1 := fun e τ' => e = .normal ∧ τ' = ⟨mkT 85 [(42, .bool (!((xs ++ ys).all fun x => ltB x rL))), (0, slc 85 xs.length ca), (1, slc 86 ys.length cb)], mkT 93 (rFa (flatL xs) (flatL ys)), []⟩) (by kernel_rfl) ?_ ?_ (fun _ _ he h => absurd h.1 he)
    · refine tri_region' (by kernel_rfl) ?_
      show TriL _ oFa3 oFa3.toList _ _
      rw [← List.take_append_drop 19 oFa3.toList]
      refine tril_run ok (fa_2 _ ca _ cb _ _) (by decide) ⟨⟨⟨⟨⟨⟨⟨⟨trivial, hnx⟩, nx⟩, hny⟩, ny⟩, hnx⟩, l50⟩, hny⟩, m50⟩ (alT_nil _ _ _) ⟨fx, fy, trivial⟩ (locK_nil _ _) ?_
      exact Fa_low hx hy hpx hpy hx50 hy50 ca cb ⟨rfl, rfl⟩
    · rintro τ1 ⟨_, rfl⟩
      cases hall : ((xs ++ ys).all fun x => ltB x rL) with
      | false => exact tri_run ok follows (fa_3 _ ca _ cb _ _) (by decide) trivial (alT_nil _ _ _) trivial (locK_nil _ _) (.inl ⟨rfl, rfl⟩)
      | true => exact tri_run ok follows (fa_4 _ ca _ cb _ _) (by decide) trivial (alT_nil _ _ _) ⟨fx, fy, trivial⟩ (locK_nil _ _) (.inr ⟨rfl, rfl, rfl⟩)
  · rintro τ1 (⟨h, _⟩ | ⟨_, hall, rfl⟩)
    · cases h
    obtain ⟨lx, ly⟩ := all_low hall
    exact faM_tri hx hy hpx hpy hx50 hy50 ca cb lx ly
  · rintro e τ1 he (h | ⟨h, _⟩)
    · exact h
    · exact absurd h he

open Go.ChangeShapes Go.WideShapes Go.ChangeAt Go.RowKit
set_option maxRecDepth 100000 in
theorem fnPolyAdd_lifted (os : Os) (started : os.Started) (H : Type) (enc : TypeId × Value → H) :
    ReturnsInHanded {} Try.checked os 8 .any (Rows.fnPolyAddSpec.pre6 enc Try.prog Try.f8 Rows.fnPolyAddRow.domain false)
      (Rows.fnPolyAddSpec.post enc Try.prog Try.f8 false true false false) := by
  refine returnsInHanded_of_change (C := Try.checked) Try.own started (by kernel_rfl) Try.func8
    (ChangeSpec.witness6 (enc := enc) (C := Try.checked) false ⟨#[], #[.slice none 0 0, .slice none 0 0], []⟩ 8 (by kernel_rfl) (by kernel_rfl) (by kernel_rfl) (by kernel_rfl)) ?_
  intro W base args ds gs before hval0 hW hcnd _
  have hval : ∀ (j : Nat) t v, Try.f8.params[j]? = some t → args[j]? = some v → Value.okWide Try.prog W .any base t v := hval0
  have hW' := hW
  obtain ⟨p, q, hA0, hV, rfl, hfz, hnd⟩ := hW
  have hA : DataW.TrodAll enc Try.prog W 0 (fun _ => true) true Try.f8.params.toList args.toList ds p := hA0
  rw [Try.params8] at hA hval
  obtain ⟨v0, v1, d0, d1, p0, p1, rfl, rfl, rfl, h0, h1⟩ := trodAll_two hA
  obtain ⟨rfl, rfl⟩ := trodVars_none hV
  obtain ⟨xs, b, o, ox, nx, lx, ex⟩ := open_list (u := 22) Fa_und (by kernel_rfl) (by kernel_rfl) (by kernel_rfl) (by kernel_rfl) (hval 0 34 v0 rfl rfl) h0
  obtain ⟨ys, b', o', oy, ny, ly, ey⟩ := open_list (u := 22) Fa_und (by kernel_rfl) (by kernel_rfl) (by kernel_rfl) (by kernel_rfl) (hval 1 34 v1 rfl rfl) h1
  clear hA0 hval0
  simp only [List.append_nil] at hW'
  have hlt : ∀ z ∈ p0 ++ p1, z.block < W.heap.size := fun z hz => by simpa using hW'.lt z hz
  refine (law_LL (f := 8) (fn := Try.f8) (nt := 85) (by kernel_rfl) (by kernel_rfl) (by kernel_rfl) ox oy ex ey lx ly (fun ua ub sa sb =>
    tri_conseq (fa_tri ox oy nx ny sa sb b o b' o') fun e τ' h => ⟨h.1, _, h.2, fa_vres⟩)).mono fun e W' ⟨he, hb⟩ => ?_
  refine ⟨_, he, _, _, _, [], p0 ++ p1, [], hW', shut_true (by kernel_rfl), ?_, rfl, hb.frame _, fun h => by cases h⟩
  exact trodAll_mk2 (Below.trod Try.laidOut (by kernel_rfl) (of_decide_eq_true (by kernel_rfl)) h0 hb fun z hz => hlt z (List.mem_append_left _ hz))
    (Below.trod Try.laidOut (by kernel_rfl) (of_decide_eq_true (by kernel_rfl)) h1 hb fun z hz => hlt z (List.mem_append_right _ hz))

/-- **FnPolyAdd holds whatever the input.** -/
theorem fnPolyAdd_holds : Rows.FnPolyAddSaid :=
  OpenClaim.holds_of_wide 8 Try.f8 rfl rfl rfl rfl rfl rfl rfl ⟨rfl, rfl, rfl, rfl, rfl⟩ rfl rfl rfl rfl rfl (by kernel_rfl) Try.func8 (by kernel_rfl)
    (of_decide_eq_true (by kernel_rfl)) (by unfold Func.isWrapper; rw [if_neg (of_decide_eq_false (by kernel_rfl))]; exact ⟨rfl, rfl⟩)
    (fun os started H enc _ => fnPolyAdd_lifted os started H enc)
#print axioms fnPolyAdd_holds
end Go.Proofs.Ytbbifiogcpcpfaa
