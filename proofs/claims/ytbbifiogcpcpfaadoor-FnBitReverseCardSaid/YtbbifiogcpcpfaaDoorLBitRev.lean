/-
  The law FnBitReverse holds whatever the input: a list of 2^k elements is put in the order of reversed numbers.
-/
import Derived.Test.YtbbifiogcpcpfaaDoorBrWalk
import Derived.Test.YtbbifiogcpcpfaaDoorTie
import Derived.Test.YtbbifiogcpcpfaaDoorCards
import Derived.LaidMore
import Derived.Stop.Joined
import Derived.Lib.LaidTab
import Derived.SevenTiedAt
namespace Go.Proofs.YtbbifiogcpcpfaaDoor
open Vm

noncomputable abbrev cFb : Code := bodyOf Tryd.f3
noncomputable abbrev oFb5 : Array Oper := opsOf (cAt cFb [1, 1, 1, 0])
abbrev lim31 : Int := 2147483647
abbrev lFb : List (Nat × Nat × Nat) := [(28, 0, 0)]
abbrev rFb (xs : List Value) : List (Nat × Bool × List Value) := [(27, false, xs), (28, false, tabV)]
abbrev kFb : Keep := [(27, 27, false), (28, 28, false)]
def fbS (k : Int) (va : Value) (xs : List Value) (b o : Nat) : TS := ⟨[num k, va].map some ++ List.replicate (27 - 2) none, hpA 27 [(b, o, false, xs), (0, 0, false, tabV)], lFb⟩
section
variable (k : Int) (qa : Option Addr) (n ca : Nat) (xs : List Value) (b o : Nat) (g : Nat → Value) (T : Hp)
theorem fb_A : runV Tryd.prog (lookS [] [] [(7, true)]) 1 cFb ((fbS k (.slice qa n ca) xs b o).fill g T) 27 33 [] [4] = some ⟨.ret, [(4, .bool true)], [], (True ∧ n ≤ 9223372036854775807) ∧ decide (lenI n > lim31) = true⟩ := by kernel_rfl
theorem fb_B : runV Tryd.prog (lookS [] [] [(7, false), (9, true)]) 1 cFb ((fbS k (.slice qa n ca) xs b o).fill g T) 27 33 [] [4] = some ⟨.ret, [(4, .bool true)], [], ((True ∧ n ≤ 9223372036854775807) ∧ decide (lenI n > lim31) = false) ∧ decide (k < 0) = true⟩ := by kernel_rfl
theorem fb_C : runV Tryd.prog (lookS [] [] [(7, false), (9, false), (12, true)]) 1 cFb ((fbS k (.slice qa n ca) xs b o).fill g T) 27 33 [] [4] = some ⟨.ret, [(4, .bool true)], [], (((True ∧ n ≤ 9223372036854775807) ∧ decide (lenI n > lim31) = false) ∧ decide (k < 0) = false) ∧ decide (k > 6) = true⟩ := by kernel_rfl
end
theorem fb_D : ∀ k : Nat, k ≤ 6 → ∀ (qa : Option Addr) (n ca : Nat) (xs : List Value) (b o : Nat) (g : Nat → Value) (T : Hp), runV Tryd.prog (lookS [] [] [(7, false), (19, true)]) 1 cFb ((fbS k (.slice qa n ca) xs b o).fill g T) 27 33 [] [4] =
    some ⟨.ret, [(4, .bool true)], [], (((True ∧ n ≤ 9223372036854775807) ∧ decide (lenI n > lim31) = false) ∧ n ≤ 9223372036854775807) ∧ (lenI n != ((2 ^ k : Nat) : Int)) = true⟩
  | 0, _ => fun _ _ _ _ _ _ _ _ => by kernel_rfl
  | 1, _ => fun _ _ _ _ _ _ _ _ => by kernel_rfl
  | 2, _ => fun _ _ _ _ _ _ _ _ => by kernel_rfl
  | 3, _ => fun _ _ _ _ _ _ _ _ => by kernel_rfl
  | 4, _ => fun _ _ _ _ _ _ _ _ => by kernel_rfl
  | 5, _ => fun _ _ _ _ _ _ _ _ => by kernel_rfl
  | 6, _ => fun _ _ _ _ _ _ _ _ => by kernel_rfl
  | k + 7, h => absurd h (by omega)

theorem fb_0 (k : Int) (n c : Nat) (xs : List Value) (b o : Nat) (g : Nat → Value) (T : Hp) : runV Tryd.prog (look []) 1 (cAt cFb [0]) ((fbS k (slc 27 n c) xs b o).fill g T) 27 33 kFb [0, 1] = some ⟨.normal, [(0, num k), (1, slc 27 n c)], rFb xs, True⟩ := by kernel_rfl
theorem fb_1 : ∀ k : Nat, k ≤ 6 → ∀ (c : Nat) (xs : List Value) (g : Nat → Value) (T : Hp), runV Tryd.prog (look []) 1 (cAt cFb [1, 0]) ((⟨mkT 27 [(0, num k), (1, slc 27 (2 ^ k) c)], mkT 33 (rFb xs), lFb⟩ : TS).fill g T) 27 33 kFb [0, 1] = some ⟨.normal, [(0, num k), (1, slc 27 (2 ^ k) c)], rFb xs, True⟩
  | 0, _ => fun _ _ _ _ => by kernel_rfl
  | 1, _ => fun _ _ _ _ => by kernel_rfl
  | 2, _ => fun _ _ _ _ => by kernel_rfl
  | 3, _ => fun _ _ _ _ => by kernel_rfl
  | 4, _ => fun _ _ _ _ => by kernel_rfl
  | 5, _ => fun _ _ _ _ => by kernel_rfl
  | 6, _ => fun _ _ _ _ => by kernel_rfl
  | k + 7, h => absurd h (by omega)
theorem fb_2 : ∀ k : Nat, k ≤ 6 → ∀ (c : Nat) (xs : List Value) (g : Nat → Value) (T : Hp), runV Tryd.prog (look []) 1 (cAt cFb [1, 1, 0]) ((⟨mkT 27 [(0, num k), (1, slc 27 (2 ^ k) c)], mkT 33 (rFb xs), lFb⟩ : TS).fill g T) 27 33 kFb [0, 1] = some ⟨.normal, [(0, num k), (1, slc 27 (2 ^ k) c)], rFb xs, True⟩
  | 0, _ => fun _ _ _ _ => by kernel_rfl
  | 1, _ => fun _ _ _ _ => by kernel_rfl
  | 2, _ => fun _ _ _ _ => by kernel_rfl
  | 3, _ => fun _ _ _ _ => by kernel_rfl
  | 4, _ => fun _ _ _ _ => by kernel_rfl
  | 5, _ => fun _ _ _ _ => by kernel_rfl
  | 6, _ => fun _ _ _ _ => by kernel_rfl
  | k + 7, h => absurd h (by omega)

noncomputable abbrev fbC1 : Call := match opAt oFb5 1 with
  | some (_, .call c) => c
  | _ => default
theorem fb_op51 : opAt oFb5 1 = some ⟨some 22, .call fbC1⟩ := by kernel_rfl
theorem fb_c51 : fbC1.callee = .value (.func 5) := by kernel_rfl
theorem fb_a51 : fbC1.args = #[.tmp 21] := by kernel_rfl
noncomputable abbrev fbC4 : Call := match opAt oFb5 4 with
  | some (_, .call c) => c
  | _ => default
theorem fb_op54 : opAt oFb5 4 = some ⟨some 25, .call fbC4⟩ := by kernel_rfl
theorem fb_c54 : fbC4.callee = .value (.func 6) := by kernel_rfl
theorem fb_a54 : fbC4.args = #[.tmp 23, .tmp 24] := by kernel_rfl
noncomputable abbrev fbC5 : Call := match opAt oFb5 5 with
  | some (_, .call c) => c
  | _ => default
theorem fb_op55 : opAt oFb5 5 = some ⟨some 26, .call fbC5⟩ := by kernel_rfl
theorem fb_c55 : fbC5.callee = .value (.func 4) := by kernel_rfl
theorem fb_a55 : fbC5.args = #[.tmp 22, .tmp 25] := by kernel_rfl
section
variable (k : Int) (n c c1 : Nat) (xs us : List Value) (g : Nat → Value) (T : Hp)
theorem fb_5 : runLV Tryd.prog (look []) oFb5 (oFb5.toList.take 1) ((⟨mkT 27 [(0, num k), (1, slc 27 n c)], mkT 33 (rFb xs), lFb⟩ : TS).fill g T) 27 33 kFb [21, 0, 1] = some ⟨.normal, [(21, slc 27 n c), (0, num k), (1, slc 27 n c)], rFb xs, True⟩ := by kernel_rfl
theorem fb_6 : runLV Tryd.prog (look []) oFb5 ((oFb5.toList.drop 2).take 2) ((⟨mkT 27 [(22, slc 29 n c1), (0, num k), (1, slc 27 n c)], mkT 33 [(29, true, us), (27, false, xs)], []⟩ : TS).fill g T) 27 33 [(29, 29, false), (27, 27, false)] [23, 24, 22] = some ⟨.normal, [(23, slc 27 n c), (24, num k), (22, slc 29 n c1)], [(29, true, us), (27, false, xs)], True⟩ := by kernel_rfl
theorem fb_7 (b : Bool) : runLV Tryd.prog (look []) oFb5 (oFb5.toList.drop 6) ((⟨mkT 27 [(26, .bool b)], mkT 33 [], []⟩ : TS).fill g T) 27 33 [] [4] = some ⟨.normal, [(4, .bool b)], [], True⟩ := by kernel_rfl
theorem fb_8 (b : Bool) : runV Tryd.prog (look []) 1 (cAt cFb [1, 1, 1, 1]) ((⟨mkT 27 [(4, .bool b)], mkT 33 [], []⟩ : TS).fill g T) 27 33 [] [4] = some ⟨.ret, [(4, .bool b)], [], True⟩ := by kernel_rfl
theorem fb_vres (hp : Hp) : vres Tryd.prog Tryd.f3 ⟨fillT g 0 (mkT 27 [(4, .bool true)]), hp, True, 0⟩ = some (.bool true) := by kernel_rfl
end

/-- Lists of 2^k numbers. -/
theorem fbE_tri {k : Nat} (hk : k ≤ 6) {f : Nat → L4} (hf : ∀ i, (f i).ok) (c b o : Nat) :
    Tri Tryd.prog cFb (fbS k (slc 27 (2 ^ k) c) (flatL (lst k f)) b o) fun e τ' => e = .ret ∧ τ'.tm = mkT 27 [(4, .bool true)] := by
  have ok : EnvOK Tryd.prog (look []) := look_ok [] env_nil
  have fl := flatL_flat (lst k f)
  have fr := flatL_flat (lst k (rvd k f))
  have hul : (lst k f).length = 2 ^ k := lst_length _ _
  have hul' : (lst k (rvd k f)).length = 2 ^ k := lst_length _ _
  obtain ⟨hp0, hp1⟩ := pow_bd hk
  have lk : LocK kFb lFb lFb := locK_cons 28 false (by simp) (by simp) (locK_nil _ _)
  refine tri_next (τ1 := ⟨mkT 27 [(0, num k), (1, slc 27 (2 ^ k) c)], mkT 33 (rFb (flatL (lst k f))), lFb⟩) (by kernel_rfl) (tri_run ok follows (fb_0 _ _ c _ b o) (by decide) trivial (alT_look _ _) (by exact ⟨fl, tab_flat, trivial⟩) lk ⟨rfl, rfl⟩) ?_
  refine tri_next (τ1 := ⟨mkT 27 [(0, num k), (1, slc 27 (2 ^ k) c)], mkT 33 (rFb (flatL (lst k f))), lFb⟩) (by kernel_rfl) (tri_run ok follows (fb_1 k hk c _) (by decide) trivial (alT_look _ _) (by exact ⟨fl, tab_flat, trivial⟩) lk ⟨rfl, rfl⟩) ?_
  refine tri_next (τ1 := ⟨mkT 27 [(0, num k), (1, slc 27 (2 ^ k) c)], mkT 33 (rFb (flatL (lst k f))), lFb⟩) (by kernel_rfl) (tri_run ok follows (fb_2 k hk c _) (by decide) trivial (alT_look _ _) (by exact ⟨fl, tab_flat, trivial⟩) lk ⟨rfl, rfl⟩) ?_
  refine tri_next (τ1 := ⟨mkT 27 [(4, .bool true)], mkT 33 [], []⟩) (by kernel_rfl) ?_ (tri_run ok follows (fb_8 (b := true)) (by decide) trivial (alT_look _ _) trivial (locK_nil _ _) ⟨rfl, rfl⟩)
  refine tri_region' (by kernel_rfl) ?_
  show TriL _ oFb5 oFb5.toList _ _
  rw [← List.take_append_drop 1 oFb5.toList]
  refine tril_run ok (fb_5 _ _ c _) (by decide) trivial (alT_look _ _) (by exact ⟨fl, tab_flat, trivial⟩) lk ?_
  obtain ⟨o1, g1, d1, p1, e1⟩ := ops_drop fb_op51
  rw [e1]
  refine tril_gain (f := 5) (fn := Tryd.f5) (code := cBr) (dst := 22) (m := 33) (d := 22) (h' := 29) (us := lst k (rvd k f)) (vs := [slc 27 (2 ^ k) c]) (live := [(0, num k), (1, slc 27 (2 ^ k) c)]) (ks := [(27, 27, false, false, flatL (lst k f))]) (loc := []) p1 d1 fb_c51
    (fun g => by simp only [wantedS, g1]) (fun x hx => by rw [fb_a51] at hx; simp at hx; subst hx; rfl) (by kernel_rfl) (by kernel_rfl) (by kernel_rfl) (fun g => by rw [fb_a51]; rfl) (lst_ok (rvd_ok hf)) ?_ rfl (by rw [mkT_length]; decide) (fun p hp => by
      simp only [List.mem_cons, List.not_mem_nil, or_false] at hp
      rcases hp with rfl | rfl
      · exact ⟨show (0 : Nat) ≠ 22 by decide, _, fun g => rfl, rfl⟩
      · exact ⟨show (1 : Nat) ≠ 22 by decide, _, fun g => rfl, rfl⟩) (fun k hk => by
      simp only [List.mem_cons, List.not_mem_nil, or_false] at hk
      subst hk
      exact ⟨rfl, fun _ => fl, show (27 : Nat) ≠ 22 by decide⟩) rfl (fun q b o h => by simp at h) ?_
  · intro w0 W g T ρ a w hs hl
    have ht := tabIn_of hs.inv (r := 28) (f := false) rfl (hl 28 0 0 (by simp)).1
    have l0 := listIn_of hs.inv (r := 27) (f := false) (xs := lst k f) (ex := []) (by rw [List.append_nil]; rfl)
    exact br_calls hk hf (c := c) l0 ht
  intro c1 sp1 h1 h2 fs1
  rw [hul'] at h2
  rw [hul']
  have fa : Flat (flatL (lst k (rvd k f)) ++ sp1) := flat_app fr fs1
  rw [ops_part oFb5.toList 2 2 4 rfl]
  refine tril_run ok (fb_6 _ _ c c1 _ _) (by decide) trivial (alT_look _ _) (by exact ⟨fa, fl, trivial⟩) (locK_nil _ _) ?_
  obtain ⟨o2, g2, d2, p2, e2⟩ := ops_drop fb_op54
  rw [e2]
  refine tril_gain (f := 6) (fn := Tryd.f6) (code := cTu) (dst := 25) (m := 33) (d := 25) (h' := 30) (us := lst k (rvd k f)) (vs := [slc 27 (2 ^ k) c, num k]) (live := [(22, slc 29 (2 ^ k) c1)]) (ks := [(29, 29, false, true, flatL (lst k (rvd k f)) ++ sp1)]) (loc := []) p2 d2 fb_c54
    (fun g => by simp only [wantedS, g2]) (fun x hx => by rw [fb_a54] at hx; simp at hx; rcases hx with rfl | rfl <;> rfl) (by kernel_rfl) (by kernel_rfl) (by kernel_rfl) (fun g => by rw [fb_a54]; rfl) (lst_ok (rvd_ok hf)) ?_ rfl (by (repeat rw [mkT_length]); decide) (fun p hp => by
      simp only [List.mem_cons, List.not_mem_nil, or_false] at hp
      subst hp
      exact ⟨show (22 : Nat) ≠ 25 by decide, _, fun g => rfl, rfl⟩) (fun k hk => by
      simp only [List.mem_cons, List.not_mem_nil, or_false] at hk
      subst hk
      exact ⟨rfl, fun _ => fa, show (29 : Nat) ≠ 25 by decide⟩) rfl (fun q b o h => by simp at h) ?_
  · intro w0 W g T ρ a w hs _
    have l0 := listIn_of hs.inv (r := 27) (f := false) (xs := lst k f) (ex := []) (by rw [List.append_nil]; rfl)
    exact tu_calls hk hf (c := c) l0
  intro c2 sp2 k1 k2 fs2
  rw [hul'] at k2
  rw [hul']
  obtain ⟨o3, g3, d3, p3, e3⟩ := ops_drop fb_op55
  rw [e3]
  refine tril_scalar (vs := [slc 29 (2 ^ k) c1, slc 30 (2 ^ k) c2]) (v := .bool true) (dst := 26) (m := 33) (live := []) (ks := []) (loc := []) (fn := Tryd.f4) (code := cSa) p3 d3 fb_c55 (fun g => by simp only [wantedS, g3]) (fun x hx => by
      rw [fb_a55] at hx
      simp at hx
      rcases hx with rfl | rfl <;> rfl) (by kernel_rfl) (by kernel_rfl) (by kernel_rfl) (fun g => by rw [fb_a55]; rfl) ?_ trivial (by (repeat rw [mkT_length]); decide) (fun p hp => by simp at hp) (fun k hk => by simp at hk) rfl (fun q b o h => by simp at h) ?_
  · intro w0 W g T ρ a w hs _
    have l1 := listIn_of hs.inv (r := 29) (f := true) (xs := lst k (rvd k f)) (ex := sp1) rfl
    have l2 := listIn_of hs.inv (r := 30) (f := true) (xs := lst k (rvd k f)) (ex := sp2) rfl
    have := same_calls (lst k (rvd k f)) (lst k (rvd k f)) (lst_ok (rvd_ok hf)) (lst_ok (rvd_ok hf)) rfl c1 c2 (ρ 29).1 ((ρ 29).2 + 0) (ρ 30).1 ((ρ 30).2 + 0) (by rw [hul']; omega) w l1 l2
    rw [sameB_iff.2 (rfl : lst k (rvd k f) = lst k (rvd k f)), hul'] at this
    exact this
  · have := tril_run (rest := []) (K := fun τ' => Xt.normal = .normal ∧ τ' = ⟨mkT 27 [(4, .bool true)], mkT 33 [], []⟩) ok (fb_7 (b := true)) (by decide) trivial (alT_look _ _) trivial (locK_nil _ _) (tril_nil ⟨rfl, rfl⟩)
    rw [List.append_nil] at this
    exact this

theorem lst_of {xs : List L4} {k : Nat} (h : xs.length = 2 ^ k) : lst k (fun i => xs.getD i zero4) = xs := by
  unfold lst
  apply List.ext_getElem?
  intro i
  by_cases hi : i < 2 ^ k
  · rw [List.getElem?_map, List.getElem?_range hi, List.getElem?_eq_getElem (by omega)]
    simp [List.getD, List.getElem?_eq_getElem (show i < xs.length by omega)]
  · rw [List.getElem?_eq_none (by simpa using hi), List.getElem?_eq_none (by omega)]
theorem zero4_ok : zero4.ok := ⟨⟨by decide, by decide⟩, ⟨by decide, by decide⟩, ⟨by decide, by decide⟩, ⟨by decide, by decide⟩⟩
theorem getD_ok {xs : List L4} (h : okL xs) (i : Nat) : (xs.getD i zero4).ok := by
  unfold List.getD
  cases hi : xs[i]? with
  | none => exact zero4_ok
  | some x => exact h x (List.mem_of_getElem? hi)
theorem fb_tri {xs : List L4} (hx : okL xs) (hn : xs.length ≤ 9223372036854775807) (k : Int) {va : Value} (ha : SV 27 va xs.length) (b o : Nat) :
    Tri Tryd.prog cFb (fbS k va (flatL xs) b o) fun e τ' => e = .ret ∧ τ'.tm = mkT 27 [(4, .bool true)] := by
  have ok : ∀ {al ta}, EnvOK Tryd.prog (lookS [] al ta) := lookS_ok env_nil
  have ex : lenI xs.length = xs.length := lenI_eq hn
  have hva : ∃ qa ca, va = .slice qa xs.length ca := by
    rcases ha with ⟨rfl, h⟩ | ⟨c, rfl⟩
    · exact ⟨none, 0, by rw [h]⟩
    · exact ⟨_, c, rfl⟩
  obtain ⟨qa, ca', ea⟩ := hva
  by_cases h1 : 2147483647 < xs.length
  · subst ea
    exact tri_run ok follows (fb_A k qa _ ca' _ b o) (by decide) ⟨⟨trivial, hn⟩, decide_eq_true (by rw [ex]; show (2147483647 : Int) < _; omega)⟩ (alT_nil _ _ _) trivial (locK_nil _ _) ⟨rfl, rfl⟩
  have l1 : decide (lenI xs.length > lim31) = false := decide_eq_false (by rw [ex]; show ¬ (2147483647 : Int) < _; omega)
  by_cases h2 : k < 0
  · subst ea
    exact tri_run ok follows (fb_B k qa _ ca' _ b o) (by decide) ⟨⟨⟨trivial, hn⟩, l1⟩, decide_eq_true h2⟩ (alT_nil _ _ _) trivial (locK_nil _ _) ⟨rfl, rfl⟩
  by_cases h3 : 6 < k
  · subst ea
    exact tri_run ok follows (fb_C k qa _ ca' _ b o) (by decide) ⟨⟨⟨⟨trivial, hn⟩, l1⟩, decide_eq_false h2⟩, decide_eq_true h3⟩ (alT_nil _ _ _) trivial (locK_nil _ _) ⟨rfl, rfl⟩
  obtain ⟨j, rfl⟩ := Int.eq_ofNat_of_zero_le (by omega : 0 ≤ k)
  have hj : j ≤ 6 := by omega
  by_cases h4 : xs.length = 2 ^ j
  · clear ea
    obtain ⟨hp0, hp1⟩ := pow_bd hj
    rcases ha with ⟨_, h⟩ | ⟨c, rfl⟩
    · omega
    have := fbE_tri hj (f := fun i => xs.getD i zero4) (getD_ok hx) c b o
    rw [lst_of h4] at this
    rw [h4]
    exact this
  · subst ea
    exact tri_run ok follows (fb_D j hj qa _ ca' _ b o) (by decide) ⟨⟨⟨⟨trivial, hn⟩, l1⟩, hn⟩, by rw [ex]; exact bne_iff_ne.2 (by omega)⟩ (alT_nil _ _ _) trivial (locK_nil _ _) ⟨rfl, rfl⟩

open Go.ChangeShapes Go.WideShapes Go.ChangeAt Go.RowKit
/-- The law's call, where the table lies as it should. -/
theorem law_fb {xs : List L4} (hx : okL xs) (hn : xs.length ≤ 9223372036854775807) {k : Int} (hk : -9223372036854775808 ≤ k ∧ k ≤ 9223372036854775807) {va : Value} {b o : Nat} (ha : (va = .slice none 0 0 ∧ xs.length = 0) ∨ ∃ c, va = .slice (some ⟨b, o, none⟩) xs.length c)
    {w : World} (h1 : ListIn w b o xs) (ht : TabIn w) :
    Calls Tryd.prog 3 #[num k, va] w fun e w' => e = .returned (.bool true) ∧ Below w.heap.size w w' := by
  have hf : Tryd.prog.funcs[3]? = some Tryd.f3 := by kernel_rfl
  have hb : Tryd.f3.body = some cFb := by kernel_rfl
  have hr0 : rhoA 27 [(b, o, false, flatL xs), (0, 0, false, tabV)] 27 = (b, o) := by simp [rhoA]
  obtain ⟨ua, sa, ea⟩ := sv_mk hr0 ha
  have h0' := start_gen (nt := 27) (vs := [num k, ua]) (rs := [(b, o, false, flatL xs), (0, 0, false, tabV)]) (w := w) (W := fun _ _ => False) (loc := lFb)
    (fun v hv => by
      simp only [List.mem_cons, List.not_mem_nil, or_false] at hv
      rcases hv with rfl | rfl
      · exact hk
      · exact sv_ok sa (hpA_pres (j := 0) (by simp)))
    (fun j c1 d fl cs hj => by
      rcases two_of hj with ⟨he, _⟩ | ⟨he, _⟩ <;> simp only [Prod.mk.injEq] at he <;> obtain ⟨rfl, rfl, rfl, rfl⟩ := he
      · exact ⟨flatL_ok0 hx _, fun i v hi => by rw [flatL_flat _ v (List.mem_of_getElem? hi)]; exact h1 i v hi⟩
      · exact ⟨tab_ok _, fun i v hi => by rw [tab_flat v (List.mem_of_getElem? hi), Nat.zero_add]; exact ht i v hi⟩)
    (fun j c1 d cs hj i hi => by
      rcases two_of hj with ⟨he, _⟩ | ⟨he, _⟩ <;> simp at he)
    (fun j j' b1 o1 b2 o2 f1 f2 c1 c2 hne e1 e2 hff i i' hi hi' => by
      rcases two_of e1 with ⟨h3, k1⟩ | ⟨h3, k1⟩ <;> rcases two_of e2 with ⟨h4, k2⟩ | ⟨h4, k2⟩ <;> simp only [Prod.mk.injEq] at h3 h4 <;> rw [h3.2.2.1, h4.2.2.1] at hff <;> cases hff)
    (fun q c1 d hq => by
      simp only [List.mem_cons, Prod.mk.injEq, List.not_mem_nil, or_false] at hq
      obtain ⟨rfl, rfl, rfl⟩ := hq
      exact ⟨1, _, _, rfl, rfl⟩)
  have ek : ren (rhoA 27 [(b, o, false, flatL xs), (0, 0, false, tabV)]) (num k) = num k := rfl
  simp only [List.map_cons, List.map_nil, ea, ek] at h0'
  refine calls_of_tri hf hb (args := #[num k, va]) h0' (fb_tri hx hn k sa b o) ?_
  rintro e τ' ⟨rfl, htm⟩
  refine ⟨by simp, fun a' w' hs => ?_⟩
  obtain ⟨g, T, ρ, k1, k2, k3, k4⟩ := results_of (P := Tryd.prog) (fn := Tryd.f3) (v := .bool true) (fun g T => by
    show vres _ _ ⟨fillT g 0 τ'.tm, τ'.hp ++ T, True, 0⟩ = _
    rw [htm]; exact fb_vres g _) hs
  exact ⟨_, k4, rfl, k1.inv.fr.below⟩


/-- What the row's list gives: the table's cells. -/
theorem of_laid {W : World} (h : laidMetH Tryd.prog Rows.fnBitReverseRow.laid W) : TabIn W := by
  rw [MakeChecks.laidMetH_plain _ _ _ (by kernel_rfl)] at h
  have hg : Tryd.prog.globalNamed "math/bits.deBruijn64tab" = some 0 := by kernel_rfl
  have ht : Lib.TabIs Tryd.prog W "math/bits.deBruijn64tab" .u8 tabZ :=
    Lib.tabIs_of_head (g := 0) (t := 37) (e := 5) (n := 64) (rest := []) hg (by kernel_rfl) (by kernel_rfl) (by kernel_rfl) (by kernel_rfl) (by kernel_rfl) h
  intro i v hi
  have hl : i < tabZ.length := by
    rcases Nat.lt_or_ge i tabZ.length with h' | h'
    · exact h'
    · rw [List.getElem?_eq_none (by simpa [tabV] using h')] at hi; cases hi
  have := ht.cell hg i hl
  rw [this]
  simp only [tabV, List.getElem?_map, List.getElem?_eq_getElem hl, Option.map_some, Option.some.injEq] at hi
  rw [← hi]
  simp [List.getD, List.getElem?_eq_getElem hl]

theorem door_met (os : Os) (args : Array Value) : laidMetH Tryd.prog Rows.fnBitReverseRow.laid ((World.doorLaid Tryd.prog 400 os).forCall (fun _ _ => 0) ⟨#[], args, []⟩).memory :=
  laidMetH_of_parts3 (fuel := 8) (laidMet_of_run' 8 (by kernel_rfl) (by kernel_rfl)) (by kernel_rfl) (by kernel_rfl)

theorem Fb_und : Tryd.prog.underlying 22 = some (.slice 28) := by kernel_rfl
set_option maxRecDepth 100000 in
theorem fnBitReverse_lifted (os : Os) (started : os.Started) (H : Type) (enc : TypeId × Value → H) :
    ReturnsInHanded {} Tryd.checked os 3 .any
      (fun w args => (Rows.fnBitReverseSpec.pre enc Tryd.prog Tryd.f3 [] false w args ∧ laidMetH Tryd.prog Rows.fnBitReverseRow.laid w) ∧ sizedMet enc Tryd.prog Tryd.f3 (OpenSpec.ofChange Rows.fnBitReverseSpec) false w args)
      (Rows.fnBitReverseSpec.post enc Tryd.prog Tryd.f3 false true false false) := by
  refine returnsInHanded_of_change_and (C := Tryd.checked) (X := fun w _ => laidMetH Tryd.prog Rows.fnBitReverseRow.laid w) (fun _ _ _ hh h => h.of_heap hh) Tryd.own started (by kernel_rfl) Tryd.func3
    (ChangeSpec.witness_shaped (enc := enc) (C := Tryd.checked) (os := os) (X := fun w _ => laidMetH Tryd.prog Rows.fnBitReverseRow.laid w) false (World.doorLaid Tryd.prog 400 os) #[.int .i64 0, .slice none 0 0] 8 rfl (World.shaped_of_RefB (by kernel_rfl) (by kernel_rfl)) (by kernel_rfl) (by kernel_rfl) (by kernel_rfl) (door_met os _)) ?_
  intro W base args ds gs before hval0 hW _ _ hL _
  have hval : ∀ (j : Nat) t v, Tryd.f3.params[j]? = some t → args[j]? = some v → Value.okWide Tryd.prog W .any base t v := hval0
  have hW' := hW
  obtain ⟨p, q, hA0, hV, rfl, hfz, hnd⟩ := hW
  have hA : DataW.TrodAll enc Tryd.prog W 0 (fun _ => true) true Tryd.f3.params.toList args.toList ds p := hA0
  rw [Tryd.params3] at hA hval
  obtain ⟨v0, v1, d0, d1, p0, p1, rfl, rfl, rfl, h0, h1⟩ := trodAll_two hA
  obtain ⟨rfl, rfl⟩ := trodVars_none hV
  have Fb_int : Tryd.prog.underlying 3 = some (.int .i64) := by kernel_rfl
  obtain ⟨k, rfl, rfl, rfl, hk⟩ := open_int Fb_int (hval 0 3 v0 rfl rfl) h0
  obtain ⟨xs, b, o, ox, nx, lx, ex⟩ := open_list (u := 27) Fb_und (by kernel_rfl) (by kernel_rfl) (by kernel_rfl) (by kernel_rfl) (hval 1 22 v1 rfl rfl) h1
  clear hA0 hval0
  simp only [List.append_nil, List.nil_append] at hW'
  have hlt : ∀ z ∈ p1, z.block < W.heap.size := fun z hz => by simpa using hW'.lt z hz
  refine (law_fb ox nx (bounds_i64 hk) ex lx (of_laid hL)).mono fun e W' ⟨he, hb⟩ => ?_
  refine ⟨_, he, _, _, _, [], p1, [], hW', shut_true (by kernel_rfl), ?_, rfl, hb.frame _, fun h => by cases h⟩
  exact trodAll_mk2 (p := []) (Below.trod Tryd.laidOut (by kernel_rfl) (of_decide_eq_true (by kernel_rfl)) h0 hb fun z hz => by cases hz)
    (Below.trod Tryd.laidOut (by kernel_rfl) (of_decide_eq_true (by kernel_rfl)) h1 hb hlt)

/-- **FnBitReverse holds whatever the input.** -/
theorem fnBitReverse_row : Rows.FnBitReverseSaid :=
  OpenClaim.holds_of_wide 3 Tryd.f3 rfl rfl rfl rfl rfl rfl rfl ⟨rfl, rfl, rfl, rfl, rfl⟩ rfl rfl rfl rfl rfl (by kernel_rfl) Tryd.func3 (by kernel_rfl)
    (of_decide_eq_true (by kernel_rfl)) (by unfold Func.isWrapper; rw [if_neg (of_decide_eq_false (by kernel_rfl))]; exact ⟨rfl, rfl⟩)
    (fun os started H enc _ => fnBitReverse_lifted os started H enc)

/-- **The tied card of FnBitReverse.** -/
theorem fnBitReverse_holds : Rows.FnBitReverseCardSaid :=
  Claim7.holds_tied_plain_at .later [] [.data] true (true, "ebbdcc34ab3116264bd5c92b2935dea7bccc0f7ff3ac984a4d4803dde7085e05") false
    fnBitReverse_row (fun _ h => by cases h) (by kernel_rfl) (fun _ h => by cases h) fnBitReverse_row_tie rfl ⟨rfl, rfl⟩ (by kernel_rfl) rfl
    (fun f fn hf hfn => by
      obtain rfl : f = 3 := Option.some.inj ((show Tryd.prog.funcNamed "loop.example/pub-g03343/laws.FnBitReverse" = some 3 by kernel_rfl).symm.trans hf) |>.symm
      obtain rfl : fn = Tryd.f3 := (Option.some.inj (Tryd.func3.symm.trans hfn)).symm
      exact ⟨by kernel_rfl, fun j t ht => by
        rw [Tryd.params3] at ht
        have hm : t ∈ [3, 22] := by simpa using Array.mem_of_getElem? ht
        have hall : ([3, 22].all fun u => !Tryd.prog.wantsStandIn u) = true := by kernel_rfl
        exact (show Tryd.prog.wantsStandIn t = false by simpa using List.all_eq_true.1 hall t hm)⟩)
    (by kernel_rfl)
#print axioms fnBitReverse_holds
end Go.Proofs.YtbbifiogcpcpfaaDoor
