/-
  fft.ZZBitReverse, spec.Turned, impl.BitReverse: what a call of each leaves.
-/
import Derived.Test.YtbbifiogcpcpfaaDoorBrTu
import Derived.Test.YtbbifiogcpcpfaaDoorListGen
namespace Go.Proofs.YtbbifiogcpcpfaaDoor
open Vm

theorem alT_look (l : List (Nat × Sm)) (τ : TS) : AlT (look l) τ := fun r s q h => by simp [look] at h
theorem lst_length (k : Nat) (f : Nat → L4) : (lst k f).length = 2 ^ k := by simp [lst]
theorem lst_ok {k : Nat} {f : Nat → L4} (h : ∀ i, (f i).ok) : okL (lst k f) := fun x hx => by
  obtain ⟨i, _, rfl⟩ := List.mem_map.1 hx
  exact h i
theorem rvd_ok {k : Nat} {f : Nat → L4} (h : ∀ i, (f i).ok) (i : Nat) : (rvd k f i).ok := h _
theorem pow_bd {k : Nat} (hk : k ≤ 6) : 0 < 2 ^ k ∧ 2 ^ k ≤ 64 := by
  refine ⟨Nat.pow_pos (by decide), ?_⟩
  exact Nat.pow_le_pow_right (by decide) hk
theorem two_of {α : Type} {a b : α} {j : Nat} {x : α} (h : [a, b][j]? = some x) : x = a ∧ j = 0 ∨ x = b ∧ j = 1 := by
  cases j with
  | zero => simp only [List.getElem?_cons_zero, Option.some.injEq] at h; exact .inl ⟨h.symm, rfl⟩
  | succ j => cases j with
    | zero => simp only [List.getElem?_cons_succ, List.getElem?_cons_zero, Option.some.injEq] at h; exact .inr ⟨h.symm, rfl⟩
    | succ j => simp at h
/-- The table, as a region tells it. -/
theorem tabIn_of {w0 w : World} {W : Nat → Nat → Prop} {ρ : Emb} {hp : Hp} {r : Nat} {f : Bool} (h : Inv w0 W ρ hp w) (hr : hp[r]? = some (some (f, tabV))) (hl : ρ r = (0, 0)) : TabIn w := fun i v hi => by
  have := h.cell r f tabV hr i v hi
  rw [hl, tab_flat v (List.mem_of_getElem? hi)] at this
  simpa using this

theorem ren_unit (ρ : Emb) : ren ρ (.tuple #[]) = .tuple #[] := by simp [ren]

/-! ### ZZBitReverse -/
theorem zz_tri {k : Nat} (hk : k ≤ 6) (f : Nat → L4) (c b o : Nat) :
    Tri Tryd.prog cZ (zzS (flatL (lst k f)) (2 ^ k) c b o) fun e τ' => e = .normal ∧ τ' = ⟨mkT 39 [], mkT 41 (rZ (flatL (lst k (rvd k f)))), lZ b o⟩ := by
  have ok : EnvOK Tryd.prog (look []) := look_ok [] env_nil
  have fl := flatL_flat (lst k f)
  have lk : LocK kZ (lZ b o) (lZ b o) := locK_cons 39 false (by simp) (by simp) (locK_cons 40 false (by simp) (by simp) (locK_nil _ _))
  refine tri_next (τ1 := ⟨mkT 39 [(0, slc 39 (2 ^ k) c), (2, u64v (2 ^ k : Nat))], mkT 41 (rZ (flatL (lst k f))), lZ b o⟩) (by kernel_rfl) (tri_run ok follows (zz_0 k hk _ c b o) (by decide) trivial (alT_look _ _) (by exact ⟨fl, tab_flat, trivial⟩) lk ⟨rfl, rfl⟩) ?_
  refine tri_next (τ1 := ⟨mkT 39 [(3, u64v ((64 - k : Nat) : Int)), (0, slc 39 (2 ^ k) c), (2, u64v (2 ^ k : Nat))], mkT 41 (rZ (flatL (lst k f))), lZ b o⟩) (by kernel_rfl) ?_ ?_
  · refine tri_region' (by kernel_rfl) ?_
    show TriL _ oZ1 oZ1.toList _ _
    rw [← List.take_append_drop 1 oZ1.toList]
    refine tril_run ok (zz_1 _ _ _ c b o) (by decide) trivial (alT_look _ _) (by exact ⟨fl, tab_flat, trivial⟩) lk ?_
    obtain ⟨o1, g1, d1, p1, e1⟩ := ops_drop zz_op11
    rw [e1]
    refine tril_scalar (vs := [u64v (2 ^ k : Nat)]) (v := num k) (dst := 10) (m := 41) (live := [(0, slc 39 (2 ^ k) c), (2, u64v (2 ^ k : Nat))]) (ks := [(39, 39, false, true, flatL (lst k f)), (40, 40, false, false, tabV)]) (loc := lZ b o)
      (fn := Tryd.f11) (code := bodyOf Tryd.f11) p1 d1 rfl (fun g => by simp only [wantedS, g1]) (fun x hx => by simp at hx; subst hx; rfl) (by kernel_rfl) (by kernel_rfl) (by kernel_rfl) (fun g => rfl) ?_
      ⟨by show (-9223372036854775808 : Int) ≤ _; omega, by show _ ≤ (9223372036854775807 : Int); omega⟩ (by rw [mkT_length]; decide) (fun p hp => by
        simp only [List.mem_cons, List.not_mem_nil, or_false] at hp
        rcases hp with rfl | rfl
        · exact ⟨show (0 : Nat) ≠ 10 by decide, _, fun g => rfl, rfl⟩
        · exact ⟨show (2 : Nat) ≠ 10 by decide, _, fun g => rfl, rfl⟩) (fun k hk => by
        simp only [List.mem_cons, List.not_mem_nil, or_false] at hk
        rcases hk with rfl | rfl
        · exact ⟨rfl, fun _ => fl⟩
        · exact ⟨rfl, fun _ => tab_flat⟩) rfl (fun q b' o' h => by
        simp only [List.mem_cons, Prod.mk.injEq, List.not_mem_nil, or_false] at h
        rcases h with ⟨rfl, rfl, rfl⟩ | ⟨rfl, rfl, rfl⟩
        · exact ⟨39, false, by simp [keepOf], by simp⟩
        · exact ⟨40, false, by simp [keepOf], by simp⟩) ?_
    · intro w0 W g T ρ a w hs hl
      have ht := tabIn_of hs.inv (r := 40) (f := false) rfl (hl 40 _ _ (by simp)).1
      exact (tz_pow w ht k hk).mono fun e w' ⟨h1, h2⟩ => ⟨h1, by rw [h2]; exact Fr.refl _ _⟩
    have := tril_run (rest := []) (loc := lZ b o) (K := fun τ' => Xt.normal = .normal ∧ τ' = ⟨mkT 39 [(3, u64v ((64 - k : Nat) : Int)), (0, slc 39 (2 ^ k) c), (2, u64v (2 ^ k : Nat))], mkT 41 (rZ (flatL (lst k f))), lZ b o⟩) ok (zz_1' k hk (flatL (lst k f)) (2 ^ k : Nat) (2 ^ k) c b o) (by decide) trivial (alT_look _ _) (by exact ⟨fl, tab_flat, trivial⟩) lk (tril_nil ⟨rfl, rfl⟩)
    rw [List.append_nil] at this
    exact this
  exact tri_run (look_ok (eZ (rev64 revB)) (env_V ac_rev64 env_nil)) follows (zz_2 k hk f c b o) (by decide) trivial (alT_look _ _) (by exact ⟨flatL_flat _, tab_flat, trivial⟩) lk ⟨rfl, rfl⟩

theorem zz_calls {k : Nat} (hk : k ≤ 6) {f : Nat → L4} (hf : ∀ i, (f i).ok) {w : World} {c b o : Nat} (h0 : ListIn w b o (lst k f)) (ht : TabIn w) (hfz : ∀ i, i < (flatL (lst k f)).length → w.frozen? ⟨b, o + i, none⟩ = false)
    (d1 : ∀ i j, i < (flatL (lst k f)).length → j < tabV.length → b ≠ 0 ∨ o + i ≠ 0 + j) :
    Calls Tryd.prog 8 #[.slice (some ⟨b, o, none⟩) (2 ^ k) c] w (WroteR (.tuple #[]) b o (lst k (rvd k f)) w) := by
  have hfn : Tryd.prog.funcs[8]? = some Tryd.f8 := by kernel_rfl
  have hb : Tryd.f8.body = some cZ := by kernel_rfl
  have hul : (flatL (lst k (rvd k f))).length = (flatL (lst k f)).length := by rw [flatL_length, flatL_length, lst_length, lst_length]
  have h0' := start_gen (nt := 39) (vs := [slc 39 (2 ^ k) c]) (rs := [(b, o, true, flatL (lst k f)), (0, 0, false, tabV)]) (w := w) (W := fun q j => q = b ∧ ∃ i, i < (flatL (lst k (rvd k f))).length ∧ j = o + i) (loc := lZ b o)
    (fun v hv => by
      simp only [List.mem_cons, List.not_mem_nil, or_false] at hv
      subst hv
      exact ⟨rfl, hpA_pres (j := 0) (by simp)⟩)
    (fun j c1 d fl cs hj => by
      rcases two_of hj with ⟨he, _⟩ | ⟨he, _⟩ <;> simp only [Prod.mk.injEq] at he <;> obtain ⟨rfl, rfl, rfl, rfl⟩ := he
      · exact ⟨flatL_ok0 (lst_ok hf) _, fun i v hi => by rw [flatL_flat _ v (List.mem_of_getElem? hi)]; exact h0 i v hi⟩
      · exact ⟨tab_ok _, fun i v hi => by rw [tab_flat v (List.mem_of_getElem? hi), Nat.zero_add]; exact ht i v hi⟩)
    (fun j c1 d cs hj i hi => by
      rcases two_of hj with ⟨he, _⟩ | ⟨he, _⟩ <;> simp only [Prod.mk.injEq, Bool.true_eq_false, false_and, and_false] at he
      obtain ⟨rfl, rfl, _, rfl⟩ := he
      exact ⟨hfz i hi, rfl, i, by rw [hul]; exact hi, rfl⟩)
    (fun j j' b1 o1 b2 o2 f1 f2 c1 c2 hne e1 e2 hff i i' hi hi' => by
      rcases two_of e1 with ⟨h3, k1⟩ | ⟨h3, k1⟩ <;> rcases two_of e2 with ⟨h4, k2⟩ | ⟨h4, k2⟩ <;> simp only [Prod.mk.injEq] at h3 h4 <;> obtain ⟨rfl, rfl, rfl, rfl⟩ := h3 <;> obtain ⟨rfl, rfl, rfl, rfl⟩ := h4 <;> first | (exact absurd hff (by decide)) | (exact absurd (k1.trans k2.symm) hne) | skip
      · exact d1 i i' hi hi'
      · rcases d1 i' i hi' hi with h | h
        · exact .inl (Ne.symm h)
        · exact .inr (Ne.symm h))
    (fun q c1 d hq => by
      simp only [List.mem_cons, Prod.mk.injEq, List.not_mem_nil, or_false] at hq
      rcases hq with ⟨rfl, rfl, rfl⟩ | ⟨rfl, rfl, rfl⟩
      · exact ⟨0, _, _, rfl, rfl⟩
      · exact ⟨1, _, _, rfl, rfl⟩)
  refine calls_of_tri hfn hb (args := #[.slice (some ⟨b, o, none⟩) (2 ^ k) c]) h0' (zz_tri hk f c b o) ?_
  rintro e τ' ⟨rfl, rfl⟩
  refine ⟨by simp, fun a' w' hs => ?_⟩
  obtain ⟨g, T, ρ, k1, k2, k3, k4⟩ := results_of (P := Tryd.prog) (fn := Tryd.f8) (v := .tuple #[]) (fun g T => zz_vres _ b o g T) hs
  have r39 := (k2 39 b o (by simp)).1
  refine ⟨_, k4, by rw [ren_unit], k1.inv.fr, fun i v hi => ?_⟩
  have := k1.inv.cell 39 true (flatL (lst k (rvd k f))) rfl i v hi
  rw [r39, flatL_flat _ v (List.mem_of_getElem? hi)] at this
  exact this

/-! ### Turned -/
theorem tu_tri {k : Nat} (hk : k ≤ 6) (f : Nat → L4) (c b o : Nat) :
    Tri Tryd.prog cTu (tuS k (flatL (lst k f)) c b o) fun e τ' => e = .ret ∧ τ' = ⟨mkT 26 [(4, slc 27 (2 ^ k) (2 ^ k))], mkT 28 [(27, true, flatL (lst k (rvd k f)))], []⟩ := by
  have ok : EnvOK Tryd.prog (look []) := look_ok [] env_nil
  have fl := flatL_flat (lst k f)
  refine tri_next (τ1 := ⟨mkT 26 [(0, slc 26 (2 ^ k) c), (1, num k)], mkT 28 [(26, false, flatL (lst k f))], []⟩) (by kernel_rfl) (tri_run ok follows (tu_0 k hk _ c b o) (by decide) trivial (alT_look _ _) (by exact ⟨fl, trivial⟩) (locK_nil _ _) ⟨rfl, rfl⟩) ?_
  refine tri_next (τ1 := ⟨mkT 26 [(0, slc 26 (2 ^ k) c), (1, num k), (5, slc 27 (2 ^ k) (2 ^ k))], mkT 28 [(26, false, flatL (lst k f)), (27, true, flatL (lst k fun _ => zero4))], []⟩) (by kernel_rfl) (tri_run ok follows (tu_1 k hk _ c) (by decide) trivial (alT_look _ _) (by exact ⟨fl, flatL_flat _, trivial⟩) (locK_nil _ _) ⟨rfl, rfl⟩) ?_
  exact tri_run (look_ok [eV 10 [.V, .V] (rRev k)] (env_V (ac_Rev k hk) env_nil)) follows (tu_2 k hk f c) (by decide) trivial (alT_look _ _) (by exact ⟨flatL_flat _, trivial⟩) (locK_nil _ _) ⟨rfl, rfl⟩
theorem tu_calls {k : Nat} (hk : k ≤ 6) {f : Nat → L4} (hf : ∀ i, (f i).ok) {w : World} {c b o : Nat} (h0 : ListIn w b o (lst k f)) :
    Calls Tryd.prog 6 #[.slice (some ⟨b, o, none⟩) (2 ^ k) c, num k] w (MadeR (lst k (rvd k f)) w) := by
  have hfn : Tryd.prog.funcs[6]? = some Tryd.f6 := by kernel_rfl
  have hb : Tryd.f6.body = some cTu := by kernel_rfl
  have h0' := start_gen (nt := 26) (vs := [slc 26 (2 ^ k) c, num k]) (rs := [(b, o, false, flatL (lst k f))]) (w := w) (W := fun _ _ => False) (loc := [])
    (fun v hv => by
      simp only [List.mem_cons, List.not_mem_nil, or_false] at hv
      rcases hv with rfl | rfl
      · exact ⟨rfl, hpA_pres (j := 0) (by simp)⟩
      · exact ⟨by show (-9223372036854775808 : Int) ≤ _; omega, by show _ ≤ (9223372036854775807 : Int); omega⟩)
    (fun j c1 d fl cs hj => by
      cases j with
      | succ j => simp at hj
      | zero =>
        simp only [List.getElem?_cons_zero, Option.some.injEq, Prod.mk.injEq] at hj
        obtain ⟨rfl, rfl, rfl, rfl⟩ := hj
        exact ⟨flatL_ok0 (lst_ok hf) _, fun i v hi => by rw [flatL_flat _ v (List.mem_of_getElem? hi)]; exact h0 i v hi⟩)
    (fun j c1 d cs hj => by
      cases j with
      | succ j => simp at hj
      | zero => simp at hj)
    (fun j j' b1 o1 b2 o2 f1 f2 c1 c2 hne h1 h2 => by
      cases j <;> cases j' <;> simp at h1 h2
      exact absurd rfl hne)
    (fun q c1 d hq => by simp at hq)
  have hul : (lst k (rvd k f)).length = 2 ^ k := lst_length _ _
  refine calls_of_tri hfn hb (args := #[.slice (some ⟨b, o, none⟩) (2 ^ k) c, num k]) h0' (tu_tri hk f c b o) ?_
  rintro e τ' ⟨rfl, rfl⟩
  refine ⟨by simp, fun a' w' hs => ?_⟩
  refine madeR_of (fn := Tryd.f6) (us := lst k (rvd k f)) (sp := []) (nt := 26) (m := 28) (h := 27) (k := 2 ^ k) (sl := [(4, slc 27 (2 ^ k) (2 ^ k))]) (rg := []) (loc := []) (by rw [hul]; exact (pow_bd hk).1) (fun g T => by rw [hul, List.append_nil]; exact tu_vres k hk _ g T) (fun T => rfl) (by rw [List.append_nil, flatL_length, hul]; omega) (by rw [hul]; exact Nat.le_refl _) (fun v hv => by simp at hv) ?_
  rw [List.append_nil]
  exact hs

/-! ### BitReverse -/
theorem br_tri {k : Nat} (hk : k ≤ 6) {f : Nat → L4} (hf : ∀ i, (f i).ok) (c b o : Nat) :
    Tri Tryd.prog cBr (brS (flatL (lst k f)) (2 ^ k) c b o) fun e τ' => e = .ret ∧ ∃ c' sp, (flatL (lst k (rvd k f)) ++ sp).length = c' * 4 ∧ 2 ^ k ≤ c' ∧ Flat sp ∧ τ' = ⟨mkT 22 [(2, slc 25 (2 ^ k) c')], mkT 27 [(25, true, flatL (lst k (rvd k f)) ++ sp)], []⟩ := by
  have ok : EnvOK Tryd.prog (look []) := look_ok [] env_nil
  have okS : EnvOK Tryd.prog (lookS [] [] []) := lookS_ok env_nil
  have fl := flatL_flat (lst k f)
  obtain ⟨hp0, hp1⟩ := pow_bd hk
  have hul : (lst k f).length = 2 ^ k := lst_length _ _
  have hul' : (lst k (rvd k f)).length = 2 ^ k := lst_length _ _
  have lk : LocK kBr lBr lBr := locK_cons 23 false (by simp) (by simp) (locK_nil _ _)
  have lk' : LocK [(24, 24, false), (23, 23, false)] lBr lBr := locK_cons 23 false (by simp) (by simp) (locK_nil _ _)
  refine tri_next (τ1 := ⟨mkT 22 [(0, slc 22 (2 ^ k) c)], mkT 27 (rBr (flatL (lst k f))), lBr⟩) (by kernel_rfl) (tri_run okS follows (br_0 _ _ c b o) (by decide) trivial (alT_nil _ _ _) (by exact ⟨fl, tab_flat, trivial⟩) lk ⟨rfl, rfl⟩) ?_
  refine tri_next (τ1 := ⟨mkT 22 [(0, slc 22 (2 ^ k) c)], mkT 27 (rBr (flatL (lst k f))), lBr⟩) (by kernel_rfl) (tri_run ok follows (br_1 k hk _ c) (by decide) trivial (alT_look _ _) (by exact ⟨fl, tab_flat, trivial⟩) lk ⟨rfl, rfl⟩) ?_
  refine tri_seq' (K1 := fun e τ' => e = .normal ∧ ∃ c' sp, Flat sp ∧ τ' = ⟨mkT 22 [(3, slc 24 (2 ^ k) c')], mkT 27 [(24, true, flatL (lst k f) ++ sp), (23, false, tabV)], lBr⟩) (by kernel_rfl) ?_ ?_ (fun _ _ he h => absurd h.1 he)
  · refine tri_region' (by kernel_rfl) ?_
    show TriL _ oBr3 oBr3.toList _ _
    rw [← List.take_append_drop 1 oBr3.toList]
    refine tril_run okS (br_2 _ _ c) (by decide) trivial (alT_nil _ _ _) (by exact ⟨fl, tab_flat, trivial⟩) lk ?_
    obtain ⟨o1, g1, d1, p1, e1⟩ := ops_drop br_op31
    rw [e1]
    refine tril_made (f := 7) (fn := Tryd.f7) (code := cmL) (dst := 17) (m := 27) (r := 22) (cap := c) (d := 17) (h' := 24) (fl := false) (xs := lst k f) (ex := []) (live := [])
      (ks := [(23, 23, false, false, tabV)]) (loc := lBr) p1 d1
      (fun g => by simp only [wantedS, g1]) rfl (by kernel_rfl) (by kernel_rfl) (by kernel_rfl) (fun g => by rw [hul]; rfl) (by rw [List.append_nil]; rfl) (lst_ok hf) (mL_calls (lst_ok hf) (by rw [hul]; exact hp0) (by rw [hul]; omega)) rfl (by rw [mkT_length]; decide) (fun p hp => by simp at hp) (fun k hk => by
        simp only [List.mem_cons, List.not_mem_nil, or_false] at hk
        subst hk
        exact ⟨rfl, fun _ => tab_flat, show (23 : Nat) ≠ 17 by decide⟩) rfl (fun q b' o' h => by
        simp only [List.mem_cons, Prod.mk.injEq, List.not_mem_nil, or_false] at h
        obtain ⟨rfl, rfl, rfl⟩ := h
        exact ⟨23, false, by simp [keepOf], by simp⟩) ?_
    intro c' sp h1 h2 fs
    rw [hul]
    have fa : Flat (flatL (lst k f) ++ sp) := flat_app fl fs
    have := tril_run (rest := []) (loc := lBr) (K := fun τ' => Xt.normal = .normal ∧ ∃ c' sp, Flat sp ∧ τ' = ⟨mkT 22 [(3, slc 24 (2 ^ k) c')], mkT 27 [(24, true, flatL (lst k f) ++ sp), (23, false, tabV)], lBr⟩) okS (br_3 (flatL (lst k f) ++ sp) (2 ^ k) c') (by decide) trivial (alT_nil _ _ _) (by exact ⟨fa, tab_flat, trivial⟩) lk' (tril_nil ⟨rfl, c', sp, fs, rfl⟩)
    rw [List.append_nil] at this
    exact this
  rintro τ1 ⟨_, c', sp, fs, rfl⟩
  have fa : Flat (flatL (lst k f) ++ sp) := flat_app fl fs
  have fr := flatL_flat (lst k (rvd k f))
  have fb : Flat (flatL (lst k (rvd k f)) ++ sp) := flat_app fr fs
  have hlen : (flatL (lst k (rvd k f))).length = (flatL (lst k f)).length := by rw [flatL_length, flatL_length, hul, hul']
  refine tri_next (τ1 := ⟨mkT 22 [(3, slc 24 (2 ^ k) c')], mkT 27 [(24, true, flatL (lst k (rvd k f)) ++ sp)], []⟩) (by kernel_rfl) ?_ ?_
  · refine tri_region' (by kernel_rfl) ?_
    show TriL _ oBr4 oBr4.toList _ _
    rw [← List.take_append_drop 1 oBr4.toList]
    refine tril_run okS (br_4 _ _ c') (by decide) trivial (alT_nil _ _ _) (by exact ⟨fa, tab_flat, trivial⟩) lk' ?_
    obtain ⟨o1, g1, d1, p1, e1⟩ := ops_drop br_op41
    rw [e1]
    have hdrop : (flatL (lst k f) ++ sp).drop (flatL (lst k (rvd k f))).length = sp := by rw [hlen, List.drop_left]
    refine tril_step (m := 27) (dst := 19) (v' := .tuple #[]) (live := [(3, slc 24 (2 ^ k) c')]) (ks := [(24, 24, false, true, flatL (lst k (rvd k f)) ++ sp)]) (loc := [])
      (steps_wcall (vs := [slc 24 (2 ^ k) c']) (v := .tuple #[]) (r := 24) (cs := flatL (lst k f) ++ sp) (new := flatL (lst k (rvd k f))) (fn := Tryd.f8) (code := cZ) p1 br_c41
        (fun x hx => by rw [br_a41] at hx; simp at hx; subst hx; rfl) (by kernel_rfl) (by kernel_rfl) (by kernel_rfl) (fun g => by rw [br_a41]; rfl) rfl (by rw [hlen, List.length_append]; omega) fr (fun u hu => flatL_ok0 (lst_ok (rvd_ok hf)) _ u hu) (fun T u hu => by simp at hu) ?_
        (fun k hk => by
          simp only [List.mem_cons, List.not_mem_nil, or_false] at hk
          subst hk
          exact .inl ⟨rfl, by rw [hdrop]⟩)) d1 (fun g => by simp only [wantedS, g1]) (by (repeat rw [mkT_length]); decide) (ren_unit _) (fun p hp => by
        simp only [List.mem_cons, List.not_mem_nil, or_false] at hp
        subst hp
        exact ⟨show (3 : Nat) ≠ 19 by decide, _, fun g => rfl, rfl⟩) (fun k hk => by
        simp only [List.mem_cons, List.not_mem_nil, or_false] at hk
        subst hk
        exact fun _ => fb) rfl (fun q b o h => by simp at h) ?_
    · intro w0 W g T ρ a w hs hl
      have ht := tabIn_of hs.inv (r := 23) (f := false) rfl (hl 23 0 0 (by simp)).1
      have l0 := listIn_of hs.inv (r := 24) (f := true) (xs := lst k f) (ex := sp) rfl
      have r23 := (hl 23 0 0 (by simp)).1
      rw [ren_unit]
      exact zz_calls hk hf (c := c') l0 ht (fun i hi => (hs.inv.own 24 (flatL (lst k f) ++ sp) rfl i (by rw [List.length_append]; omega)).1)
        (fun i j hi hj => by
          have := hs.inv.dis 24 23 true (flatL (lst k f) ++ sp) false tabV (by decide) rfl rfl rfl i j (by rw [List.length_append]; omega) hj
          rw [r23] at this
          exact this)
    have := tril_run (rest := []) (K := fun τ' => Xt.normal = .normal ∧ τ' = ⟨mkT 22 [(3, slc 24 (2 ^ k) c')], mkT 27 [(24, true, flatL (lst k (rvd k f)) ++ sp)], []⟩) okS (br_4' (flatL (lst k (rvd k f)) ++ sp) (2 ^ k) c') (by decide) trivial (alT_nil _ _ _) (by exact ⟨fb, trivial⟩) (locK_nil _ _) (tril_nil ⟨rfl, rfl⟩)
    rw [List.append_nil] at this
    exact this
  refine tri_seq' (K1 := fun e τ' => e = .normal ∧ ∃ c' sp, (flatL (lst k (rvd k f)) ++ sp).length = c' * 4 ∧ 2 ^ k ≤ c' ∧ Flat sp ∧ τ' = ⟨mkT 22 [(2, slc 25 (2 ^ k) c')], mkT 27 [(25, true, flatL (lst k (rvd k f)) ++ sp)], []⟩) (by kernel_rfl) ?_ ?_ (fun _ _ he h => absurd h.1 he)
  · refine tri_region' (by kernel_rfl) ?_
    show TriL _ oBr5 oBr5.toList _ _
    rw [← List.take_append_drop 1 oBr5.toList]
    refine tril_run okS (br_5 _ _ c') (by decide) trivial (alT_nil _ _ _) (by exact ⟨fb, trivial⟩) (locK_nil _ _) ?_
    obtain ⟨o1, g1, d1, p1, e1⟩ := ops_drop br_op51
    rw [e1]
    refine tril_gain (f := 9) (fn := Tryd.f9) (code := ctL) (dst := 21) (m := 27) (d := 21) (h' := 25) (us := lst k (rvd k f)) (vs := [slc 24 (2 ^ k) c']) (live := []) (ks := []) (loc := []) p1 d1 br_c51
      (fun g => by simp only [wantedS, g1]) (fun x hx => by rw [br_a51] at hx; simp at hx; subst hx; rfl) (by kernel_rfl) (by kernel_rfl) (by kernel_rfl) (fun g => by rw [br_a51]; rfl) (lst_ok (rvd_ok hf)) ?_ rfl (by rw [mkT_length]; decide) (fun p hp => by simp at hp) (fun k hk => by simp at hk) rfl (fun q b o h => by simp at h) ?_
    · intro w0 W g T ρ a w hs _
      have l0 := listIn_of hs.inv (r := 24) (f := true) (xs := lst k (rvd k f)) (ex := sp) rfl
      have := tL_calls (lst_ok (rvd_ok hf)) (by rw [hul']; exact hp0) (by rw [hul']; omega) c' (ρ 24).1 (ρ 24).2 w l0
      rw [hul'] at this
      exact this
    · intro c2 sp2 h1 h2 fs2
      rw [hul'] at h2
      rw [hul']
      have fc : Flat (flatL (lst k (rvd k f)) ++ sp2) := flat_app fr fs2
      have := tril_run (rest := []) (K := fun τ' => Xt.normal = .normal ∧ ∃ c' sp, (flatL (lst k (rvd k f)) ++ sp).length = c' * 4 ∧ 2 ^ k ≤ c' ∧ Flat sp ∧ τ' = ⟨mkT 22 [(2, slc 25 (2 ^ k) c')], mkT 27 [(25, true, flatL (lst k (rvd k f)) ++ sp)], []⟩) okS (br_6 (flatL (lst k (rvd k f)) ++ sp2) (2 ^ k) c2) (by decide) trivial (alT_nil _ _ _) (by exact ⟨fc, trivial⟩) (locK_nil _ _) (tril_nil ⟨rfl, c2, sp2, h1, h2, fs2, rfl⟩)
      rw [List.append_nil] at this
      exact this
  · rintro τ1 ⟨_, c2, sp2, h1, h2, fs2, rfl⟩
    exact tri_run okS follows (br_7 _ _ c2) (by decide) trivial (alT_nil _ _ _) (by exact ⟨flat_app fr fs2, trivial⟩) (locK_nil _ _) ⟨rfl, c2, sp2, h1, h2, fs2, rfl⟩
theorem br_calls {k : Nat} (hk : k ≤ 6) {f : Nat → L4} (hf : ∀ i, (f i).ok) {w : World} {c b o : Nat} (h0 : ListIn w b o (lst k f)) (ht : TabIn w) :
    Calls Tryd.prog 5 #[.slice (some ⟨b, o, none⟩) (2 ^ k) c] w (MadeR (lst k (rvd k f)) w) := by
  have hfn : Tryd.prog.funcs[5]? = some Tryd.f5 := by kernel_rfl
  have hb : Tryd.f5.body = some cBr := by kernel_rfl
  have h0' := start_gen (nt := 22) (vs := [slc 22 (2 ^ k) c]) (rs := [(b, o, false, flatL (lst k f)), (0, 0, false, tabV)]) (w := w) (W := fun _ _ => False) (loc := lBr)
    (fun v hv => by
      simp only [List.mem_cons, List.not_mem_nil, or_false] at hv
      subst hv
      exact ⟨rfl, hpA_pres (j := 0) (by simp)⟩)
    (fun j c1 d fl cs hj => by
      rcases two_of hj with ⟨he, _⟩ | ⟨he, _⟩ <;> simp only [Prod.mk.injEq] at he <;> obtain ⟨rfl, rfl, rfl, rfl⟩ := he
      · exact ⟨flatL_ok0 (lst_ok hf) _, fun i v hi => by rw [flatL_flat _ v (List.mem_of_getElem? hi)]; exact h0 i v hi⟩
      · exact ⟨tab_ok _, fun i v hi => by rw [tab_flat v (List.mem_of_getElem? hi), Nat.zero_add]; exact ht i v hi⟩)
    (fun j c1 d cs hj i hi => by
      rcases two_of hj with ⟨he, _⟩ | ⟨he, _⟩ <;> simp at he)
    (fun j j' b1 o1 b2 o2 f1 f2 c1 c2 hne e1 e2 hff i i' hi hi' => by
      rcases two_of e1 with ⟨h3, k1⟩ | ⟨h3, k1⟩ <;> rcases two_of e2 with ⟨h4, k2⟩ | ⟨h4, k2⟩ <;> simp only [Prod.mk.injEq] at h3 h4 <;> rw [h3.2.2.1, h4.2.2.1] at hff <;> cases hff)
    (fun q c1 d hq => by
      simp only [List.mem_cons, Prod.mk.injEq, List.not_mem_nil, or_false] at hq
      obtain ⟨rfl, rfl, rfl⟩ := hq
      exact ⟨1, _, _, rfl, rfl⟩)
  have hul : (lst k (rvd k f)).length = 2 ^ k := lst_length _ _
  refine calls_of_tri hfn hb (args := #[.slice (some ⟨b, o, none⟩) (2 ^ k) c]) h0' (br_tri hk hf c b o) ?_
  rintro e τ' ⟨rfl, c', sp, k1, k2, k3, rfl⟩
  refine ⟨by simp, fun a' w' hs => ?_⟩
  exact madeR_of (fn := Tryd.f5) (us := lst k (rvd k f)) (by rw [hul]; exact (pow_bd hk).1) (fun g T => by rw [hul]; exact br_vres _ _ _ g T) (fun T => rfl) k1 (by rw [hul]; exact k2) k3 hs
end Go.Proofs.YtbbifiogcpcpfaaDoor
