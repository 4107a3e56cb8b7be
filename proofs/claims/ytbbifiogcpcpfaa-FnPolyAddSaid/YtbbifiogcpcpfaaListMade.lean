/-
  impl.madeList, impl.toldList: a list in its other form: a row of the call's own with the same numbers.
-/
import Derived.Test.YtbbifiogcpcpfaaListIn
import Derived.Test.YtbbifiogcpcpfaaVmApp
namespace Go.Proofs.Ytbbifiogcpcpfaa
open Vm

theorem turn_empty {τ : TS} {q : Nat} (hq : τ.hp[q]? = some none) : Turns τ ⟨τ.tm, τ.hp.set q (some (true, [])), τ.loc⟩ := by
  rintro w0 W a w ⟨g, T, ρ, hs, hloc⟩
  have hq' : (τ.fill g T).hp[q]? = some none := get_append hq
  have hhp : (⟨τ.tm, τ.hp.set q (some (true, [])), τ.loc⟩ : TS).fill g T = ⟨(τ.fill g T).tm, (τ.fill g T).hp.set q (some (true, [])), True, 0⟩ := by
    simp only [TS.fill]; rw [set_append hq]
  refine ⟨g, T, ρ, ?_, fun k b o hk => ⟨(hloc k b o hk).1, pres_set (hloc k b o hk).2⟩⟩
  rw [hhp]
  have other : ∀ {k : Nat} {f : Bool} {cs : List Value}, ((τ.fill g T).hp.set q (some (true, [])))[k]? = some (some (f, cs)) → cs ≠ [] → (τ.fill g T).hp[k]? = some (some (f, cs)) := by
    intro k f cs hk hne
    by_cases hkq : k = q
    · subst hkq
      rw [get_set_same hq'] at hk
      simp only [Option.some.injEq, Prod.mk.injEq] at hk
      exact absurd hk.2.symm hne
    · rwa [get_set_other hkq] at hk
  have ne : ∀ {cs : List Value} {i : Nat}, i < cs.length → cs ≠ [] := fun h e => by subst e; simp at h
  have ne' : ∀ {cs : List Value} {i : Nat} {v : Value}, cs[i]? = some v → cs ≠ [] := fun h e => by subst e; simp at h
  refine ⟨⟨fun v hv => (hs.ok.tm v hv).mono mono_set, fun k f cs hk v hv => ?_⟩, hs.tm, ?_⟩
  · have hne : cs ≠ [] := fun e => by subst e; simp at hv
    exact (hs.ok.hp k f cs (other hk hne) v hv).mono mono_set
  · exact ⟨fun k f cs hk i v hi => hs.inv.cell k f cs (other hk (ne' hi)) i v hi, fun k cs hk i hi => hs.inv.own k cs (other hk (ne hi)) i hi,
      fun k k' f c1 f' c2 hkk hk hk' hb i i' hi hi' => hs.inv.dis k k' f c1 f' c2 hkk (other hk (ne hi)) (other hk' (ne hi')) hb i i' hi hi', hs.inv.fr⟩
theorem info_of {P : Program} {e : TypeId} {z : Value} {n k : Nat} (h : (P.info? e).map (fun i => (i.zero, i.size, i.bytes)) = some (some z, n, k)) : ∃ i, P.info? e = some i ∧ i.zero = some z ∧ i.size = n ∧ i.bytes = k := by
  cases hi : P.info? e with
  | none => rw [hi] at h; cases h
  | some i =>
    rw [hi] at h
    simp only [Option.map_some, Option.some.injEq, Prod.mk.injEq] at h
    exact ⟨i, rfl, h.1, h.2.1, h.2.2⟩
theorem locK_fst {r : Nat} {f : Bool} {b o : Nat} {ks : Keep} {loc : List (Nat × Nat × Nat)} (hk : (r, r, f) ∈ ks) (h : (r, b, o) ∈ loc) : LocK ks loc [(r, b, o)] := fun q b' o' hq => by
  simp only [List.mem_cons, Prod.mk.injEq, List.not_mem_nil, or_false] at hq
  obtain ⟨rfl, rfl, rfl⟩ := hq
  exact ⟨_, f, hk, h⟩
theorem flat_app {xs ys : List Value} (h : Flat xs) (k : Flat ys) : Flat (xs ++ ys) := fun v hv => by
  rcases List.mem_append.1 hv with hv | hv
  · exact h v hv
  · exact k v hv
theorem tri_region' {P : Program} {c : Code} {τ : TS} {K : Xt → TS → Prop} (hc : isReg c = true) (h : TriL P (opsOf c) (opsOf c).toList τ fun τ' => K .normal τ') : Tri P c τ K := by
  rw [region_of hc]; exact tri_region h
theorem take_snoc {xs : List L4} {i : Nat} (h : i < xs.length) : flatL (xs.take (i + 1)) = flatL (xs.take i) ++ xs[i].cells := by
  rw [List.take_succ_eq_append_getElem h, flatL_append]
  simp [flatL]
def zeroW : Value := .agg #[.int .u64 0, .int .u64 0, .int .u64 0, .int .u64 0]
/-- What the row collected so far is: nil, or a region of the call's own. -/
def OutV (v : Value) (i cap : Nat) (ys sp : List Value) : Prop := (v = .slice none 0 0 ∧ i = 0) ∨ (v = slc 19 i cap ∧ 0 < i ∧ (ys ++ sp).length = cap * 4 ∧ i ≤ cap)
theorem outV_ren {v : Value} {i cap : Nat} {ys sp : List Value} (h : OutV v i cap ys sp) {π : Emb} (hp : π 19 = (19, 0)) : ren π v = v := by
  rcases h with ⟨rfl, _⟩ | ⟨rfl, _⟩
  · rfl
  · simp [ren, ren1, ren0, rena, hp]

/-! ### mL -/
noncomputable abbrev cmL : Code := bodyOf Try.f47
noncomputable abbrev cmLb : Code := cAt cmL [1, 1, 0, 1]
noncomputable abbrev cmLr : Code := cAt cmLb [0, 0]
noncomputable abbrev omL : Array Oper := opsOf (cAt cmLr [1, 1, 0, 0, 1])
theorem imL : (Try.prog.info? 76).map (fun i => (i.zero, i.size, i.bytes)) = some (some zeroW, 4, 32) := by kernel_rfl
/-- At the head of a round. -/
def mLH (xs : List Value) (v : Value) (ys : List Value) (n cap b o : Nat) (i : Int) : TS :=
  ⟨mkT 18 [(3, v), (6, slc 18 n cap), (7, num n), (8, num i)], mkT 21 [(18, false, xs), (19, true, ys)], [(18, b, o)]⟩
def mLP (xs : List Value) (v : Value) (ys : List Value) (x : L4) (n cap b o s : Nat) (i : Int) : TS :=
  ⟨mkT 18 [(3, v), (6, slc 18 n cap), (7, num n), (8, num i)], mkT 21 [(18, false, xs), (19, true, ys), (20, false, x.cells)], [(20, b, o + s), (18, b, o)]⟩
def mLQ (xs : List Value) (v : Value) (ys : List Value) (x : L4) (n cap b o : Nat) (i : Int) : TS :=
  ⟨mkT 18 [(3, v), (5, .pointer (some ⟨5, 0, none⟩)), (6, slc 18 n cap), (7, num n), (8, num i)], mkT 21 [(18, false, xs), (19, true, ys), (5, true, x.cells)], [(18, b, o)]⟩
def mLR (xs : List Value) (v : Value) (ys : List Value) (x : L4) (n cap b o : Nat) (i : Int) : TS :=
  ⟨mkT 18 [(6, slc 18 n cap), (7, num n), (8, num i), (12, v), (14, slc 14 1 1)], mkT 21 [(18, false, xs), (19, true, ys), (14, true, x.cells)], [(18, b, o)]⟩
def mLU (xs : List Value) (v : Value) (ys : List Value) (n cap b o : Nat) (i : Int) : TS :=
  ⟨mkT 18 [(15, v), (6, slc 18 n cap), (7, num n), (8, num i)], mkT 21 [(19, true, ys), (18, false, xs)], [(18, b, o)]⟩
abbrev k1 : Keep := [(18, 18, false), (19, 19, false)]
theorem mL_r3 (xs : List Value) (v : Value) (ys : List Value) (n cap b o : Nat) (i : Int) (t : Bool) (g : Nat → Value) (T : Hp) :
    runV Try.prog (lookS [] [] [(9, t)]) 1 (cAt cmLr [0]) ((mLH xs v ys n cap b o i).fill g T) 18 21 k1 [3, 6, 7, 8, 9] =
      some ⟨.normal, [(3, ren (piOf 21 k1) v), (6, slc 18 n cap), (7, num n), (8, num i), (9, .bool t)], [(18, false, xs), (19, true, ys)], True ∧ decide (i < n) = t⟩ := by kernel_rfl
theorem mL_cT (xs : List Value) (v : Value) (ys : List Value) (n cap b o : Nat) (i : Int) (g : Nat → Value) (T : Hp) :
    runV Try.prog (lookS [] [] []) 1 (cAt cmLr [1, 0]) ((⟨mkT 18 [(3, v), (6, slc 18 n cap), (7, num n), (8, num i), (9, .bool true)], mkT 21 [(18, false, xs), (19, true, ys)], [(18, b, o)]⟩ : TS).fill g T) 18 21 k1 [3, 6, 7, 8] =
      some ⟨.normal, [(3, ren (piOf 21 k1) v), (6, slc 18 n cap), (7, num n), (8, num i)], [(18, false, xs), (19, true, ys)], True⟩ := by kernel_rfl
theorem mL_cF (xs : List Value) (v : Value) (ys : List Value) (n cap b o : Nat) (i : Int) (g : Nat → Value) (T : Hp) :
    runV Try.prog (lookS [] [] []) 1 (cAt cmLr [1, 0]) ((⟨mkT 18 [(3, v), (6, slc 18 n cap), (7, num n), (8, num i), (9, .bool false)], mkT 21 [(18, false, xs), (19, true, ys)], [(18, b, o)]⟩ : TS).fill g T) 18 21 [(19, 19, false)] [3] =
      some ⟨.exit 0, [(3, ren (piOf 21 [(19, 19, false)]) v)], [(19, true, ys)], True⟩ := by kernel_rfl
theorem mL_r4 (xs : List Value) (v : Value) (ys : List Value) (x : L4) (n cap b o s : Nat) (i : Int) (g : Nat → Value) (T : Hp) :
    runV Try.prog (lookS [] [(18, s, 20)] []) 1 (cAt cmLr [1, 1, 0, 0, 0]) ((mLP xs v ys x n cap b o s i).fill g T) 18 21 [(18, 18, false), (19, 19, false), (5, 5, false)] [3, 5, 6, 7, 8] =
      some ⟨.normal, [(3, ren (piOf 21 [(18, 18, false), (19, 19, false), (5, 5, false)]) v), (5, .pointer (some ⟨5, 0, none⟩)), (6, slc 18 n cap), (7, num n), (8, num i)], [(18, false, xs), (19, true, ys), (5, true, x.cells)],
        True ∧ ((0 ≤ i ∧ i < n) ∧ 0 + i.toNat * 4 = s)⟩ := by kernel_rfl
theorem mL_r5 (xs : List Value) (v : Value) (ys : List Value) (x : L4) (n cap b o : Nat) (i : Int) (g : Nat → Value) (T : Hp) :
    runLV Try.prog (lookS [] [] []) omL (omL.toList.take 3) ((mLQ xs v ys x n cap b o i).fill g T) 18 21 [(18, 18, false), (19, 19, false), (14, 14, false)] [6, 7, 8, 12, 14] =
      some ⟨.normal, [(6, slc 18 n cap), (7, num n), (8, num i), (12, ren (piOf 21 [(18, 18, false), (19, 19, false), (14, 14, false)]) v), (14, slc 14 1 1)], [(18, false, xs), (19, true, ys), (14, true, x.cells)], True⟩ := by kernel_rfl
theorem mL_as (xs : List Value) (k c : Nat) (ys : List Value) (n cap b o : Nat) (i : Int) (g : Nat → Value) (T : Hp) :
    runLV Try.prog (lookS [] [] []) omL (omL.toList.drop 4) ((mLU xs (slc 19 k c) ys n cap b o i).fill g T) 18 21 k1 [3, 6, 7, 8] =
      some ⟨.normal, [(3, slc 19 k c), (6, slc 18 n cap), (7, num n), (8, num i)], [(18, false, xs), (19, true, ys)], True⟩ := by kernel_rfl
theorem mL_r6 (xs : List Value) (k c : Nat) (ys : List Value) (n cap b o : Nat) (i : Int) (g : Nat → Value) (T : Hp) :
    runV Try.prog (lookS [] [] []) 1 (cAt cmLr [1, 1, 1]) ((mLH xs (slc 19 k c) ys n cap b o i).fill g T) 18 21 k1 [3, 6, 7, 8] =
      some ⟨.normal, [(3, slc 19 k c), (6, slc 18 n cap), (7, num n), (8, num (IntKind.i64.wrap (i + 1)))], [(18, false, xs), (19, true, ys)], True⟩ := by kernel_rfl
def mLS (xs : List Value) (n cap b o : Nat) : TS := ⟨some (slc 18 n cap) :: List.replicate 17 none, List.replicate 18 none ++ [some (false, xs)], [(18, b, o)]⟩
theorem mL_0 (xs : List Value) (n cap b o : Nat) (g : Nat → Value) (T : Hp) : runV Try.prog (lookS [] [] []) 1 (cAt cmL [0]) ((mLS xs n cap b o).fill g T) 18 21 [(18, 18, false)] [0] =
    some ⟨.normal, [(0, slc 18 n cap)], [(18, false, xs)], True⟩ := by kernel_rfl
theorem mL_1 (xs : List Value) (n cap b o : Nat) (g : Nat → Value) (T : Hp) : runV Try.prog (lookS [] [] []) 1 (cAt cmL [1, 0]) ((⟨mkT 18 [(0, slc 18 n cap)], mkT 21 [(18, false, xs)], [(18, b, o)]⟩ : TS).fill g T) 18 21 [(18, 18, false)] [0, 3] =
    some ⟨.normal, [(0, slc 18 n cap), (3, .slice none 0 0)], [(18, false, xs)], True⟩ := by kernel_rfl
theorem mL_2 (xs : List Value) (n cap b o : Nat) (g : Nat → Value) (T : Hp) : runV Try.prog (lookS [] [] []) 1 (cAt cmL [1, 1, 0, 0]) ((⟨mkT 18 [(0, slc 18 n cap), (3, .slice none 0 0)], mkT 21 [(18, false, xs)], [(18, b, o)]⟩ : TS).fill g T) 18 21 [(18, 18, false)] [3, 6, 7, 8] =
    some ⟨.normal, [(3, .slice none 0 0), (6, slc 18 n cap), (7, num (lenI n)), (8, num 0)], [(18, false, xs)], True ∧ n ≤ 9223372036854775807⟩ := by kernel_rfl
theorem mL_7 (ys : List Value) (k c : Nat) (g : Nat → Value) (T : Hp) : runV Try.prog (lookS [] [] []) 1 (cAt cmL [1, 1, 1]) ((⟨mkT 18 [(3, slc 19 k c)], mkT 21 [(19, true, ys)], []⟩ : TS).fill g T) 18 21 [(19, 19, false)] [2] =
    some ⟨.ret, [(2, slc 19 k c)], [(19, true, ys)], True⟩ := by kernel_rfl
theorem mL_op : opAt omL 3 = some ⟨some 15, .call { callee := .builtin .append, args := #[.tmp 12, .tmp 14], argTypes := #[62, 62] }⟩ := by kernel_rfl
theorem mL_turn {xs : List L4} {v : Value} {ys : List Value} {n cap b o i : Nat} (h : i < xs.length) : Turns (mLH (flatL xs) v ys n cap b o i) (mLP (flatL xs) v ys xs[i] n cap b o (4 * i) i) := by
  have := turn_peek (τ := mLH (flatL xs) v ys n cap b o i) (r := 18) (q := 20) (b := b) (o := o) (A := flatL (xs.take i)) (B := xs[i].cells) (C := flatL (xs.drop (i + 1)))
    (by rw [← flatL_at h]; rfl) rfl (by simp [mLH])
  rw [take_len (Nat.le_of_lt h)] at this
  exact this

theorem mL_round {xs : List L4} {cap b o : Nat} (hn : xs.length ≤ 4398046511104) {i : Nat} {v : Value} {c : Nat} {sp : List Value} (hlt : i < xs.length) (hv : OutV v i c (flatL (xs.take i)) sp) (fs : Flat sp) :
    Tri Try.prog cmLr (mLH (flatL xs) v (flatL (xs.take i) ++ sp) xs.length cap b o i) fun e τ' => e = .normal ∧ ∃ c' sp', OutV (slc 19 (i + 1) c') (i + 1) c' (flatL (xs.take (i + 1))) sp' ∧ Flat sp' ∧
      τ' = mLH (flatL xs) (slc 19 (i + 1) c') (flatL (xs.take (i + 1)) ++ sp') xs.length cap b o (i + 1 : Nat) := by
  have nil : EnvOK Try.prog (lookS [] [] []) := lookS_ok env_nil
  have fl : Flat (flatL xs) := flatL_flat xs
  have fy : Flat (flatL (xs.take i) ++ sp) := flat_app (flatL_flat _) fs
  refine tri_next (τ1 := ⟨mkT 18 [(3, v), (6, slc 18 xs.length cap), (7, num xs.length), (8, num i), (9, .bool true)], mkT 21 [(18, false, flatL xs), (19, true, flatL (xs.take i) ++ sp)], [(18, b, o)]⟩) (by kernel_rfl)
    (tri_run (lookS_ok env_nil) follows (mL_r3 _ v _ _ cap b o i true) (by decide) ⟨trivial, decide_eq_true (by omega)⟩ (alT_nil _ _ _) ⟨fl, fy, trivial⟩ (locK_fst (r := 18) (f := false) (b := b) (o := o) (by simp) (by simp [mLH])) ⟨rfl, by rw [outV_ren (π := piOf 21 k1) hv rfl]⟩) ?_
  refine tri_next (τ1 := mLH (flatL xs) v (flatL (xs.take i) ++ sp) xs.length cap b o i) (by kernel_rfl)
    (tri_run nil follows (mL_cT _ v _ _ cap b o i) (by decide) trivial (alT_nil _ _ _) ⟨fl, fy, trivial⟩ (locK_fst (r := 18) (f := false) (b := b) (o := o) (by simp) (by simp)) ⟨rfl, by rw [outV_ren (π := piOf 21 k1) hv rfl]; rfl⟩) ?_
  refine tri_seq' (K1 := fun e τ1 => e = .normal ∧ ∃ c' sp', (flatL (xs.take i) ++ xs[i].cells ++ sp').length = c' * 4 ∧ i + 1 ≤ c' ∧ Flat sp' ∧
    τ1 = mLH (flatL xs) (slc 19 (i + 1) c') (flatL (xs.take i) ++ xs[i].cells ++ sp') xs.length cap b o i) (by kernel_rfl) ?_ ?_ (fun _ _ he h => absurd h.1 he)
  · refine tri_block' (by kernel_rfl) ?_
    refine tri_turn (mL_turn hlt) ?_
    have hal : AlT (lookS [] [(18, 4 * i, 20)] []) (mLP (flatL xs) v (flatL (xs.take i) ++ sp) xs[i] xs.length cap b o (4 * i) i) := by
      intro r s q hx
      simp only [lookS, List.mem_cons, Prod.mk.injEq, List.not_mem_nil, or_false] at hx
      obtain ⟨rfl, rfl, rfl⟩ := hx
      exact ⟨b, o, by simp [mLP], by simp [mLP]⟩
    refine tri_next (τ1 := mLQ (flatL xs) v (flatL (xs.take i) ++ sp) xs[i] xs.length cap b o i) (by kernel_rfl)
      (tri_run (lookS_ok env_nil) follows (mL_r4 _ v _ xs[i] _ cap b o (4 * i) i) (by decide) ⟨trivial, ⟨⟨by omega, by omega⟩, by omega⟩⟩ hal ⟨fl, fy, flat4 _, trivial⟩ (locK_fst (r := 18) (f := false) (b := b) (o := o) (by simp) (by simp [mLP])) ⟨rfl, by rw [outV_ren (π := piOf 21 [(18, 18, false), (19, 19, false), (5, 5, false)]) hv rfl]; rfl⟩) ?_
    refine tri_region' (by kernel_rfl) ?_
    obtain ⟨op, hg, hd, ho, hsplit⟩ := ops_split mL_op
    show TriL _ omL omL.toList _ _
    rw [hsplit]
    refine tril_run nil (mL_r5 _ v _ xs[i] _ cap b o i) (by decide) trivial (alT_nil _ _ _) ⟨fl, fy, flat4 _, trivial⟩ (locK_fst (r := 18) (f := false) (b := b) (o := o) (by simp) (by simp [mLQ])) ?_
    rw [outV_ren (π := piOf 21 [(18, 18, false), (19, 19, false), (14, 14, false)]) hv rfl]
    obtain ⟨ti, hi, hz, hsz, hby⟩ := info_of imL
    refine tril_append (P := Try.prog) ho hd (e := 76) (by kernel_rfl) hi hz hsz hby (by decide) (by decide) (m := 21) (v := v) (h := 19) (h' := 19) (d := 15) (n := i) (q := 14) (oq := 0) (mm := 1) (c := 1) (xs := flatL (xs.take i)) (sp := sp) (news := xs[i].cells)
      (live := [(6, slc 18 xs.length cap), (7, num xs.length), (8, num i)]) (regs := [(18, false, flatL xs)]) (loc := [(18, b, o)])
      (fun g => by simp only [wantedS, hg]) rfl rfl (fun g => rfl) (fun g => rfl) (fun T => ⟨?_⟩) (fun T => rfl) (flatL_flat _) fs (flat4 _) rfl (by decide) (by omega) (by rw [mkT_length]; decide) ?_ ?_ ?_ ?_ ?_
    · rcases hv with ⟨rfl, hi0⟩ | ⟨rfl, hi0, hl, hc⟩
      · subst hi0
        exact .inl ⟨rfl, rfl, rfl⟩
      · exact .inr ⟨c, rfl, rfl, by rw [take_len (by omega)]; omega, hl, hc⟩
    · intro p hp
      simp only [List.mem_cons, List.not_mem_nil, or_false] at hp
      rcases hp with rfl | rfl | rfl
      · exact ⟨by simp, fun g => rfl, fun d' h => by rcases h with rfl | rfl <;> rfl⟩
      · exact ⟨by simp, fun g => rfl, fun d' h => by rcases h with rfl | rfl <;> rfl⟩
      · exact ⟨by simp, fun g => rfl, fun d' h => by rcases h with rfl | rfl <;> rfl⟩
    · intro p hp
      simp only [List.mem_cons, List.not_mem_nil, or_false] at hp
      subst hp
      exact ⟨rfl, fl, by simp, by simp⟩
    · intro d' h
      rcases h with rfl | rfl
      · show keepOK 21 [(19, 19, false), (18, 18, false)] = true; decide
      · show keepOK 21 [(15, 19, false), (18, 18, false)] = true; decide
    · intro q b' o' h
      simp only [List.mem_cons, Prod.mk.injEq, List.not_mem_nil, or_false] at h
      obtain ⟨rfl, rfl, rfl⟩ := h
      exact ⟨by simp, (18, false, flatL xs), by simp, rfl⟩
    · intro c' sp' hl hc fs'
      have fy' : Flat (flatL (xs.take i) ++ xs[i].cells ++ sp') := flat_app (flat_app (flatL_flat _) (flat4 _)) fs'
      have := tril_run (rest := []) (K := fun τ' => ∃ c' sp', (flatL (xs.take i) ++ xs[i].cells ++ sp').length = c' * 4 ∧ i + 1 ≤ c' ∧ Flat sp' ∧ τ' = mLH (flatL xs) (slc 19 (i + 1) c') (flatL (xs.take i) ++ xs[i].cells ++ sp') xs.length cap b o i)
        nil (mL_as (flatL xs) (i + 1) c' (flatL (xs.take i) ++ xs[i].cells ++ sp') xs.length cap b o i) (by decide) trivial (alT_nil _ _ _) ⟨fl, fy', trivial⟩ (locK_fst (r := 18) (f := false) (b := b) (o := o) (by simp) (by simp [mLU])) (tril_nil ⟨c', sp', hl, hc, fs', rfl⟩)
      rw [List.append_nil] at this
      intro w0 W a w hs Q hQ
      exact this w0 W a w hs Q fun τ' a' w' hk ht => hQ τ' a' w' ⟨rfl, hk⟩ ht
  · rintro τ1 ⟨_, c', sp', hl, hc, fs', rfl⟩
    have fy' : Flat (flatL (xs.take i) ++ xs[i].cells ++ sp') := flat_app (flat_app (flatL_flat _) (flat4 _)) fs'
    refine tri_run nil follows (mL_r6 _ (i + 1) c' _ _ cap b o i) (by decide) trivial (alT_nil _ _ _) ⟨fl, fy', trivial⟩ (locK_fst (r := 18) (f := false) (b := b) (o := o) (by simp) (by simp [mLH])) ?_
    refine ⟨rfl, c', sp', .inr ⟨rfl, by omega, by rw [take_snoc hlt]; exact hl, hc⟩, fs', ?_⟩
    simp only [num_next (show i < 9223372036854775807 by omega), take_snoc hlt]
    rfl
def mLZ (ys : List Value) (n c : Nat) : TS := ⟨mkT 18 [(2, slc 19 n c)], mkT 21 [(19, true, ys)], []⟩
theorem mL_tri (xs : List L4) (cap b o : Nat) (hn : xs.length ≤ 4398046511104) (hpos : 0 < xs.length) :
    Tri Try.prog cmL (mLS (flatL xs) xs.length cap b o) fun e τ' => e = .ret ∧ ∃ c sp, (flatL xs ++ sp).length = c * 4 ∧ xs.length ≤ c ∧ Flat sp ∧ τ' = mLZ (flatL xs ++ sp) xs.length c := by
  have nil : EnvOK Try.prog (lookS [] [] []) := lookS_ok env_nil
  have fl : Flat (flatL xs) := flatL_flat xs
  refine tri_next (by kernel_rfl) (tri_run nil follows (mL_0 _ _ cap b o) (by decide) trivial (alT_nil _ _ _) ⟨fl, trivial⟩ (locK_fst (r := 18) (f := false) (b := b) (o := o) (by simp) (by simp [mLS])) ⟨rfl, rfl⟩) ?_
  refine tri_next (by kernel_rfl) (tri_run nil follows (mL_1 _ _ cap b o) (by decide) trivial (alT_nil _ _ _) ⟨fl, trivial⟩ (locK_fst (r := 18) (f := false) (b := b) (o := o) (by simp) (by simp)) ⟨rfl, rfl⟩) ?_
  refine tri_seq' (K1 := fun e τ1 => e = .normal ∧ ∃ c sp, (flatL xs ++ sp).length = c * 4 ∧ xs.length ≤ c ∧ Flat sp ∧ τ1 = ⟨mkT 18 [(3, slc 19 xs.length c)], mkT 21 [(19, true, flatL xs ++ sp)], []⟩) (by kernel_rfl) ?_ ?_ (fun _ _ he h => absurd h.1 he)
  · refine tri_next (τ1 := ⟨mkT 18 [(3, .slice none 0 0), (6, slc 18 xs.length cap), (7, num xs.length), (8, num 0)], mkT 21 [(18, false, flatL xs)], [(18, b, o)]⟩) (by kernel_rfl)
      (tri_run nil follows (mL_2 _ _ cap b o) (by decide) ⟨trivial, by omega⟩ (alT_nil _ _ _) ⟨fl, trivial⟩ (locK_fst (r := 18) (f := false) (b := b) (o := o) (by simp) (by simp)) ⟨rfl, by rw [lenI_eq (show xs.length ≤ 9223372036854775807 by omega)]⟩) ?_
    refine tri_turn (turn_empty (q := 19) rfl) ?_
    refine tri_block' (by kernel_rfl) ?_
    refine tri_loop' (S := Nat × Value × Nat × List Value) (by kernel_rfl) (fun s => s.1 ≤ xs.length ∧ OutV s.2.1 s.1 s.2.2.1 (flatL (xs.take s.1)) s.2.2.2 ∧ Flat s.2.2.2)
      (fun s => mLH (flatL xs) s.2.1 (flatL (xs.take s.1) ++ s.2.2.2) xs.length cap b o s.1) (fun s => xs.length - s.1) ?_ (s := (0, .slice none 0 0, 0, [])) ⟨Nat.zero_le _, .inl ⟨rfl, rfl⟩, fun v hv => by simp at hv⟩
    rintro ⟨i, v, c, sp⟩ ⟨hi, hv, fs⟩
    simp only at hi hv fs
    by_cases hlt : i < xs.length
    · refine tri_conseq (mL_round hn hlt hv fs) ?_
      rintro e τ' ⟨rfl, c', sp', h1, h2, rfl⟩
      exact ⟨(i + 1, slc 19 (i + 1) c', c', sp'), ⟨hlt, h1, h2⟩, by simp only; omega, rfl⟩
    · have he : i = xs.length := by omega
      subst he
      have fy : Flat (flatL (xs.take xs.length) ++ sp) := flat_app (flatL_flat _) fs
      refine tri_next (τ1 := ⟨mkT 18 [(3, v), (6, slc 18 xs.length cap), (7, num xs.length), (8, num xs.length), (9, .bool false)], mkT 21 [(18, false, flatL xs), (19, true, flatL (xs.take xs.length) ++ sp)], [(18, b, o)]⟩) (by kernel_rfl)
        (tri_run (lookS_ok env_nil) follows (mL_r3 _ v _ _ cap b o xs.length false) (by decide) ⟨trivial, decide_eq_false (by omega)⟩ (alT_nil _ _ _) ⟨fl, fy, trivial⟩ (locK_fst (r := 18) (f := false) (b := b) (o := o) (by simp) (by simp [mLH])) ⟨rfl, by rw [outV_ren (π := piOf 21 k1) hv rfl]⟩) ?_
      refine tri_seq' (K1 := fun e τ1 => e = .exit 0 ∧ τ1 = ⟨mkT 18 [(3, v)], mkT 21 [(19, true, flatL (xs.take xs.length) ++ sp)], []⟩) (by kernel_rfl)
        (tri_run nil follows (mL_cF _ v _ _ cap b o xs.length) (by decide) trivial (alT_nil _ _ _) ⟨fy, trivial⟩ (locK_nil _ _) ⟨rfl, by rw [outV_ren (π := piOf 21 [(19, 19, false)]) hv rfl]⟩) (fun _ h => by cases h.1) ?_
      rintro e τ1 _ ⟨rfl, rfl⟩
      rcases hv with ⟨_, h0⟩ | ⟨rfl, _, hl, hc⟩
      · omega
      · rw [List.take_length] at hl
        exact ⟨rfl, c, sp, hl, hc, fs, by rw [List.take_length]⟩
  · rintro τ1 ⟨_, c, sp, hl, hc, fs, rfl⟩
    exact tri_run nil follows (mL_7 _ _ c) (by decide) trivial (alT_nil _ _ _) ⟨flat_app fl fs, trivial⟩ (locK_nil _ _) ⟨rfl, c, sp, hl, hc, fs, rfl⟩

/-! ### tL -/
noncomputable abbrev ctL : Code := bodyOf Try.f51
noncomputable abbrev ctLb : Code := cAt ctL [1, 1, 0, 1]
noncomputable abbrev ctLr : Code := cAt ctLb [0, 0]
noncomputable abbrev otL : Array Oper := opsOf (cAt ctLr [1, 1, 0, 0, 1])
theorem itL : (Try.prog.info? 23).map (fun i => (i.zero, i.size, i.bytes)) = some (some zeroW, 4, 32) := by kernel_rfl
/-- At the head of a round. -/
def tLH (xs : List Value) (v : Value) (ys : List Value) (n cap b o : Nat) (i : Int) : TS :=
  ⟨mkT 18 [(3, v), (6, slc 18 n cap), (7, num n), (8, num i)], mkT 21 [(18, false, xs), (19, true, ys)], [(18, b, o)]⟩
def tLP (xs : List Value) (v : Value) (ys : List Value) (x : L4) (n cap b o s : Nat) (i : Int) : TS :=
  ⟨mkT 18 [(3, v), (6, slc 18 n cap), (7, num n), (8, num i)], mkT 21 [(18, false, xs), (19, true, ys), (20, false, x.cells)], [(20, b, o + s), (18, b, o)]⟩
def tLQ (xs : List Value) (v : Value) (ys : List Value) (x : L4) (n cap b o : Nat) (i : Int) : TS :=
  ⟨mkT 18 [(3, v), (5, .pointer (some ⟨5, 0, none⟩)), (6, slc 18 n cap), (7, num n), (8, num i)], mkT 21 [(18, false, xs), (19, true, ys), (5, true, x.cells)], [(18, b, o)]⟩
def tLR (xs : List Value) (v : Value) (ys : List Value) (x : L4) (n cap b o : Nat) (i : Int) : TS :=
  ⟨mkT 18 [(6, slc 18 n cap), (7, num n), (8, num i), (12, v), (14, slc 14 1 1)], mkT 21 [(18, false, xs), (19, true, ys), (14, true, x.cells)], [(18, b, o)]⟩
def tLU (xs : List Value) (v : Value) (ys : List Value) (n cap b o : Nat) (i : Int) : TS :=
  ⟨mkT 18 [(15, v), (6, slc 18 n cap), (7, num n), (8, num i)], mkT 21 [(19, true, ys), (18, false, xs)], [(18, b, o)]⟩
theorem tL_r3 (xs : List Value) (v : Value) (ys : List Value) (n cap b o : Nat) (i : Int) (t : Bool) (g : Nat → Value) (T : Hp) :
    runV Try.prog (lookS [] [] [(9, t)]) 1 (cAt ctLr [0]) ((tLH xs v ys n cap b o i).fill g T) 18 21 k1 [3, 6, 7, 8, 9] =
      some ⟨.normal, [(3, ren (piOf 21 k1) v), (6, slc 18 n cap), (7, num n), (8, num i), (9, .bool t)], [(18, false, xs), (19, true, ys)], True ∧ decide (i < n) = t⟩ := by kernel_rfl
theorem tL_cT (xs : List Value) (v : Value) (ys : List Value) (n cap b o : Nat) (i : Int) (g : Nat → Value) (T : Hp) :
    runV Try.prog (lookS [] [] []) 1 (cAt ctLr [1, 0]) ((⟨mkT 18 [(3, v), (6, slc 18 n cap), (7, num n), (8, num i), (9, .bool true)], mkT 21 [(18, false, xs), (19, true, ys)], [(18, b, o)]⟩ : TS).fill g T) 18 21 k1 [3, 6, 7, 8] =
      some ⟨.normal, [(3, ren (piOf 21 k1) v), (6, slc 18 n cap), (7, num n), (8, num i)], [(18, false, xs), (19, true, ys)], True⟩ := by kernel_rfl
theorem tL_cF (xs : List Value) (v : Value) (ys : List Value) (n cap b o : Nat) (i : Int) (g : Nat → Value) (T : Hp) :
    runV Try.prog (lookS [] [] []) 1 (cAt ctLr [1, 0]) ((⟨mkT 18 [(3, v), (6, slc 18 n cap), (7, num n), (8, num i), (9, .bool false)], mkT 21 [(18, false, xs), (19, true, ys)], [(18, b, o)]⟩ : TS).fill g T) 18 21 [(19, 19, false)] [3] =
      some ⟨.exit 0, [(3, ren (piOf 21 [(19, 19, false)]) v)], [(19, true, ys)], True⟩ := by kernel_rfl
theorem tL_r4 (xs : List Value) (v : Value) (ys : List Value) (x : L4) (n cap b o s : Nat) (i : Int) (g : Nat → Value) (T : Hp) :
    runV Try.prog (lookS [] [(18, s, 20)] []) 1 (cAt ctLr [1, 1, 0, 0, 0]) ((tLP xs v ys x n cap b o s i).fill g T) 18 21 [(18, 18, false), (19, 19, false), (5, 5, false)] [3, 5, 6, 7, 8] =
      some ⟨.normal, [(3, ren (piOf 21 [(18, 18, false), (19, 19, false), (5, 5, false)]) v), (5, .pointer (some ⟨5, 0, none⟩)), (6, slc 18 n cap), (7, num n), (8, num i)], [(18, false, xs), (19, true, ys), (5, true, x.cells)],
        True ∧ ((0 ≤ i ∧ i < n) ∧ 0 + i.toNat * 4 = s)⟩ := by kernel_rfl
theorem tL_r5 (xs : List Value) (v : Value) (ys : List Value) (x : L4) (n cap b o : Nat) (i : Int) (g : Nat → Value) (T : Hp) :
    runLV Try.prog (lookS [] [] []) otL (otL.toList.take 3) ((tLQ xs v ys x n cap b o i).fill g T) 18 21 [(18, 18, false), (19, 19, false), (14, 14, false)] [6, 7, 8, 12, 14] =
      some ⟨.normal, [(6, slc 18 n cap), (7, num n), (8, num i), (12, ren (piOf 21 [(18, 18, false), (19, 19, false), (14, 14, false)]) v), (14, slc 14 1 1)], [(18, false, xs), (19, true, ys), (14, true, x.cells)], True⟩ := by kernel_rfl
theorem tL_as (xs : List Value) (k c : Nat) (ys : List Value) (n cap b o : Nat) (i : Int) (g : Nat → Value) (T : Hp) :
    runLV Try.prog (lookS [] [] []) otL (otL.toList.drop 4) ((tLU xs (slc 19 k c) ys n cap b o i).fill g T) 18 21 k1 [3, 6, 7, 8] =
      some ⟨.normal, [(3, slc 19 k c), (6, slc 18 n cap), (7, num n), (8, num i)], [(18, false, xs), (19, true, ys)], True⟩ := by kernel_rfl
theorem tL_r6 (xs : List Value) (k c : Nat) (ys : List Value) (n cap b o : Nat) (i : Int) (g : Nat → Value) (T : Hp) :
    runV Try.prog (lookS [] [] []) 1 (cAt ctLr [1, 1, 1]) ((tLH xs (slc 19 k c) ys n cap b o i).fill g T) 18 21 k1 [3, 6, 7, 8] =
      some ⟨.normal, [(3, slc 19 k c), (6, slc 18 n cap), (7, num n), (8, num (IntKind.i64.wrap (i + 1)))], [(18, false, xs), (19, true, ys)], True⟩ := by kernel_rfl
def tLS (xs : List Value) (n cap b o : Nat) : TS := ⟨some (slc 18 n cap) :: List.replicate 17 none, List.replicate 18 none ++ [some (false, xs)], [(18, b, o)]⟩
theorem tL_0 (xs : List Value) (n cap b o : Nat) (g : Nat → Value) (T : Hp) : runV Try.prog (lookS [] [] []) 1 (cAt ctL [0]) ((tLS xs n cap b o).fill g T) 18 21 [(18, 18, false)] [0] =
    some ⟨.normal, [(0, slc 18 n cap)], [(18, false, xs)], True⟩ := by kernel_rfl
theorem tL_1 (xs : List Value) (n cap b o : Nat) (g : Nat → Value) (T : Hp) : runV Try.prog (lookS [] [] []) 1 (cAt ctL [1, 0]) ((⟨mkT 18 [(0, slc 18 n cap)], mkT 21 [(18, false, xs)], [(18, b, o)]⟩ : TS).fill g T) 18 21 [(18, 18, false)] [0, 3] =
    some ⟨.normal, [(0, slc 18 n cap), (3, .slice none 0 0)], [(18, false, xs)], True⟩ := by kernel_rfl
theorem tL_2 (xs : List Value) (n cap b o : Nat) (g : Nat → Value) (T : Hp) : runV Try.prog (lookS [] [] []) 1 (cAt ctL [1, 1, 0, 0]) ((⟨mkT 18 [(0, slc 18 n cap), (3, .slice none 0 0)], mkT 21 [(18, false, xs)], [(18, b, o)]⟩ : TS).fill g T) 18 21 [(18, 18, false)] [3, 6, 7, 8] =
    some ⟨.normal, [(3, .slice none 0 0), (6, slc 18 n cap), (7, num (lenI n)), (8, num 0)], [(18, false, xs)], True ∧ n ≤ 9223372036854775807⟩ := by kernel_rfl
theorem tL_7 (ys : List Value) (k c : Nat) (g : Nat → Value) (T : Hp) : runV Try.prog (lookS [] [] []) 1 (cAt ctL [1, 1, 1]) ((⟨mkT 18 [(3, slc 19 k c)], mkT 21 [(19, true, ys)], []⟩ : TS).fill g T) 18 21 [(19, 19, false)] [2] =
    some ⟨.ret, [(2, slc 19 k c)], [(19, true, ys)], True⟩ := by kernel_rfl
theorem tL_op : opAt otL 3 = some ⟨some 15, .call { callee := .builtin .append, args := #[.tmp 12, .tmp 14], argTypes := #[34, 34] }⟩ := by kernel_rfl
theorem tL_turn {xs : List L4} {v : Value} {ys : List Value} {n cap b o i : Nat} (h : i < xs.length) : Turns (tLH (flatL xs) v ys n cap b o i) (tLP (flatL xs) v ys xs[i] n cap b o (4 * i) i) := by
  have := turn_peek (τ := tLH (flatL xs) v ys n cap b o i) (r := 18) (q := 20) (b := b) (o := o) (A := flatL (xs.take i)) (B := xs[i].cells) (C := flatL (xs.drop (i + 1)))
    (by rw [← flatL_at h]; rfl) rfl (by simp [tLH])
  rw [take_len (Nat.le_of_lt h)] at this
  exact this

theorem tL_round {xs : List L4} {cap b o : Nat} (hn : xs.length ≤ 4398046511104) {i : Nat} {v : Value} {c : Nat} {sp : List Value} (hlt : i < xs.length) (hv : OutV v i c (flatL (xs.take i)) sp) (fs : Flat sp) :
    Tri Try.prog ctLr (tLH (flatL xs) v (flatL (xs.take i) ++ sp) xs.length cap b o i) fun e τ' => e = .normal ∧ ∃ c' sp', OutV (slc 19 (i + 1) c') (i + 1) c' (flatL (xs.take (i + 1))) sp' ∧ Flat sp' ∧
      τ' = tLH (flatL xs) (slc 19 (i + 1) c') (flatL (xs.take (i + 1)) ++ sp') xs.length cap b o (i + 1 : Nat) := by
  have nil : EnvOK Try.prog (lookS [] [] []) := lookS_ok env_nil
  have fl : Flat (flatL xs) := flatL_flat xs
  have fy : Flat (flatL (xs.take i) ++ sp) := flat_app (flatL_flat _) fs
  refine tri_next (τ1 := ⟨mkT 18 [(3, v), (6, slc 18 xs.length cap), (7, num xs.length), (8, num i), (9, .bool true)], mkT 21 [(18, false, flatL xs), (19, true, flatL (xs.take i) ++ sp)], [(18, b, o)]⟩) (by kernel_rfl)
    (tri_run (lookS_ok env_nil) follows (tL_r3 _ v _ _ cap b o i true) (by decide) ⟨trivial, decide_eq_true (by omega)⟩ (alT_nil _ _ _) ⟨fl, fy, trivial⟩ (locK_fst (r := 18) (f := false) (b := b) (o := o) (by simp) (by simp [tLH])) ⟨rfl, by rw [outV_ren (π := piOf 21 k1) hv rfl]⟩) ?_
  refine tri_next (τ1 := tLH (flatL xs) v (flatL (xs.take i) ++ sp) xs.length cap b o i) (by kernel_rfl)
    (tri_run nil follows (tL_cT _ v _ _ cap b o i) (by decide) trivial (alT_nil _ _ _) ⟨fl, fy, trivial⟩ (locK_fst (r := 18) (f := false) (b := b) (o := o) (by simp) (by simp)) ⟨rfl, by rw [outV_ren (π := piOf 21 k1) hv rfl]; rfl⟩) ?_
  refine tri_seq' (K1 := fun e τ1 => e = .normal ∧ ∃ c' sp', (flatL (xs.take i) ++ xs[i].cells ++ sp').length = c' * 4 ∧ i + 1 ≤ c' ∧ Flat sp' ∧
    τ1 = tLH (flatL xs) (slc 19 (i + 1) c') (flatL (xs.take i) ++ xs[i].cells ++ sp') xs.length cap b o i) (by kernel_rfl) ?_ ?_ (fun _ _ he h => absurd h.1 he)
  · refine tri_block' (by kernel_rfl) ?_
    refine tri_turn (tL_turn hlt) ?_
    have hal : AlT (lookS [] [(18, 4 * i, 20)] []) (tLP (flatL xs) v (flatL (xs.take i) ++ sp) xs[i] xs.length cap b o (4 * i) i) := by
      intro r s q hx
      simp only [lookS, List.mem_cons, Prod.mk.injEq, List.not_mem_nil, or_false] at hx
      obtain ⟨rfl, rfl, rfl⟩ := hx
      exact ⟨b, o, by simp [tLP], by simp [tLP]⟩
    refine tri_next (τ1 := tLQ (flatL xs) v (flatL (xs.take i) ++ sp) xs[i] xs.length cap b o i) (by kernel_rfl)
      (tri_run (lookS_ok env_nil) follows (tL_r4 _ v _ xs[i] _ cap b o (4 * i) i) (by decide) ⟨trivial, ⟨⟨by omega, by omega⟩, by omega⟩⟩ hal ⟨fl, fy, flat4 _, trivial⟩ (locK_fst (r := 18) (f := false) (b := b) (o := o) (by simp) (by simp [tLP])) ⟨rfl, by rw [outV_ren (π := piOf 21 [(18, 18, false), (19, 19, false), (5, 5, false)]) hv rfl]; rfl⟩) ?_
    refine tri_region' (by kernel_rfl) ?_
    obtain ⟨op, hg, hd, ho, hsplit⟩ := ops_split tL_op
    show TriL _ otL otL.toList _ _
    rw [hsplit]
    refine tril_run nil (tL_r5 _ v _ xs[i] _ cap b o i) (by decide) trivial (alT_nil _ _ _) ⟨fl, fy, flat4 _, trivial⟩ (locK_fst (r := 18) (f := false) (b := b) (o := o) (by simp) (by simp [tLQ])) ?_
    rw [outV_ren (π := piOf 21 [(18, 18, false), (19, 19, false), (14, 14, false)]) hv rfl]
    obtain ⟨ti, hi, hz, hsz, hby⟩ := info_of itL
    refine tril_append (P := Try.prog) ho hd (e := 23) (by kernel_rfl) hi hz hsz hby (by decide) (by decide) (m := 21) (v := v) (h := 19) (h' := 19) (d := 15) (n := i) (q := 14) (oq := 0) (mm := 1) (c := 1) (xs := flatL (xs.take i)) (sp := sp) (news := xs[i].cells)
      (live := [(6, slc 18 xs.length cap), (7, num xs.length), (8, num i)]) (regs := [(18, false, flatL xs)]) (loc := [(18, b, o)])
      (fun g => by simp only [wantedS, hg]) rfl rfl (fun g => rfl) (fun g => rfl) (fun T => ⟨?_⟩) (fun T => rfl) (flatL_flat _) fs (flat4 _) rfl (by decide) (by omega) (by rw [mkT_length]; decide) ?_ ?_ ?_ ?_ ?_
    · rcases hv with ⟨rfl, hi0⟩ | ⟨rfl, hi0, hl, hc⟩
      · subst hi0
        exact .inl ⟨rfl, rfl, rfl⟩
      · exact .inr ⟨c, rfl, rfl, by rw [take_len (by omega)]; omega, hl, hc⟩
    · intro p hp
      simp only [List.mem_cons, List.not_mem_nil, or_false] at hp
      rcases hp with rfl | rfl | rfl
      · exact ⟨by simp, fun g => rfl, fun d' h => by rcases h with rfl | rfl <;> rfl⟩
      · exact ⟨by simp, fun g => rfl, fun d' h => by rcases h with rfl | rfl <;> rfl⟩
      · exact ⟨by simp, fun g => rfl, fun d' h => by rcases h with rfl | rfl <;> rfl⟩
    · intro p hp
      simp only [List.mem_cons, List.not_mem_nil, or_false] at hp
      subst hp
      exact ⟨rfl, fl, by simp, by simp⟩
    · intro d' h
      rcases h with rfl | rfl
      · show keepOK 21 [(19, 19, false), (18, 18, false)] = true; decide
      · show keepOK 21 [(15, 19, false), (18, 18, false)] = true; decide
    · intro q b' o' h
      simp only [List.mem_cons, Prod.mk.injEq, List.not_mem_nil, or_false] at h
      obtain ⟨rfl, rfl, rfl⟩ := h
      exact ⟨by simp, (18, false, flatL xs), by simp, rfl⟩
    · intro c' sp' hl hc fs'
      have fy' : Flat (flatL (xs.take i) ++ xs[i].cells ++ sp') := flat_app (flat_app (flatL_flat _) (flat4 _)) fs'
      have := tril_run (rest := []) (K := fun τ' => ∃ c' sp', (flatL (xs.take i) ++ xs[i].cells ++ sp').length = c' * 4 ∧ i + 1 ≤ c' ∧ Flat sp' ∧ τ' = tLH (flatL xs) (slc 19 (i + 1) c') (flatL (xs.take i) ++ xs[i].cells ++ sp') xs.length cap b o i)
        nil (tL_as (flatL xs) (i + 1) c' (flatL (xs.take i) ++ xs[i].cells ++ sp') xs.length cap b o i) (by decide) trivial (alT_nil _ _ _) ⟨fl, fy', trivial⟩ (locK_fst (r := 18) (f := false) (b := b) (o := o) (by simp) (by simp [tLU])) (tril_nil ⟨c', sp', hl, hc, fs', rfl⟩)
      rw [List.append_nil] at this
      intro w0 W a w hs Q hQ
      exact this w0 W a w hs Q fun τ' a' w' hk ht => hQ τ' a' w' ⟨rfl, hk⟩ ht
  · rintro τ1 ⟨_, c', sp', hl, hc, fs', rfl⟩
    have fy' : Flat (flatL (xs.take i) ++ xs[i].cells ++ sp') := flat_app (flat_app (flatL_flat _) (flat4 _)) fs'
    refine tri_run nil follows (tL_r6 _ (i + 1) c' _ _ cap b o i) (by decide) trivial (alT_nil _ _ _) ⟨fl, fy', trivial⟩ (locK_fst (r := 18) (f := false) (b := b) (o := o) (by simp) (by simp [tLH])) ?_
    refine ⟨rfl, c', sp', .inr ⟨rfl, by omega, by rw [take_snoc hlt]; exact hl, hc⟩, fs', ?_⟩
    simp only [num_next (show i < 9223372036854775807 by omega), take_snoc hlt]
    rfl
def tLZ (ys : List Value) (n c : Nat) : TS := ⟨mkT 18 [(2, slc 19 n c)], mkT 21 [(19, true, ys)], []⟩
theorem tL_tri (xs : List L4) (cap b o : Nat) (hn : xs.length ≤ 4398046511104) (hpos : 0 < xs.length) :
    Tri Try.prog ctL (tLS (flatL xs) xs.length cap b o) fun e τ' => e = .ret ∧ ∃ c sp, (flatL xs ++ sp).length = c * 4 ∧ xs.length ≤ c ∧ Flat sp ∧ τ' = tLZ (flatL xs ++ sp) xs.length c := by
  have nil : EnvOK Try.prog (lookS [] [] []) := lookS_ok env_nil
  have fl : Flat (flatL xs) := flatL_flat xs
  refine tri_next (by kernel_rfl) (tri_run nil follows (tL_0 _ _ cap b o) (by decide) trivial (alT_nil _ _ _) ⟨fl, trivial⟩ (locK_fst (r := 18) (f := false) (b := b) (o := o) (by simp) (by simp [tLS])) ⟨rfl, rfl⟩) ?_
  refine tri_next (by kernel_rfl) (tri_run nil follows (tL_1 _ _ cap b o) (by decide) trivial (alT_nil _ _ _) ⟨fl, trivial⟩ (locK_fst (r := 18) (f := false) (b := b) (o := o) (by simp) (by simp)) ⟨rfl, rfl⟩) ?_
  refine tri_seq' (K1 := fun e τ1 => e = .normal ∧ ∃ c sp, (flatL xs ++ sp).length = c * 4 ∧ xs.length ≤ c ∧ Flat sp ∧ τ1 = ⟨mkT 18 [(3, slc 19 xs.length c)], mkT 21 [(19, true, flatL xs ++ sp)], []⟩) (by kernel_rfl) ?_ ?_ (fun _ _ he h => absurd h.1 he)
  · refine tri_next (τ1 := ⟨mkT 18 [(3, .slice none 0 0), (6, slc 18 xs.length cap), (7, num xs.length), (8, num 0)], mkT 21 [(18, false, flatL xs)], [(18, b, o)]⟩) (by kernel_rfl)
      (tri_run nil follows (tL_2 _ _ cap b o) (by decide) ⟨trivial, by omega⟩ (alT_nil _ _ _) ⟨fl, trivial⟩ (locK_fst (r := 18) (f := false) (b := b) (o := o) (by simp) (by simp)) ⟨rfl, by rw [lenI_eq (show xs.length ≤ 9223372036854775807 by omega)]⟩) ?_
    refine tri_turn (turn_empty (q := 19) rfl) ?_
    refine tri_block' (by kernel_rfl) ?_
    refine tri_loop' (S := Nat × Value × Nat × List Value) (by kernel_rfl) (fun s => s.1 ≤ xs.length ∧ OutV s.2.1 s.1 s.2.2.1 (flatL (xs.take s.1)) s.2.2.2 ∧ Flat s.2.2.2)
      (fun s => tLH (flatL xs) s.2.1 (flatL (xs.take s.1) ++ s.2.2.2) xs.length cap b o s.1) (fun s => xs.length - s.1) ?_ (s := (0, .slice none 0 0, 0, [])) ⟨Nat.zero_le _, .inl ⟨rfl, rfl⟩, fun v hv => by simp at hv⟩
    rintro ⟨i, v, c, sp⟩ ⟨hi, hv, fs⟩
    simp only at hi hv fs
    by_cases hlt : i < xs.length
    · refine tri_conseq (tL_round hn hlt hv fs) ?_
      rintro e τ' ⟨rfl, c', sp', h1, h2, rfl⟩
      exact ⟨(i + 1, slc 19 (i + 1) c', c', sp'), ⟨hlt, h1, h2⟩, by simp only; omega, rfl⟩
    · have he : i = xs.length := by omega
      subst he
      have fy : Flat (flatL (xs.take xs.length) ++ sp) := flat_app (flatL_flat _) fs
      refine tri_next (τ1 := ⟨mkT 18 [(3, v), (6, slc 18 xs.length cap), (7, num xs.length), (8, num xs.length), (9, .bool false)], mkT 21 [(18, false, flatL xs), (19, true, flatL (xs.take xs.length) ++ sp)], [(18, b, o)]⟩) (by kernel_rfl)
        (tri_run (lookS_ok env_nil) follows (tL_r3 _ v _ _ cap b o xs.length false) (by decide) ⟨trivial, decide_eq_false (by omega)⟩ (alT_nil _ _ _) ⟨fl, fy, trivial⟩ (locK_fst (r := 18) (f := false) (b := b) (o := o) (by simp) (by simp [tLH])) ⟨rfl, by rw [outV_ren (π := piOf 21 k1) hv rfl]⟩) ?_
      refine tri_seq' (K1 := fun e τ1 => e = .exit 0 ∧ τ1 = ⟨mkT 18 [(3, v)], mkT 21 [(19, true, flatL (xs.take xs.length) ++ sp)], []⟩) (by kernel_rfl)
        (tri_run nil follows (tL_cF _ v _ _ cap b o xs.length) (by decide) trivial (alT_nil _ _ _) ⟨fy, trivial⟩ (locK_nil _ _) ⟨rfl, by rw [outV_ren (π := piOf 21 [(19, 19, false)]) hv rfl]⟩) (fun _ h => by cases h.1) ?_
      rintro e τ1 _ ⟨rfl, rfl⟩
      rcases hv with ⟨_, h0⟩ | ⟨rfl, _, hl, hc⟩
      · omega
      · rw [List.take_length] at hl
        exact ⟨rfl, c, sp, hl, hc, fs, by rw [List.take_length]⟩
  · rintro τ1 ⟨_, c, sp, hl, hc, fs, rfl⟩
    exact tri_run nil follows (tL_7 _ _ c) (by decide) trivial (alT_nil _ _ _) ⟨flat_app fl fs, trivial⟩ (locK_nil _ _) ⟨rfl, c, sp, hl, hc, fs, rfl⟩

end Go.Proofs.Ytbbifiogcpcpfaa
