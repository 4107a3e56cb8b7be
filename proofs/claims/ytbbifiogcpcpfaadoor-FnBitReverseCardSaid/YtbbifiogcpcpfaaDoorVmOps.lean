/-
  A small symbolic machine, part 3: operations that neither read nor write memory.
-/
import Derived.Test.YtbbifiogcpcpfaaDoorVmMem
import Derived.WalkLawsBesides
namespace Go.Proofs.YtbbifiogcpcpfaaDoor
namespace Vm

def szT (P : Program) (t : TypeId) : Option Nat := (P.info? t).map (·.size)
def aggT (P : Program) (t : TypeId) : Option Bool :=
  match P.underlying t with
  | some (.struct _) => some true
  | some (.array _ _) => some true
  | some _ => some false
  | none => none

section
variable {P : Program} {w : World}
theorem run_szT {t : TypeId} {n : Nat} (h : szT P t = some n) : (sizeOf t).run P w = .ok n w := by
  unfold szT at h
  cases hi : P.info? t with
  | none => rw [hi] at h; cases h
  | some i => rw [hi] at h; simp only [Option.map_some, Option.some.injEq] at h; subst h; simp [sizeOf, typeInfo, hi]
theorem run_aggT {t : TypeId} {b : Bool} (h : aggT P t = some b) : (isAgg t).run P w = .ok b w := by
  unfold aggT at h
  unfold isAgg
  cases hu : P.underlying t with
  | none => rw [hu] at h; cases h
  | some d =>
    rw [hu] at h
    simp only [Sem.run_bind, run_underlying hu, Result.andThen_ok]
    cases d <;> simp_all
end

/-! ### Integers -/
def binInt (op : BinOp) (k : IntKind) (a : Int) (k' : IntKind) (b : Int) : Option Value :=
  match op with
  | .shl => if b < 0 then none else some (.int k (k.wrap (a * 2 ^ (min b.toNat k.bits))))
  | .shr => if b < 0 then none else some (.int k (a.fdiv (2 ^ (min b.toNat k.bits))))
  | .add => if k = k' then some (.int k (k.wrap (a + b))) else none
  | .sub => if k = k' then some (.int k (k.wrap (a - b))) else none
  | .mul => if k = k' then some (.int k (k.wrap (a * b))) else none
  | .quo => if k = k' then if b = 0 then none else some (.int k (k.wrap (a.tdiv b))) else none
  | .rem => if k = k' then if b = 0 then none else some (.int k (a.tmod b)) else none
  | .and => if k = k' then some (.int k (bits .and k a b)) else none
  | .or => if k = k' then some (.int k (bits .or k a b)) else none
  | .xor => if k = k' then some (.int k (bits .xor k a b)) else none
  | .andNot => if k = k' then some (.int k (bits .andNot k a b)) else none
  | .eql => if k = k' then some (.bool (a == b)) else none
  | .neq => if k = k' then some (.bool (a != b)) else none
  | .lss => if k = k' then some (.bool (decide (a < b))) else none
  | .leq => if k = k' then some (.bool (decide (a ≤ b))) else none
  | .gtr => if k = k' then some (.bool (decide (a > b))) else none
  | .geq => if k = k' then some (.bool (decide (a ≥ b))) else none

theorem kind_lo (k : IntKind) : k.min ≤ 0 := by cases k <;> decide
theorem kind_hi (k : IntKind) : 0 ≤ k.max := by cases k <;> decide
theorem fdiv_within {lo hi x m : Int} (h0 : lo ≤ 0) (h1 : 0 ≤ hi) (hm : 0 < m) (hl : lo ≤ x) (hh : x ≤ hi) : lo ≤ x.fdiv m ∧ x.fdiv m ≤ hi := by
  rw [Int.fdiv_eq_ediv_of_nonneg _ (Int.le_of_lt hm)]
  rcases Int.le_total 0 x with hx | hx
  · have a := Int.ediv_nonneg hx (Int.le_of_lt hm)
    have b := Int.ediv_le_self m hx
    omega
  · have a : x / m ≤ 0 := Int.ediv_nonpos_of_nonpos_of_neg hx hm
    have b : x ≤ x / m := by
      apply Int.le_ediv_of_mul_le hm
      have : x * m ≤ x * 1 := Int.mul_le_mul_of_nonpos_left hx (by omega)
      omega
    omega
theorem tmod_within {lo hi x m : Int} (h0 : lo ≤ 0) (h1 : 0 ≤ hi) (hl : lo ≤ x) (hh : x ≤ hi) : lo ≤ x.tmod m ∧ x.tmod m ≤ hi := by
  rcases Int.le_total 0 x with hx | hx
  · have a := Int.tmod_nonneg m hx
    have b : x.tmod m ≤ x := by
      obtain ⟨n, rfl⟩ := Int.eq_ofNat_of_zero_le hx
      rcases Int.le_total 0 m with hm | hm
      · obtain ⟨q, rfl⟩ := Int.eq_ofNat_of_zero_le hm
        rw [← Int.ofNat_tmod]; exact_mod_cast Nat.mod_le n q
      · obtain ⟨q, hq⟩ := Int.eq_ofNat_of_zero_le (a := -m) (by omega)
        rw [show m = -(q : Int) by omega, Int.tmod_neg, ← Int.ofNat_tmod]; exact_mod_cast Nat.mod_le n q
    omega
  · have a : 0 ≤ (-x).tmod m := Int.tmod_nonneg m (by omega)
    have b : (-x).tmod m ≤ -x := by
      obtain ⟨n, hn⟩ := Int.eq_ofNat_of_zero_le (a := -x) (by omega)
      rw [hn]
      rcases Int.le_total 0 m with hm | hm
      · obtain ⟨q, rfl⟩ := Int.eq_ofNat_of_zero_le hm
        rw [← Int.ofNat_tmod]; exact_mod_cast Nat.mod_le n q
      · obtain ⟨q, hq⟩ := Int.eq_ofNat_of_zero_le (a := -m) (by omega)
        rw [show m = -(q : Int) by omega, Int.tmod_neg, ← Int.ofNat_tmod]; exact_mod_cast Nat.mod_le n q
    rw [Int.neg_tmod] at a b
    omega

theorem binInt_sound {op : BinOp} {t : TypeId} {k k' : IntKind} {a b : Int} {v : Value} (h : binInt op k a k' b = some v) (hp : Hp) (ha : k.min ≤ a ∧ a ≤ k.max) :
    ok0 hp v ∧ (∀ ρ, ren0 ρ v = v) ∧ ∀ P w, (binOp op t (.int k a) (.int k' b)).run P w = .ok v w := by
  cases op <;> simp only [binInt] at h
  case shl =>
    split at h
    · cases h
    · rename_i hb; cases h
      exact ⟨wrap_within _ _, fun _ => rfl, fun P w => by simp [binOp, Op.shift, hb]⟩
  case shr =>
    split at h
    · cases h
    · rename_i hb; cases h
      refine ⟨fdiv_within (kind_lo k) (kind_hi k) (Int.pow_pos (by omega)) ha.1 ha.2, fun _ => rfl, fun P w => by simp [binOp, Op.shift, hb]⟩
  case quo =>
    split at h
    · rename_i hk; subst hk
      split at h
      · cases h
      · rename_i hb; cases h
        exact ⟨wrap_within _ _, fun _ => rfl, fun P w => by simp [binOp, Op.intDiv, hb]⟩
    · cases h
  case rem =>
    split at h
    · rename_i hk; subst hk
      split at h
      · cases h
      · rename_i hb; cases h
        exact ⟨tmod_within (kind_lo k) (kind_hi k) ha.1 ha.2, fun _ => rfl, fun P w => by simp [binOp, Op.intDiv, hb]⟩
    · cases h
  case and =>
    split at h
    · rename_i hk; subst hk; cases h
      exact ⟨bits_within _ _ _ _, fun _ => rfl, fun P w => by (simp [binOp]; rfl)⟩
    · cases h
  case or =>
    split at h
    · rename_i hk; subst hk; cases h
      exact ⟨bits_within _ _ _ _, fun _ => rfl, fun P w => by (simp [binOp]; rfl)⟩
    · cases h
  case xor =>
    split at h
    · rename_i hk; subst hk; cases h
      exact ⟨bits_within _ _ _ _, fun _ => rfl, fun P w => by (simp [binOp]; rfl)⟩
    · cases h
  case andNot =>
    split at h
    · rename_i hk; subst hk; cases h
      exact ⟨bits_within _ _ _ _, fun _ => rfl, fun P w => by (simp [binOp]; rfl)⟩
    · cases h
  case add =>
    split at h
    · rename_i hk; subst hk; cases h
      exact ⟨wrap_within _ _, fun _ => rfl, fun P w => by simp [binOp, Op.intArith]⟩
    · cases h
  case sub =>
    split at h
    · rename_i hk; subst hk; cases h
      exact ⟨wrap_within _ _, fun _ => rfl, fun P w => by simp [binOp, Op.intArith]⟩
    · cases h
  case mul =>
    split at h
    · rename_i hk; subst hk; cases h
      exact ⟨wrap_within _ _, fun _ => rfl, fun P w => by simp [binOp, Op.intArith]⟩
    · cases h
  all_goals
    split at h
    case isFalse => cases h
    case isTrue hk =>
      subst hk
      cases h
      exact ⟨trivial, fun _ => rfl, fun P w => by simp [binOp, Op.intCmp]⟩

/-! ### Equality of structs and arrays of integers -/
def eqFs (eq : TypeId → List Value → List Value → Option Bool) (sz : TypeId → Option Nat) (xs ys : List Value) : List Field → Option Bool
  | [] => some true
  | f :: fs =>
    if f.name == "_" then none else
    match sz f.type with
    | none => none
    | some n => match eq f.type ((xs.drop f.offset).take n) ((ys.drop f.offset).take n) with
      | none => none
      | some b => match eqFs eq sz xs ys fs with
        | none => none
        | some r => some (b && r)
def eqAs (eq : List Value → List Value → Option Bool) (n : Nat) (xs ys : List Value) : Nat → Nat → Option Bool
  | _, 0 => some true
  | i, m + 1 => match eq ((xs.drop (i * n)).take n) ((ys.drop (i * n)).take n) with
    | none => none
    | some b => match eqAs eq n xs ys (i + 1) m with
      | none => none
      | some r => some (b && r)
def eqSem (P : Program) : Nat → TypeId → List Value → List Value → Option Bool
  | 0, _, _, _ => none
  | d + 1, t, xs, ys =>
    match P.underlying t with
    | some (.int _) => match xs, ys with
      | [.int k a], [.int k' b] => if k = k' then some (a == b) else none
      | _, _ => none
    | some (.struct fs) => if P.stoodInHeld t then none else eqFs (eqSem P d) (szT P) xs ys fs.toList
    | some (.array m e) => match szT P e with
      | none => none
      | some n => eqAs (eqSem P d e) n xs ys 0 m
    | _ => none

/-- The value whose cells these are. -/
def isVal (P : Program) (t : TypeId) (xs : List Value) (x : Value) : Prop :=
  (aggT P t = some true ∧ x = .agg xs.toArray) ∨ (aggT P t = some false ∧ xs = [x])

theorem run_part {P : Program} {w : World} {t : TypeId} {xs : List Value} {off n : Nat} {b : Bool} (hs : szT P t = some n) (ha : aggT P t = some b)
    (hb : b = false → ∃ v, (xs.drop off).take n = [v]) :
    ∃ x, (part t xs.toArray off).run P w = .ok x w ∧ isVal P t ((xs.drop off).take n) x := by
  unfold part
  simp only [Sem.run_bind, run_aggT ha, Result.andThen_ok]
  cases b with
  | true =>
    refine ⟨.agg ((xs.drop off).take n).toArray, ?_, .inl ⟨ha, rfl⟩⟩
    simp only [if_true, Sem.run_bind, run_szT hs, Result.andThen_ok, Sem.run_pure]
    congr 2
    apply Array.ext'
    simp [List.take_drop]
  | false =>
    obtain ⟨v, hv⟩ := hb rfl
    have hx : xs[off]? = some v := by
      have h0 : ((xs.drop off).take n)[0]? = some v := by rw [hv]; rfl
      have hn : 0 < n := by
        rcases Nat.eq_zero_or_pos n with h | h
        · subst h; simp at hv
        · exact h
      rw [List.getElem?_take_of_lt hn, List.getElem?_drop] at h0
      simpa using h0
    refine ⟨v, ?_, .inr ⟨ha, hv⟩⟩
    simp [hx]

theorem eqSem_some {P : Program} {d : Nat} {t : TypeId} {xs ys : List Value} {b : Bool} (h : eqSem P d t xs ys = some b) :
    ∃ c, aggT P t = some c ∧ (c = false → (∃ v, xs = [v]) ∧ ∃ v, ys = [v]) := by
  cases d with
  | zero => cases h
  | succ d =>
    simp only [eqSem] at h
    unfold aggT
    split at h
    · rename_i hu; rw [hu]
      refine ⟨false, rfl, fun _ => ?_⟩
      split at h
      · exact ⟨⟨_, rfl⟩, ⟨_, rfl⟩⟩
      · cases h
    · rename_i hu; rw [hu]; exact ⟨true, rfl, by simp⟩
    · rename_i hu; rw [hu]; exact ⟨true, rfl, by simp⟩
    · cases h

theorem eqSem_sound (P : Program) : ∀ (d : Nat) (t : TypeId) (xs ys : List Value) (b : Bool), eqSem P d t xs ys = some b →
    ∀ x y, isVal P t xs x → isVal P t ys y → ∀ w, (Op.equalIn d t x y).run P w = .ok b w := by
  intro d
  induction d with
  | zero => intro t xs ys b h; cases h
  | succ d ih =>
    intro t xs ys b h x y hx hy w
    simp only [eqSem] at h
    split at h
    · rename_i k0 hu
      have hag : aggT P t = some false := by simp [aggT, hu]
      split at h
      · rename_i k a k' b'
        split at h
        · rename_i hk; subst hk; cases h
          have ex : x = .int k a := by
            rcases hx with ⟨h1, _⟩ | ⟨_, h2⟩
            · rw [hag] at h1; cases h1
            · simp only [List.cons.injEq, and_true] at h2; exact h2.symm
          have ey : y = .int k b' := by
            rcases hy with ⟨h1, _⟩ | ⟨_, h2⟩
            · rw [hag] at h1; cases h1
            · simp only [List.cons.injEq, and_true] at h2; exact h2.symm
          subst ex; subst ey
          exact run_equalIn_int w d t k k0 a b' hu
        · cases h
      · cases h
    · rename_i fs hu
      have hag : aggT P t = some true := by simp [aggT, hu]
      split at h
      · cases h
      · rename_i hst
        have ex : x = .agg xs.toArray := by
          rcases hx with ⟨_, h2⟩ | ⟨h1, _⟩
          · exact h2
          · rw [hag] at h1; cases h1
        have ey : y = .agg ys.toArray := by
          rcases hy with ⟨_, h2⟩ | ⟨h1, _⟩
          · exact h2
          · rw [hag] at h1; cases h1
        subst ex; subst ey
        have hf : P.fieldsOf t = fs := by simp [Program.fieldsOf, hu]
        rw [run_equalIn_struct w d t _ _ (by rw [hf]; exact hu) (by simpa using hst), hf]
        revert h
        generalize fs.toList = l
        induction l generalizing b with
        | nil => intro h; simp only [eqFs, Option.some.injEq] at h; subst h; simp [Op.eqFields]
        | cons f l ihl =>
          intro h
          simp only [eqFs] at h
          split at h
          · cases h
          · rename_i hn
            split at h
            · cases h
            · rename_i n hsz
              split at h
              · cases h
              · rename_i c hc
                split at h
                · cases h
                · rename_i r hr
                  cases h
                  obtain ⟨ag, hag', hsing⟩ := eqSem_some hc
                  obtain ⟨u, hu1, hu2⟩ := run_part (w := w) (xs := xs) (off := f.offset) hsz hag' (fun e => (hsing e).1)
                  obtain ⟨v, hv1, hv2⟩ := run_part (w := w) (xs := ys) (off := f.offset) hsz hag' (fun e => (hsing e).2)
                  have hn' : f.name ≠ "_" := by simpa using hn
                  simp only [Op.eqFields, ne_eq, hn', not_false_eq_true, if_true, Sem.run_bind, hu1, hv1, Result.andThen_ok, ih _ _ _ _ hc u v hu2 hv2 w]
                  cases c
                  · simp
                  · simp only [Bool.not_true, Bool.false_eq_true, if_false, Bool.true_and]; exact ihl r hr
    · rename_i m e hu
      have hag : aggT P t = some true := by simp [aggT, hu]
      split at h
      · cases h
      · rename_i n hsz
        have ex : x = .agg xs.toArray := by
          rcases hx with ⟨_, h2⟩ | ⟨h1, _⟩
          · exact h2
          · rw [hag] at h1; cases h1
        have ey : y = .agg ys.toArray := by
          rcases hy with ⟨_, h2⟩ | ⟨h1, _⟩
          · exact h2
          · rw [hag] at h1; cases h1
        subst ex; subst ey
        simp only [Op.equalIn, Sem.run_bind, run_underlying hu, Result.andThen_ok, run_szT hsz]
        simp only [Std.Legacy.Range.forIn_eq_forIn_range', Std.Legacy.Range.size, Nat.sub_zero, Nat.add_one_sub_one, Nat.div_one]
        clear hx hy hag hu
        revert h
        generalize 0 = i
        induction m generalizing b i with
        | zero => intro h; simp only [eqAs, Option.some.injEq] at h; subst h; simp
        | succ m ihm =>
          intro h
          simp only [eqAs] at h
          split at h
          · cases h
          · rename_i c hc
            split at h
            · cases h
            · rename_i r hr
              cases h
              obtain ⟨ag, hag', hsing⟩ := eqSem_some hc
              obtain ⟨u, hu1, hu2⟩ := run_part (w := w) (xs := xs) (off := i * n) hsz hag' (fun e => (hsing e).1)
              obtain ⟨v, hv1, hv2⟩ := run_part (w := w) (xs := ys) (off := i * n) hsz hag' (fun e => (hsing e).2)
              simp only [List.range'_succ, List.forIn_cons, Sem.run_bind, hu1, hv1, Result.andThen_ok, ih _ _ _ _ hc u v hu2 hv2 w]
              cases c
              · simp
              · simp only [Bool.not_true, Bool.false_eq_true, if_false, Bool.true_and, Sem.run_pure, Result.andThen_ok]
                exact ihm (b := r) (i := i + 1) hr
    · cases h

end Vm
end Go.Proofs.YtbbifiogcpcpfaaDoor
