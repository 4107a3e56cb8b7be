/-
  A small symbolic machine, part 14: contracts of functions over worlds, and what they are to a virtual run.
-/
import Derived.Test.YtbbifiogcpcpfaaDoorVmFn
namespace Go.Proofs.YtbbifiogcpcpfaaDoor
namespace Vm

/-- A row of cells in a world. -/
def Holds (w : World) (A : Addr) (cs : List Value) : Prop := ∀ (i : Nat) v, cs[i]? = some v → w.cell? ⟨A.block, A.off + i, none⟩ = some v
def Free (w : World) (A : Addr) (n : Nat) : Prop := ∀ i, i < n → w.frozen? ⟨A.block, A.off + i, none⟩ = false

/-- A parameter: a plain value; an address that is read; a slice that is read; an address that is read and written. -/
inductive AP where
  | v (x : Value)
  | r (A : Addr) (cs : List Value)
  | s (A : Addr) (cs : List Value) (cap : Nat)
  | w (A : Addr) (cs : List Value)
def AP.val : AP → Value
  | .v x => x
  | .r A _ => .pointer (some A)
  | .s A cs cap => .slice (some A) cs.length cap
  | .w A _ => .pointer (some A)
def AP.con : AP → List Value
  | .v x => [x]
  | .r _ cs => cs
  | .s _ cs _ => cs
  | .w _ cs => cs
/-- Where it lies, if it does. -/
def AP.at? : AP → Option (Addr × List Value)
  | .v _ => none
  | .r A cs => some (A, cs)
  | .s A cs _ => some (A, cs)
  | .w A cs => some (A, cs)
def AP.isW : AP → Bool
  | .w _ _ => true
  | _ => false
def Apart (A : Addr) (n : Nat) (B : Addr) (m : Nat) : Prop := ∀ i j, i < n → j < m → A.block ≠ B.block ∨ A.off + i ≠ B.off + j
/-- A written parameter beside another one: the same place (the other is only read, and has the same cells), or apart. -/
def PairOK (p q : AP) : Prop :=
  match p, q with
  | .w A cs, .r B ds => (A = B ∧ cs = ds) ∨ Apart A cs.length B ds.length
  | .w A cs, .s B ds _ => (A = B ∧ cs = ds) ∨ Apart A cs.length B ds.length
  | .w A cs, .w B ds => Apart A cs.length B ds.length
  | _, _ => True
/-- The parameters as they lie in a world. -/
structure Lie (w : World) (ps : List AP) : Prop where
  holds : ∀ p ∈ ps, ∀ A cs, p.at? = some (A, cs) → A.spot = none ∧ Holds w A cs
  free : ∀ p ∈ ps, ∀ A cs, p = .w A cs → Free w A cs.length
  ok : ∀ p ∈ ps, ∀ u ∈ p.con, ok2 [] u
  flat : ∀ p ∈ ps, ∀ A cs, p.at? = some (A, cs) → ∀ u ∈ cs, ok0 [] u
  pair : ∀ (i j : Nat) p q, i ≠ j → ps[i]? = some p → ps[j]? = some q → PairOK p q

/-- A slice, alone or first among others. -/
def freshV (s : Value) (vs : List Value) : Value :=
  match vs with
  | [] => s
  | vs => .tuple (s :: vs).toArray
/-- What a call hands back: a plain value; a parameter's own value; a new row of cells (alone, or with plain values behind it). -/
inductive RV where
  | val (v : Value)
  | same (j : Nat)
  | fresh (cs vs : List Value)
/-- The cells that may turn. -/
def Wof (ps : List AP) (k off : Nat) : Prop := ∃ A cs, AP.w A cs ∈ ps ∧ k = A.block ∧ ∃ i, i < cs.length ∧ off = A.off + i
/-- The written rows as they are behind the call. -/
def News (w' : World) : List AP → List (List Value) → Prop
  | [], ns => ns = []
  | .w A cs :: ps, ns => match ns with
    | n :: ns => n.length = cs.length ∧ Holds w' A n ∧ News w' ps ns
    | [] => False
  | _ :: ps, ns => News w' ps ns
def Hands (w w' : World) (ps : List AP) (e : Ending) : RV → Prop
  | .val v => e = .returned v
  | .same j => ∃ p, ps[j]? = some p ∧ e = .returned p.val
  | .fresh cs vs => ∃ b o, w.heap.size ≤ b ∧ e = .returned (freshV (.slice (some ⟨b, o, none⟩) cs.length cs.length) vs) ∧ Holds w' ⟨b, o, none⟩ cs ∧ Free w' ⟨b, o, none⟩ cs.length

abbrev Gf := List (List Value) → Option (List (List Value) × RV × Option Prop)
def RVok : RV → Prop
  | .val v => ok2 [] v
  | .same _ => True
  | .fresh cs vs => (∀ u ∈ cs, ok0 [] u) ∧ ∀ u ∈ vs, ok0 [] u
/-- The kinds of the parameters. -/
inductive PK where
  | V
  | R (n : Nat)
  | S (n : Nat)
  | W (n : Nat)
def AP.is : AP → PK → Prop
  | .v _, .V => True
  | .r _ cs, .R n => cs.length = n
  | .s _ cs _, .S n => cs.length = n
  | .w _ cs, .W n => cs.length = n
  | _, _ => False
def kindsOK : List AP → List PK → Prop
  | [], [] => True
  | p :: ps, k :: ks => p.is k ∧ kindsOK ps ks
  | _, _ => False

/-- **The contract of a function.** -/
def AC (P : Program) (f : FuncId) (ks : List PK) (g : Gf) : Prop :=
  ∀ (ps : List AP) news rv φ, kindsOK ps ks → g (ps.map AP.con) = some (news, rv, φ) → (∀ p ∈ ps, ∀ u ∈ p.con, ok2 [] u) →
    ((∀ n ∈ news, ∀ u ∈ n, ok0 [] u) ∧ RVok rv) ∧
    ∀ w, Lie w ps → due φ → Calld P f (ps.map AP.val).toArray w fun v w' => Fr (Wof ps) w w' ∧ News w' ps news ∧ Hands w w' ps (.returned v) rv

/-! ### Such a contract in a virtual run -/
def noPtr : Value → Bool
  | .agg cs => cs.toList.all isInt
  | .int _ _ => true
  | .bool _ => true
  | _ => false
def parse1 (hp : Hp) : PK → Value → Option AP
  | .V, v => if noPtr v then some (.v v) else none
  | .R n, .pointer (some a) => (match rd hp a.block a.off n with
    | some cs => if cs.all isInt then some (.r a cs) else none
    | none => none)
  | .S n, .slice (some a) l cap => if Nat.beq l n then (match rd hp a.block a.off n with
    | some cs => if cs.all isInt then some (.s a cs cap) else none
    | none => none) else none
  | .W n, .pointer (some a) => (match rd hp a.block a.off n with
    | some cs => if cs.all isInt then some (.w a cs) else none
    | none => none)
  | _, _ => none
def parse (hp : Hp) : List PK → List Value → Option (List AP)
  | [], [] => some []
  | k :: ks, v :: vs => match parse1 hp k v with
    | some p => (match parse hp ks vs with
      | some ps => some (p :: ps)
      | none => none)
    | none => none
  | _, _ => none
def apartB (A : Addr) (n : Nat) (B : Addr) (m : Nat) : Bool := !Nat.beq A.block B.block || Nat.ble (A.off + n) B.off || Nat.ble (B.off + m) A.off
def sameB (A : Addr) (n : Nat) (B : Addr) (m : Nat) : Bool := Nat.beq A.block B.block && Nat.beq A.off B.off && Nat.beq n m
def pairB (p q : AP) : Bool :=
  match p, q with
  | .w A cs, .r B ds => sameB A cs.length B ds.length || apartB A cs.length B ds.length
  | .w A cs, .s B ds _ => sameB A cs.length B ds.length || apartB A cs.length B ds.length
  | .w A cs, .w B ds => apartB A cs.length B ds.length
  | _, _ => true
def pairsB : List AP → Bool
  | [] => true
  | p :: ps => ps.all (fun q => pairB p q && pairB q p) && pairsB ps
def writes : Hp → List AP → List (List Value) → Option Hp
  | hp, [], ns => match ns with
    | [] => some hp
    | _ => none
  | hp, .w A cs :: ps, ns => (match ns with
    | n :: ns => if Nat.beq n.length cs.length then (match wr hp A.block A.off n with
      | some hp' => writes hp' ps ns
      | none => none) else none
    | [] => none)
  | hp, _ :: ps, ns => writes hp ps ns
def memF (ks : List PK) (g : Gf) (d : Nat) (vs : List Value) (hp : Hp) : Option (Value × Hp × Option Prop) :=
  match parse hp ks vs with
  | none => none
  | some ps => if pairsB ps then (match g (ps.map AP.con) with
    | none => none
    | some (news, rv, φ) => (match writes hp ps news with
      | none => none
      | some hp1 => (match rv with
        | .val v => some (v, hp1, φ)
        | .same j => (match vs[j]? with
          | some v => some (v, hp1, φ)
          | none => none)
        | .fresh cs us => (match newR d cs (freshV (.slice (some ⟨d, 0, none⟩) cs.length cs.length) us) hp1 with
          | some (v, hp2, _) => some (v, hp2, φ)
          | none => none)))) else none
def valG (ks : List PK) (g : Gf) (vs : List Value) : Option (Value × Option Prop) :=
  match parse [] ks vs with
  | none => none
  | some ps => match g (ps.map AP.con) with
    | some ([], .val v, φ) => some (v, φ)
    | _ => none

/-! ### Soundness -/
theorem isInt_ok0 {hp : Hp} {v : Value} (h : isInt v = true) (hok : ok0 hp v) : ok0 [] v := by
  cases v <;> first | exact hok | cases h
theorem noPtr_ok {hp : Hp} {v : Value} (h : noPtr v = true) (hok : ok2 hp v) : ok2 [] v := by
  cases v with
  | agg cs => simp only [noPtr, List.all_eq_true] at h; exact fun u hu => isInt_ok0 (h u (by simpa using hu)) (hok u hu)
  | int k n => exact hok
  | bool b => trivial
  | _ => cases h
theorem ok0_nil_ren {v : Value} (h : ok0 [] v) (ρ : Emb) : ren0 ρ v = v := by
  cases v with
  | pointer a => cases a with
    | none => rfl
    | some a => obtain ⟨_, x, hx⟩ := h; simp at hx
  | slice a l c => cases a with
    | none => rfl
    | some a => obtain ⟨_, x, hx⟩ := h; simp at hx
  | _ => rfl
theorem ok2_nil_ren {v : Value} (h : ok2 [] v) (ρ : Emb) : ren ρ v = v := by
  have h1 : ∀ u, ok1 [] u → ren1 ρ u = u := by
    intro u hu
    cases u with
    | agg cs => simp only [ren1]; congr 1; exact (Array.map_congr_left (g := id) fun x hx => ok0_nil_ren (hu x hx) ρ).trans (by simp)
    | func f x c =>
      simp only [ren1]
      congr 1
      · exact (Array.map_congr_left (g := id) fun y hy => ok0_nil_ren (hu.1 y hy) ρ).trans (by simp)
      · exact (Array.map_congr_left (g := id) fun y hy => ok0_nil_ren (hu.2 y hy) ρ).trans (by simp)
    | _ => simp only [ren1]; simp only [ok1] at hu; exact ok0_nil_ren hu ρ
  cases v with
  | tuple vs => simp only [ren]; congr 1; exact (Array.map_congr_left (g := id) fun x hx => h1 x (h x hx)).trans (by simp)
  | _ => simp only [ren]; simp only [ok2] at h; exact h1 _ h
theorem ren_freshV (ρ : Emb) (a : Addr) (l c : Nat) {vs : List Value} (h : ∀ u ∈ vs, ok0 [] u) : ren ρ (freshV (.slice (some a) l c) vs) = freshV (.slice (some (rena ρ a)) l c) vs := by
  cases vs with
  | nil => rfl
  | cons v vs =>
    simp only [freshV, ren]
    congr 1
    apply Array.ext'
    simp only [List.map_toArray, List.map_cons]
    have e1 : ren1 ρ v = v := by rw [ren1_of_ok0 ρ (h v (by simp))]; exact ok0_nil_ren (h v (by simp)) ρ
    have e2 : vs.map (ren1 ρ) = vs := (List.map_congr_left (g := id) fun u hu => by rw [ren1_of_ok0 ρ (h u (by simp [hu]))]; exact ok0_nil_ren (h u (by simp [hu])) ρ).trans (by simp)
    rw [e1, e2]; rfl
theorem ok_freshV {hp : Hp} {a : Addr} {l c : Nat} {vs : List Value} (ha : ok0 hp (.slice (some a) l c)) (h : ∀ u ∈ vs, ok0 hp u) : ok2 hp (freshV (.slice (some a) l c) vs) := by
  cases vs with
  | nil => exact ok2_of_ok0 ha
  | cons v vs =>
    intro u hu
    simp only [List.mem_toArray, List.mem_cons] at hu
    rcases hu with rfl | hu
    · exact ok1_of_ok0 ha
    · exact ok1_of_ok0 (h u (by simpa using hu))
theorem nil_mono (hp : Hp) : mono [] hp := fun r ⟨x, hx⟩ => by simp at hx

/-- A virtual parameter, in the world. -/
def AP.ren (ρ : Emb) : AP → AP
  | .v x => .v x
  | .r A cs => .r (rena ρ A) cs
  | .s A cs cap => .s (rena ρ A) cs cap
  | .w A cs => .w (rena ρ A) cs

theorem parse1_spec {hp : Hp} {k : PK} {v : Value} {p : AP} (h : parse1 hp k v = some p) (hv : ok2 hp v) (hH : okH hp) :
    p.is k ∧ p.val = v ∧ (∀ u ∈ p.con, ok2 [] u) ∧ (∀ A cs, p.at? = some (A, cs) → A.spot = none ∧ pres hp A.block ∧ rd hp A.block A.off cs.length = some cs ∧ ∀ u ∈ cs, ok0 [] u) ∧
    ∀ ρ, ren ρ v = (p.ren ρ).val := by
  have rdok : ∀ {a : Addr} {n cs}, rd hp a.block a.off n = some cs → cs.all isInt = true → cs.length = n ∧ ∀ u ∈ cs, ok0 [] u := by
    intro a n cs hr hall
    simp only [List.all_eq_true] at hall
    exact ⟨rd_length hr, fun u hu => isInt_ok0 (hall u hu) (rd_ok hH hr u hu)⟩
  have ptr : ∀ {a : Addr} {n cs}, ok0 hp (.pointer (some a)) → rd hp a.block a.off n = some cs → cs.all isInt = true →
      cs.length = n ∧ (∀ u ∈ cs, ok2 [] u) ∧ (a.spot = none ∧ pres hp a.block ∧ rd hp a.block a.off cs.length = some cs ∧ ∀ u ∈ cs, ok0 [] u) := by
    intro a n cs ha hr hall
    obtain ⟨h1, h2⟩ := rdok hr hall
    exact ⟨h1, fun u hu => ok2_of_ok0 (h2 u hu), ha.1, ha.2, by rw [h1]; exact hr, h2⟩
  unfold parse1 at h
  split at h
  · split at h <;> cases h
    rename_i hn
    have := noPtr_ok hn hv
    exact ⟨trivial, rfl, fun u hu => by simp [AP.con] at hu; subst hu; exact this, fun A cs h => by simp [AP.at?] at h, fun ρ => ok2_nil_ren this ρ⟩
  · rename_i n a
    split at h
    · rename_i cs hr
      split at h <;> cases h
      rename_i hall
      obtain ⟨h1, h2, h3⟩ := ptr hv hr hall
      exact ⟨h1, rfl, h2, fun A ds h => by simp only [AP.at?, Option.some.injEq, Prod.mk.injEq] at h; obtain ⟨rfl, rfl⟩ := h; exact h3, fun ρ => rfl⟩
    · cases h
  · rename_i n a l cap
    split at h
    case isFalse => cases h
    rename_i hl
    have hl' := Nat.eq_of_beq_eq_true hl
    subst hl'
    split at h
    · rename_i cs hr
      split at h <;> cases h
      rename_i hall
      obtain ⟨h1, h2, h3⟩ := ptr (a := a) ⟨hv.1, hv.2⟩ hr hall
      exact ⟨h1, by simp [AP.val, h1], h2, fun A ds h => by simp only [AP.at?, Option.some.injEq, Prod.mk.injEq] at h; obtain ⟨rfl, rfl⟩ := h; exact h3, fun ρ => by simp [AP.ren, AP.val, Vm.ren, ren1, ren0, h1]⟩
    · cases h
  · rename_i n a
    split at h
    · rename_i cs hr
      split at h <;> cases h
      rename_i hall
      obtain ⟨h1, h2, h3⟩ := ptr hv hr hall
      exact ⟨h1, rfl, h2, fun A ds h => by simp only [AP.at?, Option.some.injEq, Prod.mk.injEq] at h; obtain ⟨rfl, rfl⟩ := h; exact h3, fun ρ => rfl⟩
    · cases h
  · cases h

theorem parse_spec {hp : Hp} (hH : okH hp) : ∀ (ks : List PK) (vs : List Value) (ps : List AP), parse hp ks vs = some ps → (∀ v ∈ vs, ok2 hp v) →
    kindsOK ps ks ∧ (∀ p ∈ ps, (∀ u ∈ p.con, ok2 [] u) ∧ ∀ A cs, p.at? = some (A, cs) → A.spot = none ∧ pres hp A.block ∧ rd hp A.block A.off cs.length = some cs ∧ ∀ u ∈ cs, ok0 [] u) ∧
    ps.map AP.val = vs ∧ ∀ ρ, vs.map (ren ρ) = (ps.map (AP.ren ρ)).map AP.val
  | [], [], ps, h, _ => by cases h; exact ⟨trivial, fun _ h => by simp at h, rfl, fun _ => rfl⟩
  | [], _ :: _, ps, h, _ => by cases h
  | _ :: _, [], ps, h, _ => by cases h
  | k :: ks, v :: vs, ps, h, hv => by
    simp only [parse] at h
    split at h
    case h_2 => cases h
    rename_i p hp1
    split at h
    case h_2 => cases h
    rename_i ps' hps
    cases h
    obtain ⟨h1, h2, h3, h4, h5⟩ := parse1_spec hp1 (hv v (by simp)) hH
    obtain ⟨k1, k2, k3, k4⟩ := parse_spec hH ks vs ps' hps (fun u hu => hv u (by simp [hu]))
    refine ⟨⟨h1, k1⟩, fun q hq => ?_, by simp [h2, k3], fun ρ => by simp [h5, k4]⟩
    rcases List.mem_cons.1 hq with rfl | hq
    · exact ⟨h3, h4⟩
    · exact k2 q hq

theorem apartB_spec {A B : Addr} {n m : Nat} (h : apartB A n B m = true) : Apart A n B m := by
  intro i j hi hj
  simp only [apartB, Bool.or_eq_true, Bool.not_eq_true', Nat.ble_eq] at h
  rcases h with (h | h) | h
  · left; intro e; rw [e] at h; simp at h
  · right; omega
  · right; omega
theorem sameB_spec {A B : Addr} {n m : Nat} (h : sameB A n B m = true) (hA : A.spot = none) (hB : B.spot = none) : A = B ∧ n = m := by
  simp only [sameB, Bool.and_eq_true, Nat.beq_eq] at h
  obtain ⟨⟨h1, h2⟩, h3⟩ := h
  cases A; cases B; simp_all

section
variable {P : Program}

theorem apart_ren {w0 w : World} {W : Nat → Nat → Prop} {ρ : Emb} {hp : Hp} (hI : Inv w0 W ρ hp w) {A B : Addr} {cs ds : List Value} (h : Apart A cs.length B ds.length)
    (hA : rd hp A.block A.off cs.length = some cs) (hB : rd hp B.block B.off ds.length = some ds) (hwr : ∃ c, hp[A.block]? = some (some (true, c)) ∨ hp[B.block]? = some (some (true, c))) :
    Apart (rena ρ A) cs.length (rena ρ B) ds.length := by
  intro i j hi hj
  obtain ⟨b, c, hc, hle, _⟩ := rd_spec hA
  obtain ⟨b', c', hc', hle', _⟩ := rd_spec hB
  simp only [rena]
  by_cases hbl : A.block = B.block
  · right
    have := h i j hi hj
    rw [hbl]
    rcases this with h | h
    · exact absurd hbl h
    · omega
  · have hb : (b || b') = true := by
      obtain ⟨x, hx | hx⟩ := hwr
      · rw [hc] at hx; simp only [Option.some.injEq, Prod.mk.injEq] at hx; simp [hx.1]
      · rw [hc'] at hx; simp only [Option.some.injEq, Prod.mk.injEq] at hx; simp [hx.1]
    have := hI.dis A.block B.block b c b' c' hbl hc hc' hb (A.off + i) (B.off + j) (by omega) (by omega)
    rcases this with h | h
    · exact .inl h
    · right; omega

/-- One written row: what the memory holds behind it. -/
theorem wr_get {hp hp' : Hp} {r o : Nat} {n : List Value} (h : wr hp r o n = some hp') {q : Nat} {b : Bool} {cs : List Value} (hq : hp'[q]? = some (some (b, cs))) :
    ∃ cs0, hp[q]? = some (some (b, cs0)) ∧ cs.length = cs0.length ∧ ∀ i v, cs[i]? = some v → (q = r ∧ o ≤ i ∧ i < o + n.length ∧ n[i - o]? = some v) ∨ (cs0[i]? = some v ∧ ¬ (q = r ∧ o ≤ i ∧ i < o + n.length)) := by
  obtain ⟨c, hc, hle, rfl⟩ := wr_spec h
  by_cases hqr : q = r
  · subst hqr
    rw [get_set_same hc] at hq
    simp only [Option.some.injEq, Prod.mk.injEq] at hq
    obtain ⟨rfl, rfl⟩ := hq
    refine ⟨c, hc, splice_length _ _ _, fun i v hi => ?_⟩
    have key : ∀ (n : List Value) (c : List Value) (o : Nat), o + n.length ≤ c.length → ∀ i v, (splice c o n)[i]? = some v → (o ≤ i ∧ i < o + n.length ∧ n[i - o]? = some v) ∨ (c[i]? = some v ∧ ¬ (o ≤ i ∧ i < o + n.length)) := by
      intro n
      induction n with
      | nil => intro c o _ i v h; rw [splice_nil] at h; right; exact ⟨h, fun hh => by simp at hh; omega⟩
      | cons x n ih =>
        intro c o hle i v h
        simp only [List.length_cons] at hle
        rw [splice_cons] at h
        rcases ih (c.set o x) (o + 1) (by simp; omega) i v h with ⟨h1, h2, h3⟩ | ⟨h1, h2⟩
        · left
          refine ⟨by omega, by simp; omega, ?_⟩
          rw [show i - o = (i - (o + 1)) + 1 by omega]
          simpa using h3
        · by_cases hio : i = o
          · subst hio
            rw [List.getElem?_set_self (by omega)] at h1
            left
            exact ⟨Nat.le_refl _, by simp, by simpa using h1⟩
          · rw [List.getElem?_set_ne (Ne.symm hio)] at h1
            right
            exact ⟨h1, by simp at h2 ⊢; omega⟩
    rcases key n c o hle i v hi with h | h
    · exact .inl ⟨rfl, h⟩
    · exact .inr ⟨h.1, fun h' => h.2 h'.2⟩
  · rw [get_set_other hqr] at hq
    exact ⟨cs, hq, rfl, fun i v hi => .inr ⟨hi, fun h => hqr h.1⟩⟩

/-- All written rows. -/
theorem writes_get : ∀ (ps : List AP) (hp hp' : Hp) (news : List (List Value)), writes hp ps news = some hp' → ∀ (q : Nat) (b : Bool) (cs : List Value), hp'[q]? = some (some (b, cs)) →
    ∃ cs0, hp[q]? = some (some (b, cs0)) ∧ cs.length = cs0.length ∧ ∀ i v, cs[i]? = some v →
      (∃ (j : Nat) (A : Addr) (ds n : List Value), (ps.filter AP.isW)[j]? = some (.w A ds) ∧ news[j]? = some n ∧ q = A.block ∧ A.off ≤ i ∧ i < A.off + n.length ∧ n[i - A.off]? = some v) ∨
      (cs0[i]? = some v ∧ ∀ A ds, AP.w A ds ∈ ps → ¬ (q = A.block ∧ A.off ≤ i ∧ i < A.off + ds.length))
  | [], hp, hp', news, h, q, b, cs, hq => by
    cases news with
    | nil => simp only [writes, Option.some.injEq] at h; subst h; exact ⟨cs, hq, rfl, fun i v hi => .inr ⟨hi, fun _ _ h => by simp at h⟩⟩
    | cons _ _ => simp [writes] at h
  | p :: ps, hp, hp', news, h, q, b, cs, hq => by
    have skip : p.isW = false → writes hp ps news = some hp' → ∃ cs0, hp[q]? = some (some (b, cs0)) ∧ cs.length = cs0.length ∧ ∀ i v, cs[i]? = some v →
        (∃ (j : Nat) (A : Addr) (ds n : List Value), ((p :: ps).filter AP.isW)[j]? = some (.w A ds) ∧ news[j]? = some n ∧ q = A.block ∧ A.off ≤ i ∧ i < A.off + n.length ∧ n[i - A.off]? = some v) ∨
        (cs0[i]? = some v ∧ ∀ A ds, AP.w A ds ∈ p :: ps → ¬ (q = A.block ∧ A.off ≤ i ∧ i < A.off + ds.length)) := fun hp0 h' => by
      obtain ⟨cs0, h1, h2, h3⟩ := writes_get ps hp hp' news h' q b cs hq
      refine ⟨cs0, h1, h2, fun i v hi => ?_⟩
      rcases h3 i v hi with h | ⟨h, hn⟩
      · left; rw [List.filter_cons]; simp only [hp0]; exact h
      · right
        refine ⟨h, fun A ds hm => ?_⟩
        rcases List.mem_cons.1 hm with he | hm
        · rw [← he] at hp0; cases hp0
        · exact hn A ds hm
    cases p with
    | v x => exact skip rfl h
    | r A ds => exact skip rfl h
    | s A ds cap => exact skip rfl h
    | w A ds =>
      cases news with
      | nil => simp [writes] at h
      | cons n ns =>
        simp only [writes] at h
        split at h
        case isFalse => cases h
        rename_i hlen
        have hlen' := Nat.eq_of_beq_eq_true hlen
        split at h
        case h_2 => cases h
        rename_i hp1 hw
        obtain ⟨cs1, h1, h2, h3⟩ := writes_get ps hp1 hp' ns h q b cs hq
        obtain ⟨cs0, k1, k2, k3⟩ := wr_get hw h1
        refine ⟨cs0, k1, h2.trans k2, fun i v hi => ?_⟩
        rcases h3 i v hi with ⟨j, B, es, m, a1, a2, a3⟩ | ⟨h, hn⟩
        · left; exact ⟨j + 1, B, es, m, by simpa [List.filter_cons, AP.isW] using a1, by simpa using a2, a3⟩
        · rcases k3 i v h with ⟨e1, e2, e3, e4⟩ | ⟨e1, e2⟩
          · left; exact ⟨0, A, ds, n, by simp [List.filter_cons, AP.isW], rfl, e1, e2, e3, e4⟩
          · right
            refine ⟨e1, fun B es hm => ?_⟩
            rcases List.mem_cons.1 hm with he | hm
            · simp only [AP.w.injEq] at he; obtain ⟨rfl, rfl⟩ := he; rw [← hlen']; exact e2
            · exact hn B es hm

theorem writes_mono : ∀ (ps : List AP) (hp hp' : Hp) (news : List (List Value)), writes hp ps news = some hp' → mono hp hp' ∧ mono hp' hp
  | [], hp, hp', news, h => by
    cases news with
    | nil => simp only [writes, Option.some.injEq] at h; subst h; exact ⟨mono.refl _, mono.refl _⟩
    | cons _ _ => simp [writes] at h
  | .v _ :: ps, hp, hp', news, h => writes_mono ps hp hp' news h
  | .r _ _ :: ps, hp, hp', news, h => writes_mono ps hp hp' news h
  | .s _ _ _ :: ps, hp, hp', news, h => writes_mono ps hp hp' news h
  | .w A ds :: ps, hp, hp', news, h => by
    cases news with
    | nil => simp [writes] at h
    | cons n ns =>
      simp only [writes] at h
      split at h
      case isFalse => cases h
      split at h
      case h_2 => cases h
      rename_i hp1 hw
      obtain ⟨a, b⟩ := writes_mono ps hp1 hp' ns h
      exact ⟨(wr_mono hw).trans a, b.trans (wr_back hw)⟩

/-- The written rows lie in regions that may be written. -/
theorem writes_own : ∀ (ps : List AP) (hp hp' : Hp) (news : List (List Value)), writes hp ps news = some hp' → ∀ A ds, AP.w A ds ∈ ps → ∃ c, hp[A.block]? = some (some (true, c)) ∧ A.off + ds.length ≤ c.length
  | [], _, _, _, _, A, ds, hm => by simp at hm
  | p :: ps, hp, hp', news, h, A, ds, hm => by
    have skip : p.isW = false → writes hp ps news = some hp' → ∃ c, hp[A.block]? = some (some (true, c)) ∧ A.off + ds.length ≤ c.length := fun hp0 h' => by
      rcases List.mem_cons.1 hm with he | hm
      · rw [← he] at hp0; cases hp0
      · exact writes_own ps hp hp' news h' A ds hm
    cases p with
    | v x => exact skip rfl h
    | r B es => exact skip rfl h
    | s B es cap => exact skip rfl h
    | w B es =>
      cases news with
      | nil => simp [writes] at h
      | cons n ns =>
        simp only [writes] at h
        split at h
        case isFalse => cases h
        rename_i hlen
        have hlen' := Nat.eq_of_beq_eq_true hlen
        split at h
        case h_2 => cases h
        rename_i hp1 hw
        rcases List.mem_cons.1 hm with he | hm
        · simp only [AP.w.injEq] at he
          obtain ⟨rfl, rfl⟩ := he
          obtain ⟨c, hc, hle, _⟩ := wr_spec hw
          exact ⟨c, hc, by omega⟩
        · obtain ⟨c, hc, hle⟩ := writes_own ps hp1 hp' ns h A ds hm
          obtain ⟨c0, k1, k2, _⟩ := wr_get hw hc
          exact ⟨c0, k1, by omega⟩

theorem news_get (w' : World) : ∀ (ps : List AP) (news : List (List Value)), News w' ps news → ∀ (j : Nat) A ds n, (ps.filter AP.isW)[j]? = some (.w A ds) → news[j]? = some n → Holds w' A n ∧ n.length = ds.length
  | [], news, h, j, A, ds, n, h1 => by simp at h1
  | .v _ :: ps, news, h, j, A, ds, n, h1 => news_get w' ps news h j A ds n (by simpa [List.filter_cons, AP.isW] using h1)
  | .r _ _ :: ps, news, h, j, A, ds, n, h1 => news_get w' ps news h j A ds n (by simpa [List.filter_cons, AP.isW] using h1)
  | .s _ _ _ :: ps, news, h, j, A, ds, n, h1 => news_get w' ps news h j A ds n (by simpa [List.filter_cons, AP.isW] using h1)
  | .w B es :: ps, news, h, j, A, ds, n, h1 => by
    intro h2
    cases news with
    | nil => exact h.elim
    | cons m ms =>
      obtain ⟨a1, a2, a3⟩ := h
      cases j with
      | zero =>
        simp only [List.filter_cons, AP.isW, if_true, List.getElem?_cons_zero, Option.some.injEq, AP.w.injEq] at h1 h2
        obtain ⟨rfl, rfl⟩ := h1
        subst h2
        exact ⟨a2, a1⟩
      | succ j => exact news_get w' ps ms a3 j A ds n (by simpa [List.filter_cons, AP.isW] using h1) (by simpa using h2)

end
end Vm
end Go.Proofs.YtbbifiogcpcpfaaDoor
