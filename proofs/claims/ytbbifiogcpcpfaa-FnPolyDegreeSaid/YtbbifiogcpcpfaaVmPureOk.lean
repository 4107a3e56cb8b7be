/-
  A small symbolic machine, part 5: the operations that touch no memory: soundness.
-/
import Derived.Test.YtbbifiogcpcpfaaVmPure
namespace Go.Proofs.Ytbbifiogcpcpfaa
namespace Vm

section
variable {P : Program}

theorem plain0_ok {v : Value} (h : plain0 v = true) (hp : Hp) : ok0 hp v ∧ ∀ ρ, ren0 ρ v = v := by
  cases v with
  | pointer a => cases a with
    | none => exact ⟨trivial, fun _ => rfl⟩
    | some a => cases h
  | slice a l c => cases a with
    | none => exact ⟨trivial, fun _ => rfl⟩
    | some a => cases h
  | int k n => simp [plain0] at h; exact ⟨h, fun _ => rfl⟩
  | func f x c => simp [plain0] at h; obtain ⟨rfl, rfl⟩ := h; exact ⟨⟨rfl, rfl⟩, fun _ => rfl⟩
  | bool b => exact ⟨trivial, fun _ => rfl⟩
  | string s => exact ⟨trivial, fun _ => rfl⟩
  | nilFunc => exact ⟨trivial, fun _ => rfl⟩
  | nilIface => exact ⟨trivial, fun _ => rfl⟩
  | _ => cases h

theorem plain_ok {v : Value} (h : plain v = true) (hp : Hp) : ok2 hp v ∧ ∀ ρ, ren ρ v = v := by
  cases v with
  | agg cs =>
    simp only [plain, List.all_eq_true] at h
    refine ⟨fun u hu => (plain0_ok (h u (by simpa using hu)) hp).1, fun ρ => ?_⟩
    simp only [ren, ren1]
    congr 1
    refine (Array.map_congr_left (g := id) fun u hu => (plain0_ok (h u (by simpa using hu)) hp).2 ρ).trans (by simp)
  | tuple vs =>
    simp [plain] at h
    subst h
    exact ⟨fun u hu => by simp at hu, fun ρ => by simp [ren]⟩
  | _ =>
    simp only [plain] at h
    have := plain0_ok h hp
    exact ⟨ok2_of_ok0 this.1, fun ρ => by rw [ren_of_ok0 ρ this.1]; exact this.2 ρ⟩

theorem foldl_splice : ∀ (xs cs : List Value) (off k : Nat), ((xs.zipIdx k).foldl (fun (cs : Array Value) (x : Value × Nat) => cs.setIfInBounds (off + x.2) x.1) cs.toArray) = (splice cs (off + k) xs).toArray
  | [], cs, off, k => by simp [splice_nil]
  | x :: xs, cs, off, k => by
    simp only [List.zipIdx_cons, List.foldl_cons]
    rw [splice_cons]
    have : cs.toArray.setIfInBounds (off + k) x = (cs.set (off + k) x).toArray := by simp
    rw [this, foldl_splice xs _ off (k + 1)]
    simp [Nat.add_assoc]

theorem fill_sound (ρ : Emb) {hp : Hp} (place : Nat → Option (Nat × Nat)) : ∀ (parts : List (Nat × Value)) (cs out : List Value), fillL place cs parts = some out → (∀ x ∈ parts, ok2 hp x.2) →
    Instr.fill place (cs.map (ren0 ρ)).toArray (parts.map fun x => (x.1, ren ρ x.2)) = some (out.map (ren0 ρ)).toArray
  | [], cs, out, h, _ => by simp only [fillL, Option.some.injEq] at h; subst h; rfl
  | (i, v) :: rest, cs, out, h, hok => by
    simp only [fillL] at h
    split at h
    · cases h
    · rename_i off size hpl
      split at h
      · rename_i hc
        simp only [Bool.and_eq_true] at hc
        obtain ⟨⟨hs, h1⟩, h2⟩ := hc
        have h1' : (vcells v).length = size := Nat.eq_of_beq_eq_true h1
        have h2' : off + (vcells v).length ≤ cs.length := Nat.le_of_ble_eq_true h2
        have hv := hok (i, v) (by simp)
        have hcells := cells_ren ρ hv hs
        have hsz : (ren ρ v).cells.size = (vcells v).length := by
          rw [← Array.length_toList, hcells]; simp [vcells]
        simp only [List.map_cons, Instr.fill, hpl, hsz, h1', ne_eq, not_true_eq_false]
        rw [if_neg (by simp; omega)]
        have e1 : (ren ρ v).cells.zipIdx.foldl (fun (cs : Array Value) (x : Value × Nat) => cs.setIfInBounds (off + x.2) x.1) (cs.map (ren0 ρ)).toArray = ((splice cs off (vcells v)).map (ren0 ρ)).toArray := by
          rw [← Array.foldl_toList, Array.toList_zipIdx, hcells, foldl_splice]
          congr 1
          have map_splice : ∀ (vs cs : List Value) (o : Nat), splice (cs.map (ren0 ρ)) o (vs.map (ren0 ρ)) = (splice cs o vs).map (ren0 ρ) := by
            intro vs
            induction vs with
            | nil => intro cs o; simp [splice_nil]
            | cons v vs ih => intro cs o; rw [List.map_cons, splice_cons, splice_cons, ← ih, List.map_set]
          simpa [vcells] using map_splice v.cells.toList cs off
        have ih := fill_sound ρ place rest _ out h (fun x hx => hok x (by simp [hx]))
        rw [← ih]
        congr 1
      · cases h

theorem fillL_ok {hp : Hp} (place : Nat → Option (Nat × Nat)) : ∀ (parts : List (Nat × Value)) (cs out : List Value), fillL place cs parts = some out → (∀ x ∈ parts, ok2 hp x.2) →
    (∀ v ∈ cs, ok0 hp v) → ∀ v ∈ out, ok0 hp v
  | [], cs, out, h, _, hc => by simp only [fillL, Option.some.injEq] at h; subst h; exact hc
  | (i, v) :: rest, cs, out, h, hok, hc => by
    simp only [fillL] at h
    split at h
    · cases h
    · split at h
      · rename_i hcc
        simp only [Bool.and_eq_true] at hcc
        refine fillL_ok place rest _ out h (fun x hx => hok x (by simp [hx])) fun u hu => ?_
        rcases splice_mem _ _ _ _ hu with h | h
        · exact hc u h
        · exact cells_ok (hok (i, v) (by simp)) hcc.1.1 u h
      · cases h

theorem zeroL_spec {t : TypeId} {zs : List Value} (h : zeroL P t = some zs) : ∃ z, storable z = true ∧ vcells z = zs ∧ ∀ w, (zeroValue t).run P w = .ok z w := by
  unfold zeroL at h
  cases hi : P.info? t with
  | none => simp [hi] at h
  | some i =>
    simp only [hi, Option.bind_some] at h
    cases hz : i.zero with
    | none => simp [hz] at h
    | some z =>
      simp only [hz] at h
      split at h
      · rename_i hs
        cases h
        exact ⟨z, hs, rfl, fun w => by simp [zeroValue, typeInfo, hi, hz]⟩
      · cases h

theorem places_run (fs : Array Field) (h : allSz P fs.toList = true) (w : World) :
    ∃ places : Array (Nat × Nat), (fs.mapM fun (f : Field) => (do pure (f.offset, ← sizeOf f.type) : Sem (Nat × Nat))).run P w = .ok places w ∧ ∀ i : Nat, places[i]? = placesS P fs i := by
  have key : ∀ (l : List Field), allSz P l = true → ∃ pl : List (Nat × Nat), (l.mapM fun (f : Field) => (do pure (f.offset, ← sizeOf f.type) : Sem (Nat × Nat))).run P w = .ok pl w ∧
      ∀ i : Nat, pl[i]? = (l[i]?).bind fun f => (szT P f.type).map fun n => (f.offset, n) := by
    intro l
    induction l with
    | nil => intro _; exact ⟨[], rfl, by simp⟩
    | cons f l ih =>
      intro h
      simp only [allSz, Bool.and_eq_true] at h
      obtain ⟨pl, h1, h2⟩ := ih h.2
      cases hs : szT P f.type with
      | none => rw [hs] at h; cases h.1
      | some n =>
        refine ⟨(f.offset, n) :: pl, ?_, fun i => ?_⟩
        · simp only [List.mapM_cons, Sem.run_bind, run_szT hs, Result.andThen_ok, Sem.run_pure, h1]
        · cases i with
          | zero => simp [hs]
          | succ i => simp [h2]
  obtain ⟨pl, h1, h2⟩ := key fs.toList h
  refine ⟨pl.toArray, ?_, fun i => ?_⟩
  · rw [Array.mapM_eq_mapM_toList]
    simp only [Sem.run_map, h1, Result.andThen_ok]
  · simp only [List.getElem?_toArray, h2, Array.getElem?_toList, placesS]
    cases fs[i]? with
    | none => rfl
    | some f => simp only [Option.bind_some]; cases szT P f.type <;> rfl

theorem build_sound {t : TypeId} {parts : List (Nat × Value)} {v : Value} (h : buildSem P t parts = some v) {hp : Hp} (hok : ∀ x ∈ parts, ok2 hp x.2) :
    ok2 hp v ∧ ∀ ρ w, (Instr.build t (parts.map fun x => (x.1, ren ρ x.2)).toArray).run P w = .ok (ren ρ v) w := by
  unfold buildSem at h
  split at h
  · cases h
  · rename_i zs hz
    obtain ⟨z, hst, hcz, hrun⟩ := zeroL_spec hz
    split at h
    case isFalse => cases h
    rename_i hall
    simp only [List.all_eq_true] at hall
    have hzok : ∀ u ∈ zs, ok0 hp u := fun u hu => (plain0_ok (hall u hu) hp).1
    have hzr : ∀ ρ, zs.map (ren0 ρ) = zs := fun ρ => (List.map_congr_left (g := id) fun u hu => (plain0_ok (hall u hu) hp).2 ρ).trans (by simp)
    have hza : z.cells = zs.toArray := by rw [← hcz]; simp [vcells]
    split at h
    · rename_i fs hu
      split at h
      case isFalse => cases h
      rename_i hsz
      split at h
      · rename_i cs hf
        cases h
        have hout := fillL_ok _ _ _ _ hf hok hzok
        refine ⟨fun u hu => hout u (by simpa using hu), fun ρ w => ?_⟩
        obtain ⟨places, hp1, hp2⟩ := places_run fs hsz w
        have := fill_sound ρ _ _ _ _ hf hok
        rw [hzr] at this
        simp only [Instr.build, Sem.run_bind, hrun, Result.andThen_ok, run_underlying hu, hp1, hza]
        rw [show (fun (x : Nat) => places[x]?) = placesS P fs from funext hp2, this]
        simp [ren, ren1]
      · cases h
    · rename_i n e hu
      split at h
      · rename_i m hsz
        split at h
        · rename_i cs hf
          cases h
          have hout := fillL_ok _ _ _ _ hf hok hzok
          refine ⟨fun u hu => hout u (by simpa using hu), fun ρ w => ?_⟩
          have := fill_sound ρ _ _ _ _ hf hok
          rw [hzr] at this
          simp only [Instr.build, Sem.run_bind, hrun, Result.andThen_ok, run_underlying hu, run_szT hsz, hza]
          rw [this]
          simp [ren, ren1]
        · cases h
      · cases h
    · cases h

theorem isInt_ren {xs : List Value} (h : xs.all isInt = true) (ρ : Emb) : xs.map (ren0 ρ) = xs := by
  simp only [List.all_eq_true] at h
  refine (List.map_congr_left (g := id) fun u hu => ?_).trans (by simp)
  have := h u hu
  cases u <;> first | rfl | cases this

theorem run_equalIn_ptr_nil (w : World) (d : Nat) (t e : TypeId) (a : Option Addr) (h : P.underlying t = some (.pointer e)) : (Op.equalIn (d + 1) t (.pointer a) (.pointer none)).run P w = .ok a.isNone w := by
  cases a <;> simp [Op.equalIn, run_underlying h]
theorem bin_sound {op : BinOp} {t : TypeId} {a b : Value} {v : Value} (h : binSem P op t a b = some v) {hp : Hp} (ha : ok2 hp a) :
    ok2 hp v ∧ ∀ (ρ : Emb) (w : World) (x y : Operand), ((do eqGuard op t x y (ren ρ a) (ren ρ b); binOp op t (ren ρ a) (ren ρ b)) : Sem Value).run P w = .ok (ren ρ v) w := by
  unfold binSem at h
  split at h
  · rename_i k n k' m
    obtain ⟨h1, h2, h3⟩ := binInt_sound (t := t) h hp ha
    refine ⟨ok2_of_ok0 h1, fun ρ w x y => ?_⟩
    rw [ren_of_ok0 ρ h1, h2]
    have e : (eqGuard op t x y (.int k n) (.int k' m)).run P w = .ok () w := by
      unfold eqGuard; cases op <;> simp
    show ((eqGuard op t x y (.int k n) (.int k' m)) >>= fun _ => binOp op t (.int k n) (.int k' m)).run P w = _
    simp only [Sem.run_bind, e, Result.andThen_ok, h3]
  · rename_i c d
    split at h
    · rename_i hu
      have e0 : ∀ w, (Op.equal t (.bool c) (.bool d)).run P w = .ok (c == d) w := fun w => run_equalIn_bool w 9999 t c d hu
      have eg : ∀ w x y, (eqGuard op t x y (.bool c) (.bool d)).run P w = .ok () w := fun w x y => by
        unfold eqGuard; cases op <;> simp
      split at h <;> cases h
      · refine ⟨trivial, fun ρ w x y => ?_⟩
        show ((eqGuard .eql t x y (.bool c) (.bool d)) >>= fun _ => (do pure (.bool (← Op.equal t (.bool c) (.bool d))) : Sem Value)).run P w = _
        simp only [Sem.run_bind, eg, Result.andThen_ok, e0, Sem.run_pure]
        rfl
      · refine ⟨trivial, fun ρ w x y => ?_⟩
        show ((eqGuard .neq t x y (.bool c) (.bool d)) >>= fun _ => (do pure (.bool (!(← Op.equal t (.bool c) (.bool d)))) : Sem Value)).run P w = _
        simp only [Sem.run_bind, eg, Result.andThen_ok, e0, Sem.run_pure]
        rfl
    · cases h
  · rename_i xs ys
    split at h
    case isFalse => cases h
    rename_i hc
    simp only [Bool.and_eq_true, Bool.not_eq_true'] at hc
    obtain ⟨⟨hx, hy⟩, hg⟩ := hc
    split at h
    case h_2 => cases h
    rename_i hag
    split at h
    case h_2 => cases h
    rename_i r hr
    have hrun : ∀ w, (Op.equalIn 10000 t (.agg xs) (.agg ys)).run P w = .ok r w := fun w =>
      eqSem_sound P 10000 t _ _ r hr _ _ (.inl ⟨hag, by simp⟩) (.inl ⟨hag, by simp⟩) w
    have rx : ∀ ρ, ren ρ (.agg xs) = .agg xs := fun ρ => by
      simp only [ren, ren1]; congr 1; apply Array.ext'; rw [Array.toList_map]; exact isInt_ren hx ρ
    have ry : ∀ ρ, ren ρ (.agg ys) = .agg ys := fun ρ => by
      simp only [ren, ren1]; congr 1; apply Array.ext'; rw [Array.toList_map]; exact isInt_ren hy ρ
    split at h <;> cases h
    · refine ⟨trivial, fun ρ w x y => ?_⟩
      rw [rx, ry]
      simp only [Sem.run_bind, run_eqGuard_agg w _ t x y xs ys hg, Result.andThen_ok, run_eql_struct, hrun]
      rfl
    · refine ⟨trivial, fun ρ w x y => ?_⟩
      rw [rx, ry]
      simp only [Sem.run_bind, run_eqGuard_agg w _ t x y xs ys hg, Result.andThen_ok, run_neq_struct, hrun]
      rfl
  · rename_i a l c l' c'
    split at h
    · rename_i e hu
      have er : ∀ ρ, ∃ a', ren ρ (.slice a l c) = .slice a' l c ∧ a'.isNone = a.isNone := fun ρ => by
        cases a
        · exact ⟨none, rfl, rfl⟩
        · exact ⟨some _, rfl, rfl⟩
      have e0 : ∀ a' w, (Op.equal t (.slice a' l c) (.slice none l' c')).run P w = .ok a'.isNone w := fun a' w =>
        Lib.run_equalIn_slice_nil w 9999 t e a' l c l' c' hu
      have eg : ∀ a' w x y, (eqGuard op t x y (.slice a' l c) (.slice none l' c')).run P w = .ok () w := fun a' w x y => by
        unfold eqGuard; cases op <;> simp
      split at h <;> cases h
      · refine ⟨trivial, fun ρ w x y => ?_⟩
        obtain ⟨a', e1, e2⟩ := er ρ
        rw [e1, ← e2]
        have hb : binOp .eql t (.slice a' l c) (.slice none l' c') = (do pure (.bool (← Op.equal t (.slice a' l c) (.slice none l' c'))) : Sem Value) := rfl
        show ((eqGuard .eql t x y (.slice a' l c) (.slice none l' c')) >>= fun _ => binOp .eql t (.slice a' l c) (.slice none l' c')).run P w = _
        simp only [Sem.run_bind, eg, Result.andThen_ok, hb, e0, Sem.run_pure]
        rfl
      · refine ⟨trivial, fun ρ w x y => ?_⟩
        obtain ⟨a', e1, e2⟩ := er ρ
        rw [e1, ← e2]
        have hb : binOp .neq t (.slice a' l c) (.slice none l' c') = (do pure (.bool (!(← Op.equal t (.slice a' l c) (.slice none l' c')))) : Sem Value) := rfl
        show ((eqGuard .neq t x y (.slice a' l c) (.slice none l' c')) >>= fun _ => binOp .neq t (.slice a' l c) (.slice none l' c')).run P w = _
        simp only [Sem.run_bind, eg, Result.andThen_ok, hb, e0, Sem.run_pure]
        rfl
    · cases h
  · rename_i a
    split at h
    · rename_i e hu
      have er : ∀ ρ, ∃ a', ren ρ (.pointer a) = .pointer a' ∧ a'.isNone = a.isNone := fun ρ => by
        cases a
        · exact ⟨none, rfl, rfl⟩
        · exact ⟨some _, rfl, rfl⟩
      have e0 : ∀ a' w, (Op.equal t (.pointer a') (.pointer none)).run P w = .ok a'.isNone w := fun a' w => by
        exact run_equalIn_ptr_nil w 9999 t e a' hu
      have eg : ∀ a' w x y, (eqGuard op t x y (.pointer a') (.pointer none)).run P w = .ok () w := fun a' w x y => by
        unfold eqGuard; cases op <;> simp
      split at h <;> cases h
      · refine ⟨trivial, fun ρ w x y => ?_⟩
        obtain ⟨a', e1, e2⟩ := er ρ
        rw [e1, ← e2]
        have hb : binOp .eql t (.pointer a') (.pointer none) = (do pure (.bool (← Op.equal t (.pointer a') (.pointer none))) : Sem Value) := rfl
        show ((eqGuard .eql t x y (.pointer a') (.pointer none)) >>= fun _ => binOp .eql t (.pointer a') (.pointer none)).run P w = _
        simp only [Sem.run_bind, eg, Result.andThen_ok, hb, e0, Sem.run_pure]
        rfl
      · refine ⟨trivial, fun ρ w x y => ?_⟩
        obtain ⟨a', e1, e2⟩ := er ρ
        rw [e1, ← e2]
        have hb : binOp .neq t (.pointer a') (.pointer none) = (do pure (.bool (!(← Op.equal t (.pointer a') (.pointer none)))) : Sem Value) := rfl
        show ((eqGuard .neq t x y (.pointer a') (.pointer none)) >>= fun _ => binOp .neq t (.pointer a') (.pointer none)).run P w = _
        simp only [Sem.run_bind, eg, Result.andThen_ok, hb, e0, Sem.run_pure]
        rfl
    · cases h
  · cases h

end
end Vm
end Go.Proofs.Ytbbifiogcpcpfaa
