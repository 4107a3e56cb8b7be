/-
  A small symbolic machine, part 24: a row of no numbers made; operations met under a guard.
-/
import Derived.Test.YtbbifiogcpcpfaaVmCal
namespace Go.Proofs.Ytbbifiogcpcpfaa
namespace Vm
section
variable {P : Program} {w0 w w' : World} {W : Nat → Nat → Prop} {ρ : Emb} {σ : VS} {a : Act}

theorem run_build0 {t el : TypeId} {size : Nat} (hu : P.underlying t = some (.slice el)) (hs : szT P el = some size) (w : World) :
    (Instr.buildSlice t 0 #[]).run P w = .ok (.slice (some ⟨w.heap.size, 0, none⟩) 0 0) (w.alloc (.cells #[] el)) := by
  simp [Instr.buildSlice, run_underlying hu, run_szT hs, Instr.fill, newRow]
  have e : Array.map (fun _ : Nat => (default : Value)) (Array.range 0) = #[] := by apply Array.ext'; simp
  rw [e]

theorem rsim_new0 (h : RSim w0 W ρ σ a w) {d : Nat} (hd : σ.hp[d]? = some none) (dst : Option Tmp) (el : TypeId) :
    RSim w0 W (upd ρ d (w.heap.size, 0)) ⟨putT σ.tm dst (.slice (some ⟨d, 0, none⟩) 0 0), σ.hp.set d (some (true, [])), σ.vc, σ.bs⟩ (a.put dst (.slice (some ⟨w.heap.size, 0, none⟩) 0 0)) (w.alloc (.cells #[] el)) := by
  have hag := agree_upd ρ (w.heap.size, 0) (not_pres hd)
  have hI := h.inv.new h.ok.hp hd [] (fun v hv => by simp at hv) el
  refine ⟨⟨fun u hu => ?_, okH_new h.ok.hp hd fun v hv => by simp at hv⟩, ?_, hI⟩
  · rcases putT_mem hu with hu | rfl
    · exact (h.ok.tm u hu).mono mono_set
    · exact ok_slc_new hd
  · have := (h.tm.agree hag h.ok.tm).put dst (.slice (some ⟨d, 0, none⟩) 0 0)
    rw [ren_slc_new] at this
    exact this

/-- A row of no numbers, from form to form. -/
theorem tril_build0 {ops : Array Oper} {rest : List Oper} {o : Oper} {t el : TypeId} {size : Nat} {τ : TS} {K : TS → Prop} {dst d h' m : Nat} {live : List (Nat × Value)} {ks : Kept} {loc : List (Nat × Nat × Nat)}
    (ho : o.op = .buildSlice t 0 #[]) (hdst : o.dst = some dst) (hw : ∀ g, wantedS ops o (fillT g 0 τ.tm) = true) (hu : P.underlying t = some (.slice el)) (hsz : szT P el = some size) (hd : τ.hp[d]? = some none) (hnt : dst < τ.tm.length)
    (hlive : ∀ p ∈ live, p.1 ≠ dst ∧ ∃ u, (∀ g, (fillT g 0 τ.tm)[p.1]? = some u) ∧ ren (piOf m ((d, h', false) :: keepOf ks)) u = p.2)
    (hks : ∀ k ∈ ks, τ.hp[k.1]? = some (some k.2.2.2) ∧ (k.2.2.1 = false → Flat k.2.2.2.2) ∧ k.1 ≠ d) (hk : keepOK m ((d, h', false) :: keepOf ks) = true)
    (hloc : ∀ q b o, (q, b, o) ∈ loc → ∃ r f, (r, q, f) ∈ keepOf ks ∧ (r, b, o) ∈ τ.loc)
    (hK : TriL P ops rest ⟨mkT τ.tm.length ((dst, .slice (some ⟨h', 0, none⟩) 0 0) :: live), mkT m ((h', true, []) :: rgOf m ((d, h', false) :: keepOf ks) ks), loc⟩ K) : TriL P ops (o :: rest) τ K := by
  rintro w0 W a w ⟨g, T, ρ, hs, hl⟩ Q hQ
  have hwt : Region.wanted o (yielded ops a.tmps) = true := by rw [hs.tm.wanted]; exact hw g
  unfold wpList
  rw [if_pos hwt]
  refine .inl ?_
  have hex : (execOp a.eval o).run P w = .ok (.value (.slice (some ⟨w.heap.size, 0, none⟩) 0 0)) (w.alloc (.cells #[] el)) := by
    unfold execOp
    rw [ho]
    have := run_build0 (P := P) hu hsz w
    simp only [Sem.run_bind, Sem.run_pure, Array.map_empty, this, Result.andThen_ok]
  unfold Oper.wp
  rw [hex]
  have hg := rsim_new0 hs (get_append hd) o.dst el
  refine hK w0 W _ _ ?_ Q hQ
  have hform := form_of (m := m) (ks := (d, h', false, true, []) :: ks) (sl := (dst, .slice (some ⟨h', 0, none⟩) 0 0) :: live) (loc := loc) hg rfl hk ?_ ?_ ?_
  · rw [hdst] at hform
    have hlen : (putT (τ.fill g T).tm (some dst) (.slice (some ⟨d, 0, none⟩) 0 0)).length = τ.tm.length := by simp [putT, TS.fill, fillT_length]
    simp only at hform
    rw [hlen] at hform
    rw [hdst]
    exact hform
  · intro p hp
    rw [hdst]
    rcases List.mem_cons.1 hp with rfl | hp
    · refine ⟨.slice (some ⟨d, 0, none⟩) 0 0, ?_, ?_⟩
      · simp only [putT]
        rw [List.getElem?_set_self (by simp [TS.fill, fillT_length, hnt])]
      · simp [ren, ren1, ren0, rena, piOf, look2]
    · obtain ⟨h8, u, h9, h10⟩ := hlive p hp
      refine ⟨u, ?_, h10⟩
      simp only [putT]
      rw [List.getElem?_set_ne (Ne.symm h8)]
      exact h9 g
  · intro k hkm
    rcases List.mem_cons.1 hkm with rfl | hkm
    · exact ⟨get_set_same (get_append hd), fun _ v hv => by simp at hv⟩
    · obtain ⟨h8, h9, h10⟩ := hks k hkm
      exact ⟨by rw [get_set_other h10]; exact get_append h8, h9⟩
  · intro q b' o'' hq
    obtain ⟨r', f', h8, h9⟩ := hloc q b' o'' hq
    obtain ⟨h11, h12⟩ := hl _ _ _ h9
    have hne : r' ≠ d := fun e => by subst e; obtain ⟨y, hy⟩ := h12; rw [hd] at hy; cases hy
    exact ⟨r', f', List.mem_cons_of_mem _ h8, by rw [upd_other ρ _ hne, h11]⟩
end

/-- The operation in a place, with its guard. -/
def opG (ops : Array Oper) (i : Nat) : Option (Option (Nat × Bool) × Option Tmp × Op) := match ops[i]? with
  | some o => some (o.guard, o.dst, o.op)
  | none => none
theorem ops_dropG {ops : Array Oper} {k : Nat} {gd : Option (Nat × Bool)} {d : Option Tmp} {op : Op} (h : opG ops k = some (gd, d, op)) : ∃ o : Oper, o.guard = gd ∧ o.dst = d ∧ o.op = op ∧ ops.toList.drop k = o :: ops.toList.drop (k + 1) := by
  unfold opG at h
  split at h
  case h_2 => cases h
  rename_i o ho
  simp only [Option.some.injEq, Prod.mk.injEq] at h
  refine ⟨o, h.1, h.2.1, h.2.2, ?_⟩
  obtain ⟨hk, he⟩ := Array.getElem?_eq_some_iff.1 ho
  have hk' : k < ops.toList.length := by simpa using hk
  rw [List.drop_eq_getElem_cons hk']
  congr 1
theorem ops_drop {ops : Array Oper} {k : Nat} {d : Option Tmp} {op : Op} (h : opAt ops k = some (d, op)) : ∃ o : Oper, o.guard = none ∧ o.dst = d ∧ o.op = op ∧ ops.toList.drop k = o :: ops.toList.drop (k + 1) := by
  unfold opAt at h
  split at h
  case h_2 => cases h
  rename_i o ho
  split at h
  case h_2 => cases h
  rename_i hg
  simp only [Option.some.injEq, Prod.mk.injEq] at h
  refine ⟨o, hg, h.1, h.2, ?_⟩
  obtain ⟨hk, he⟩ := Array.getElem?_eq_some_iff.1 ho
  have hk' : k < ops.toList.length := by simpa using hk
  rw [List.drop_eq_getElem_cons hk']
  congr 1

/-- A stretch of operations ahead of the rest. -/
theorem ops_part (l : List Oper) (i k j : Nat) (h : i + k = j) : l.drop i = (l.drop i).take k ++ l.drop j := by
  subst h
  rw [← List.drop_drop, List.take_append_drop]
theorem wanted_of {ops : Array Oper} {o : Oper} {j : Nat} {b : Bool} {tm : List Value} (hg : o.guard = some (j, b)) (h : guardB ops tm j = some b) : wantedS ops o tm = true := by
  unfold wantedS
  rw [hg]
  simp [h]
end Vm
end Go.Proofs.Ytbbifiogcpcpfaa
