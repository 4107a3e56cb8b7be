/-
  A small symbolic machine, part 22: operations of a region one by one, from form to form; the builtin append on a row that the call itself has made.
-/
import Derived.Test.YtbbifiogcpcpfaaDoorList
import Derived.Laws.AppendOwn
namespace Go.Proofs.YtbbifiogcpcpfaaDoor
namespace Vm

/-- Operations, one after the other, from form τ. -/
def TriL (P : Program) (ops : Array Oper) (l : List Oper) (τ : TS) (K : TS → Prop) : Prop :=
  ∀ w0 W a w, TSim w0 W τ a w → ∀ (Q : Exit → Act → World → Prop), (∀ τ' a' w', K τ' → TSim w0 W τ' a' w' → Q .normal a' w') → wpList P ops Q l a w

section
variable {P : Program} {E : Env}

theorem runL_rest (hE : EnvOK P E) {ops : Array Oper} (rest : List Oper) : ∀ (l : List Oper) (σ σ' : VS), runL P E ops l σ = some σ' → OkS σ → AlP E σ.hp → (∀ o ∈ l, ∀ cs b, o.op ≠ .select cs b) →
    OkS σ' ∧ (σ'.vc → σ.vc) ∧ mono σ.hp σ'.hp ∧ ∀ w0 W ρ a w, SimA ρ σ.tm a → Inv w0 W ρ σ.hp w → AlOK E ρ → σ'.vc → ∀ (Q : Exit → Act → World → Prop),
      (∀ ρ' a' w', Agree σ.hp ρ ρ' → SimA ρ' σ'.tm a' → Inv w0 W ρ' σ'.hp w' → wpList P ops Q rest a' w') → wpList P ops Q (l ++ rest) a w
  | [], σ, σ', h, hok, _, _ => by
    cases h
    exact ⟨hok, id, mono.refl _, fun w0 W ρ a w hA hI _ _ Q hn => hn ρ a w (Agree.refl _ _) hA hI⟩
  | o :: l, σ, σ', h, hok, hal, hsel => by
    simp only [runL] at h
    split at h
    · rename_i σ1 h1
      obtain ⟨hok1, hvc1, hm1, hs1⟩ := step1_sound hE h1 hok hal (hsel o (by simp))
      obtain ⟨hok2, hvc2, hm2, hs2⟩ := runL_rest hE rest l σ1 σ' h hok1 (hal.mono hm1) (fun o ho => hsel o (by simp [ho]))
      refine ⟨hok2, fun h => hvc1 (hvc2 h), hm1.trans hm2, fun w0 W ρ a w hA hI hAl hvc Q hn => ?_⟩
      have := hs1 w0 W ρ a w hA hI hAl (hvc2 hvc) (wpList P ops Q (l ++ rest)) Q fun ρ' a' w' hag hA' hI' =>
        hs2 w0 W ρ' a' w' hA' hI' (hAl.agree hal hag) hvc Q fun ρ2 a2 w2 hag2 hA2 hI2 => hn ρ2 a2 w2 (hag.trans hm1 hag2) hA2 hI2
      rw [List.cons_append]
      unfold wpList
      split
      · rename_i hw; rw [if_pos hw] at this; exact .inl this
      · rename_i hw; rw [if_neg hw] at this; exact this
    · cases h

/-- A run of operations whose state is brought into form. -/
def runLV (P : Program) (E : Env) (ops : Array Oper) (l : List Oper) (σ : VS) (nt m : Nat) (keep : Keep) (L : List Nat) : Option View :=
  match l.all noSel with
  | true => (match runL P E ops l σ with
    | some σ' => (match Nat.beq σ'.tm.length nt with
      | true => viewK m keep L .normal σ'
      | false => none)
    | none => none)
  | false => none
theorem tril_run (hE : EnvOK P E) {nt m : Nat} {ops : Array Oper} {l rest : List Oper} {τ : TS} {keep : Keep} {L : List Nat} {V : View} {loc : List (Nat × Nat × Nat)} {K : TS → Prop}
    (hrun : ∀ g T, runLV P E ops l (τ.fill g T) nt m keep L = some V) (hk : keepOK m keep = true) (hvc : V.vc) (hal : AlT E τ) (hflat : flatK keep V.rg) (hloc : LocK keep τ.loc loc)
    (hK : TriL P ops rest ⟨mkT nt V.sl, mkT m V.rg, loc⟩ K) : TriL P ops (l ++ rest) τ K := by
  intro w0 W a w ⟨g, T, ρ, hs, hl⟩ Q hQ
  obtain ⟨al1, al2⟩ := fill_al hal hl g T
  have hr := hrun g T
  unfold runLV at hr
  split at hr
  case h_2 => cases hr
  rename_i hsel
  split at hr
  case h_2 => cases hr
  rename_i σ' hv
  split at hr
  case h_2 => cases hr
  rename_i hnt
  have hnt' := Nat.eq_of_beq_eq_true hnt
  have hsel' : ∀ o ∈ l, ∀ cs b, o.op ≠ .select cs b := by
    intro o ho cs b hc
    have := List.all_eq_true.1 hsel o ho
    simp [noSel, hc] at this
  obtain ⟨c1, c2, c3, c4⟩ := runL_rest hE rest l _ σ' hv hs.ok al1 hsel'
  have hV := hr
  unfold viewK at hV
  split at hV
  case h_2 => cases hV
  rename_i rs hrs
  split at hV
  case h_2 => cases hV
  cases hV
  refine c4 w0 W ρ a w hs.tm hs.inv al2 hvc Q fun ρ' a' w' hag hA hI => ?_
  have := view_sound (loc := loc) ⟨c1, hA, hI⟩ hk hr (flatK_spec _ _ hrs hflat) fun q b o hq => by
    obtain ⟨r, f, h1, h2⟩ := hloc q b o hq
    obtain ⟨h3, h4⟩ := hl r b o h2
    exact ⟨r, f, h1, by rw [hag r (pres_append h4), h3]⟩
  rw [hnt'] at this
  exact hK w0 W a' w' this Q hQ
theorem tril_nil {ops : Array Oper} {τ : TS} {K : TS → Prop} (h : K τ) : TriL P ops [] τ K := fun _ _ a w hs _ hQ => hQ τ a w h hs
theorem tri_region {id : Nat} {ops : Array Oper} {τ : TS} {K : Xt → TS → Prop} (h : TriL P ops ops.toList τ fun τ' => K .normal τ') : Tri P (.region id ops false) τ K :=
  fun w0 W a w hs Q hQ => wp_region_list (h w0 W a w hs Q fun τ' a' w' hk ht => hQ .normal τ' a' w' hk ht)

/-! ### append -/
/-- A row that may be appended to: nil, or a region of the call's own with all that it has room for. -/
structure Old (hp : Hp) (v : Value) (h n : Nat) (xs sp : List Value) : Prop where
  or : (v = .slice none 0 0 ∧ n = 0 ∧ xs = []) ∨ ∃ cap, v = .slice (some ⟨h, 0, none⟩) n cap ∧ hp[h]? = some (some (true, xs ++ sp)) ∧ xs.length = n * 4 ∧ (xs ++ sp).length = cap * 4 ∧ n ≤ cap

theorem add_none (b o j : Nat) : (⟨b, o, none⟩ : Addr).add j = ⟨b, o + j, none⟩ := add_plain b o j

/-- What is so behind an append: its value leads to a region d of its own. -/
structure Apd (w0 : World) (W : Nat → Nat → Prop) (ρ : Emb) (σ : VS) (dst : Option Tmp) (h d n : Nat) (cs : List Value) (a : Act) (w : World) : Prop where
  ex : ∃ ρ' σ' d' cap sp, RSim w0 W ρ' σ' a w ∧ Agree σ.hp ρ ρ' ∧ (d' = h ∨ d' = d) ∧ σ'.tm = putT σ.tm dst (.slice (some ⟨d', 0, none⟩) n cap) ∧ σ'.hp[d']? = some (some (true, cs ++ sp)) ∧ (cs ++ sp).length = cap * 4 ∧ n ≤ cap ∧ Flat sp ∧
    (∀ r, r ≠ h → r ≠ d → σ'.hp[r]? = σ.hp[r]?) ∧ σ'.bs = σ.bs

theorem append_wp {o : Oper} {s x : Operand} {t e : TypeId} {i : TypeInfo} {z : Value} (ho : o.op = .call { callee := .builtin .append, args := #[s, x], argTypes := #[t, t] })
    (ht : P.underlying t = some (.slice e)) (hi : P.info? e = some i) (hz : i.zero = some z) (hsize : i.size = 4) (hby : i.bytes = 32) (hzs : z.cells.size = 4) (hzp : ∀ v ∈ z.cells, plain0 v = true)
    {w0 w : World} {W : Nat → Nat → Prop} {ρ : Emb} {σ : VS} {a : Act} {v : Value} {h d n q oq mm c : Nat} {xs sp news : List Value}
    (hs : RSim w0 W ρ σ a w) (os : opdOK s = true) (ox : opdOK x = true) (es : evS σ.tm s = v) (ex : evS σ.tm x = .slice (some ⟨q, oq, none⟩) mm c) (hold : Old σ.hp v h n xs sp)
    (hn : rd σ.hp q oq (mm * 4) = some news) (fx : Flat xs) (fs : Flat sp) (fn : Flat news) (hd : σ.hp[d]? = some none) (hm : 0 < mm) (hb : n + mm ≤ 4398046511104)
    {K : Act → World → Prop} {Q : Exit → Act → World → Prop} (hK : ∀ a' w', Apd w0 W ρ σ o.dst h d (n + mm) (xs ++ news) a' w' → K a' w') : o.wp P a w K Q := by
  have hlen : news.length = mm * 4 := rd_length hn
  have hcell : ∀ j u, news[j]? = some u → w.cell? ((⟨(ρ q).1, (ρ q).2 + oq, none⟩ : Addr).add j) = some u := by
    intro j u hj
    rw [add_none]
    obtain ⟨b, cs, h1, h2, rfl⟩ := rd_spec hn
    have hjn : j < mm * 4 := by
      rcases Nat.lt_or_ge j (mm * 4) with h' | h'
      · exact h'
      · rw [List.getElem?_eq_none (by rw [hlen]; exact h')] at hj; cases hj
    have hj' := hj
    rw [List.getElem?_take_of_lt hjn, List.getElem?_drop] at hj'
    have := hs.inv.cell q b cs h1 (oq + j) u hj'
    rw [fn u (List.mem_of_getElem? hj), ← Nat.add_assoc] at this
    exact this
  have hone : ∀ u ∈ news, u.oneCell' = true := by
    intro u hu
    have := ren0_oneCell (fun _ => (0, 0)) (rd_ok hs.ok.hp hn u hu)
    rwa [fn u hu] at this
  have es' : a.eval s = ren ρ v := by rw [hs.tm.eval σ.hp os, es]
  have ex' : a.eval x = .slice (some ⟨(ρ q).1, (ρ q).2 + oq, none⟩) mm c := by rw [hs.tm.eval σ.hp ox, ex]; rfl
  have okn : ∀ u ∈ news, ok0 σ.hp u := rd_ok hs.ok.hp hn
  -- a new row
  have grow : ∀ (olds : List Value) (cap' : Nat) (rest : List Value), Flat olds → (∀ u ∈ olds, ok0 σ.hp u) → (∀ u ∈ rest, plain0 u = true) → (olds ++ news ++ rest).length = cap' * 4 → n + mm ≤ cap' → olds = xs →
      (Builtin.append_ #[t, t] o.type #[ren ρ v, .slice (some ⟨(ρ q).1, (ρ q).2 + oq, none⟩) mm c]).run P w = .ok (.slice (some ⟨w.heap.size, 0, none⟩) (n + mm) cap') (w.drew.alloc (.cells (olds ++ news ++ rest).toArray e)) → o.wp P a w K Q := by
    intro olds cap' rest fo oko hr hl hcap he hrun
    subst he
    have frest : Flat rest := fun u hu π => (plain0_ok (hr u hu) []).2 π
    have hcs : ∀ u ∈ olds ++ news ++ rest, ok0 σ.hp u := by
      intro u hu
      simp only [List.mem_append] at hu
      rcases hu with (hu | hu) | hu
      · exact oko u hu
      · exact okn u hu
      · exact (plain0_ok (hr u hu) _).1
    have fall : Flat (olds ++ news ++ rest) := by
      intro u hu
      simp only [List.mem_append] at hu
      rcases hu with (hu | hu) | hu
      · exact fo u hu
      · exact fn u hu
      · exact frest u hu
    have hmap : (olds ++ news ++ rest).map (ren0 ρ) = olds ++ news ++ rest := (List.map_congr_left (g := id) fun u hu => fall u hu ρ).trans (by simp)
    have hI := hs.inv.drew.new hs.ok.hp hd (olds ++ news ++ rest) hcs e
    rw [hmap] at hI
    have hag := agree_upd ρ (w.drew.heap.size, 0) (not_pres hd)
    unfold Oper.wp execOp
    simp only [ho, resolve, invoke, builtin, Sem.run_bind, Sem.run_pure, Result.andThen_ok, List.map_toArray, List.map_cons, List.map_nil, es', ex', hrun]
    refine hK _ _ ⟨upd ρ d (w.drew.heap.size, 0), ⟨putT σ.tm o.dst (.slice (some ⟨d, 0, none⟩) (n + mm) cap'), σ.hp.set d (some (true, olds ++ news ++ rest)), σ.vc, σ.bs⟩, d, cap', rest, ⟨⟨fun u hu => ?_, okH_new hs.ok.hp hd hcs⟩, ?_, hI⟩, hag, .inr rfl, rfl, get_set_same hd, by simpa using hl, hcap, frest, fun r _ hr => get_set_other hr, rfl⟩
    · rcases putT_mem hu with hu | rfl
      · exact (hs.ok.tm u hu).mono mono_set
      · exact ok_slc_new hd
    · have := (hs.tm.agree hag hs.ok.tm).put o.dst (.slice (some ⟨d, 0, none⟩) (n + mm) cap')
      rw [ren_slc_new] at this
      exact this
  have zer : ∀ k, ∀ u ∈ (Builtin.zeroCells z.cells k).toList, plain0 u = true := by
    intro k u hu
    simp only [Builtin.zeroCells, Array.toList_map, List.mem_map] at hu
    obtain ⟨j, _, rfl⟩ := hu
    have : j % z.cells.size < z.cells.size := Nat.mod_lt _ (by omega)
    rw [getElem!_pos z.cells (j % z.cells.size) this]
    exact hzp _ (Array.getElem_mem this)
  rcases hold.or with ⟨rfl, rfl, rfl⟩ | ⟨cap, rfl, hh, hxl, hcl, hnc⟩
  · have hrun := run_append_nil (P := P) w t o.type e i z ht hi hz ⟨(ρ q).1, (ρ q).2 + oq, none⟩ mm c news (by rw [hsize]; exact hlen) hcell hm (by omega) (by rw [hby]; omega)
    have hge := grownCap_ge w mm 0 e
    refine grow [] (grownCap w mm 0 e) (Builtin.zeroCells z.cells (grownCap w mm 0 e - mm)).toList (fun u hu => by simp at hu) (fun u hu => by simp at hu) (zer _) ?_ (by simpa using hge) rfl ?_
    · simp only [List.nil_append, List.length_append, hlen, Array.length_toList, size_zeroCells, hzs, ← Nat.add_mul]
      congr 1; omega
    · rw [Nat.zero_add]
      have e1 : news.toArray ++ Builtin.zeroCells z.cells (grownCap w mm 0 e - mm) = ([] ++ news ++ (Builtin.zeroCells z.cells (grownCap w mm 0 e - mm)).toList).toArray := by
        apply Array.ext'; simp
      rw [← e1]
      exact hrun
  · have evv : ren ρ (.slice (some ⟨h, 0, none⟩) n cap) = .slice (some ⟨(ρ h).1, (ρ h).2, none⟩) n cap := by simp [ren, ren1, ren0, rena]
    have hokxs : ∀ u ∈ xs, ok0 σ.hp u := fun u hu => hs.ok.hp h _ _ hh u (by simp [hu])
    have holds : ∀ j u, xs[j]? = some u → w.cell? ((⟨(ρ h).1, (ρ h).2, none⟩ : Addr).add j) = some u := by
      intro j u hj
      rw [add_none]
      have hjl : j < xs.length := by
        rcases Nat.lt_or_ge j xs.length with h' | h'
        · exact h'
        · rw [List.getElem?_eq_none h'] at hj; cases hj
      have := hs.inv.cell h _ _ hh j u (by rw [List.getElem?_append_left hjl]; exact hj)
      rwa [fx u (List.mem_of_getElem? hj)] at this
    by_cases hroom : n + mm ≤ cap
    · -- there is room
      have hwr : wr σ.hp h (n * 4) news = some (σ.hp.set h (some (true, splice (xs ++ sp) (n * 4) news))) := by
        unfold wr
        rw [hh]
        simp only
        rw [if_pos (by rw [hcl, hlen, ← Nat.add_mul]; exact Nat.mul_le_mul_right _ hroom)]
      obtain ⟨w', hst, hI'⟩ := hs.inv.stores (P := P) hwr (fun u hu => by rw [fn u hu]; exact hone u hu)
      have hmapn : news.map (ren0 ρ) = news := (List.map_congr_left (g := id) fun u hu => fn u hu ρ).trans (by simp)
      rw [hmapn] at hst
      have hf := run_firstCells_some (P := P) w i.size mm ⟨(ρ q).1, (ρ q).2 + oq, none⟩ mm c news (by rw [hsize]; exact hlen) hcell
      have hsp : splice (xs ++ sp) (n * 4) news = (xs ++ news) ++ sp.drop (mm * 4) := by
        have gen : ∀ (xs sp news : List Value) (k : Nat), xs.length = k → news.length ≤ sp.length → splice (xs ++ sp) k news = xs ++ news ++ sp.drop news.length := by
          intro xs
          induction xs with
          | nil =>
            intro sp news k hk hl
            subst hk
            simp only [List.length_nil, List.nil_append]
            induction news generalizing sp with
            | nil => simp [splice_nil]
            | cons y news ih =>
              cases sp with
              | nil => simp at hl
              | cons z sp => simp only [splice, List.length_cons, List.drop_succ_cons, List.cons_append]; rw [ih sp (by simpa using hl)]
          | cons y xs ih =>
            intro sp news k hk hl
            subst hk
            cases news with
            | nil => simp [splice_nil]
            | cons u news =>
              simp only [List.cons_append, List.length_cons, splice]
              rw [ih sp (u :: news) xs.length rfl hl]
              simp
        rw [gen xs sp news (n * 4) hxl (by rw [List.length_append] at hcl; rw [hlen]; have : (n + mm) * 4 ≤ cap * 4 := Nat.mul_le_mul_right _ hroom; omega), hlen]
      unfold Oper.wp execOp
      have hrun : (Builtin.append_ #[t, t] o.type #[.slice (some ⟨(ρ h).1, (ρ h).2, none⟩) n cap, .slice (some ⟨(ρ q).1, (ρ q).2 + oq, none⟩) mm c]).run P w = .ok (.slice (some ⟨(ρ h).1, (ρ h).2, none⟩) (n + mm) cap) w' := by
        rw [hsize] at hf
        simp [Builtin.append_, run_underlying ht, sizeOf, typeInfo, hi, Builtin.lenOf, hroom, hsize, hf, add_none, hst]
      simp only [ho, resolve, invoke, builtin, Sem.run_bind, Sem.run_pure, Result.andThen_ok, List.map_toArray, List.map_cons, List.map_nil, es', evv, ex', hrun]
      have hmono := wr_mono hwr
      refine hK _ _ ⟨ρ, ⟨putT σ.tm o.dst (.slice (some ⟨h, 0, none⟩) (n + mm) cap), σ.hp.set h (some (true, splice (xs ++ sp) (n * 4) news)), σ.vc, σ.bs⟩, h, cap, sp.drop (mm * 4), ⟨⟨fun u hu => ?_, wr_ok hs.ok.hp okn hwr⟩, ?_, hI'⟩, Agree.refl _ _, .inl rfl, rfl, by rw [get_set_same hh, hsp], ?_, hroom, fun u hu => fs u (List.mem_of_mem_drop hu), fun r hr _ => get_set_other hr, rfl⟩
      · rcases putT_mem hu with hu | rfl
        · exact (hs.ok.tm u hu).mono hmono
        · exact ⟨rfl, hmono _ ⟨_, hh⟩⟩
      · have := hs.tm.put o.dst (.slice (some ⟨h, 0, none⟩) (n + mm) cap)
        rw [show ren ρ (.slice (some ⟨h, 0, none⟩) (n + mm) cap) = .slice (some ⟨(ρ h).1, (ρ h).2, none⟩) (n + mm) cap by simp [ren, ren1, ren0, rena]] at this
        exact this
      · have := splice_length news (xs ++ sp) (n * 4)
        rw [hsp, hcl] at this
        exact this
    · have hrun := run_append_grow (P := P) w t o.type e i z ht hi hz ⟨(ρ h).1, (ρ h).2, none⟩ n cap xs (by rw [hsize]; exact hxl) holds ⟨(ρ q).1, (ρ q).2 + oq, none⟩ mm c news (by rw [hsize]; exact hlen) hcell (by omega) (by omega) (growslice_fits (by omega) (by rw [hby]; omega))
      have hge := grownCap_ge w (n + mm) cap e
      refine grow xs (grownCap w (n + mm) cap e) (Builtin.zeroCells z.cells (grownCap w (n + mm) cap e - (n + mm))).toList fx hokxs (zer _) ?_ hge rfl ?_
      · simp only [List.length_append, hlen, hxl, Array.length_toList, size_zeroCells, hzs, ← Nat.add_mul]
        congr 1; omega
      · rw [evv]
        have e1 : xs.toArray ++ news.toArray ++ Builtin.zeroCells z.cells (grownCap w (n + mm) cap e - (n + mm)) = (xs ++ news ++ (Builtin.zeroCells z.cells (grownCap w (n + mm) cap e - (n + mm))).toList).toArray := by
          apply Array.ext'; simp
        rw [← e1]
        exact hrun

abbrev ids (regs : List (Nat × Bool × List Value)) : Keep := regs.map fun p => (p.1, p.1, false)
theorem regsK_id {m : Nat} {all : Keep} {hp : Hp} : ∀ (regs : List (Nat × Bool × List Value)), (∀ p ∈ regs, hp[p.1]? = some (some p.2)) → regsK m all hp (ids regs) = some regs
  | [], _ => rfl
  | (r, b, cs) :: regs, h => by
    have h1 := h (r, b, cs) (by simp)
    have ih := regsK_id (m := m) (all := all) regs fun p hp' => h p (by simp [hp'])
    simp only [List.map_cons, regsK]
    simp only at h1
    rw [h1]
    simp only
    rw [ih]
theorem slotsK_id {m : Nat} {keep : Keep} {tm : List Value} : ∀ (live : List (Nat × Value)), (∀ p ∈ live, tm[p.1]? = some p.2 ∧ ren (piOf m keep) p.2 = p.2) → slotsK m keep tm (live.map (·.1)) = live
  | [], _ => rfl
  | (t, v) :: live, h => by
    obtain ⟨h1, h2⟩ := h (t, v) (by simp)
    simp only at h1 h2
    simp only [List.map_cons, slotsK, h1, Option.getD_some, h2, slotsK_id live fun p hp => h p (by simp [hp])]

/-- **append, from form to form.** -/
theorem tril_append {ops : Array Oper} {rest : List Oper} {o : Oper} {s x : Operand} {t e : TypeId} {i : TypeInfo} {z : Value} {dst : Nat} (ho : o.op = .call { callee := .builtin .append, args := #[s, x], argTypes := #[t, t] }) (hdst : o.dst = some dst)
    (ht : P.underlying t = some (.slice e)) (hi : P.info? e = some i) (hz : i.zero = some z) (hsize : i.size = 4) (hby : i.bytes = 32) (hzs : z.cells.size = 4) (hzp : ∀ v ∈ z.cells, plain0 v = true)
    {τ : TS} {m : Nat} {v : Value} {h h' d n q oq mm c : Nat} {xs sp news : List Value} {live : List (Nat × Value)} {regs : List (Nat × Bool × List Value)} {loc : List (Nat × Nat × Nat)} {K : TS → Prop}
    (hw : ∀ g, wantedS ops o (fillT g 0 τ.tm) = true) (os : opdOK s = true) (ox : opdOK x = true) (es : ∀ g, evS (fillT g 0 τ.tm) s = v) (ex : ∀ g, evS (fillT g 0 τ.tm) x = .slice (some ⟨q, oq, none⟩) mm c)
    (hold : ∀ T, Old (τ.hp ++ T) v h n xs sp) (hn : ∀ T, rd (τ.hp ++ T) q oq (mm * 4) = some news) (fx : Flat xs) (fs : Flat sp) (fn : Flat news) (hd : τ.hp[d]? = some none) (hm : 0 < mm) (hb : n + mm ≤ 4398046511104)
    (hnt : dst < τ.tm.length)
    (hlive : ∀ p ∈ live, p.1 ≠ dst ∧ (∀ g, (fillT g 0 τ.tm)[p.1]? = some p.2) ∧ ∀ d', d' = h ∨ d' = d → ren (piOf m ((d', h', false) :: ids regs)) p.2 = p.2)
    (hregs : ∀ p ∈ regs, τ.hp[p.1]? = some (some p.2) ∧ Flat p.2.2 ∧ p.1 ≠ h ∧ p.1 ≠ d)
    (hk : ∀ d', d' = h ∨ d' = d → keepOK m ((d', h', false) :: ids regs) = true)
    (hloc : ∀ q b o, (q, b, o) ∈ loc → (q, b, o) ∈ τ.loc ∧ ∃ p ∈ regs, p.1 = q)
    (hK : ∀ cap sp', (xs ++ news ++ sp').length = cap * 4 → n + mm ≤ cap → Flat sp' → TriL P ops rest ⟨mkT τ.tm.length ((dst, .slice (some ⟨h', 0, none⟩) (n + mm) cap) :: live), mkT m ((h', true, xs ++ news ++ sp') :: regs), loc⟩ K) : TriL P ops (o :: rest) τ K := by
  rintro w0 W a w ⟨g, T, ρ, hs, hl⟩ Q hQ
  have hwt : Region.wanted o (yielded ops a.tmps) = true := by rw [hs.tm.wanted]; exact hw g
  unfold wpList
  rw [if_pos hwt]
  refine .inl ?_
  refine append_wp ho ht hi hz hsize hby hzs hzp hs os ox (es g) (ex g) (hold T) (hn T) fx fs fn (get_append hd) hm hb fun a' w' ha => ?_
  obtain ⟨ρ', σ', d', cap, sp', k1, k2, k3, k4, k5, k6, k7, k8, k9, k10⟩ := ha.ex
  rw [hdst] at k4
  have hk' := hk d' k3
  have hlen : σ'.tm.length = τ.tm.length := by rw [k4]; simp [putT, TS.fill, fillT_length]
  have e1 : slotsK m ((d', h', false) :: ids regs) σ'.tm (dst :: live.map (·.1)) = (dst, .slice (some ⟨h', 0, none⟩) (n + mm) cap) :: live := by
    simp only [slotsK]
    rw [slotsK_id live fun p hp => by
      obtain ⟨h1, h2, h3⟩ := hlive p hp
      refine ⟨?_, h3 d' k3⟩
      rw [k4]
      simp only [putT]
      rw [List.getElem?_set_ne (Ne.symm h1)]
      exact h2 g]
    congr 2
    rw [k4]
    simp only [putT]
    rw [List.getElem?_set_self (by simp [TS.fill, fillT_length, hnt])]
    simp [ren, ren1, ren0, rena, piOf, look2]
  have e2 : regsK m ((d', h', false) :: ids regs) σ'.hp ((d', h', false) :: ids regs) = some ((h', true, xs ++ news ++ sp') :: regs) := by
    have hreg := regsK_id (m := m) (all := (d', h', false) :: ids regs) (hp := σ'.hp) regs fun p hp => by
      obtain ⟨h1, _, h3, h4⟩ := hregs p hp
      rw [k9 p.1 h3 h4]
      exact get_append h1
    simp only [regsK]
    rw [k5]
    simp only
    rw [hreg]
  have hv : viewK m ((d', h', false) :: ids regs) (dst :: live.map (·.1)) .normal σ' = some ⟨.normal, (dst, .slice (some ⟨h', 0, none⟩) (n + mm) cap) :: live, (h', true, xs ++ news ++ sp') :: regs, σ'.vc⟩ := by
    unfold viewK
    rw [e2]
    simp only
    rw [show σ'.bs = 0 from k10, e1]
    rfl
  have fall : Flat (xs ++ news ++ sp') := by
    intro u hu
    simp only [List.mem_append] at hu
    rcases hu with (hu | hu) | hu
    · exact fx u hu
    · exact fn u hu
    · exact k8 u hu
  have hform := view_sound (loc := loc) k1 hk' hv (fun r q' hm' b cs hr => by
      rcases List.mem_cons.1 hm' with he | hm'
      · simp only [Prod.mk.injEq] at he
        obtain ⟨rfl, rfl, _⟩ := he
        rw [k5] at hr
        simp only [Option.some.injEq, Prod.mk.injEq] at hr
        obtain ⟨rfl, rfl⟩ := hr
        exact fall
      · obtain ⟨p, hp, he⟩ := List.mem_map.1 hm'
        simp only [Prod.mk.injEq] at he
        obtain ⟨rfl, _, _⟩ := he
        obtain ⟨h1, h2, h3, h4⟩ := hregs p hp
        rw [k9 p.1 h3 h4] at hr
        have : (τ.hp ++ T)[p.1]? = some (some p.2) := get_append h1
        have hr' : (τ.hp ++ T)[p.1]? = some (some (b, cs)) := hr
        rw [this] at hr'
        simp only [Option.some.injEq] at hr'
        rw [hr'] at h2
        exact h2) fun q' b o' hq' => by
      obtain ⟨h1, p, hp, rfl⟩ := hloc q' b o' hq'
      obtain ⟨h2, h3⟩ := hl _ _ _ h1
      exact ⟨p.1, false, List.mem_cons_of_mem _ (List.mem_map.2 ⟨p, hp, rfl⟩), by rw [k2 _ (pres_append h3), h2]⟩
  rw [hlen] at hform
  exact hK cap sp' k6 k7 k8 w0 W a' w' hform Q hQ

end
end Vm
end Go.Proofs.YtbbifiogcpcpfaaDoor
