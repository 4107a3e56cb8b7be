/-
  Laws whose arguments are structs of words, by value: from the kernel's runs to the statement's frame.
-/
import Derived.Test.YtbbifiogcpcpfaaShp
import Derived.Test.YtbbifiogcpcpfaaRows
import Derived.ProofKit
namespace Go.Proofs.Ytbbifiogcpcpfaa
open Vm
open Go.ChangeShapes Go.WideShapes Go.ChangeAt Go.RowKit

theorem Try.own : ownKnob Try.prog.godebug = none := by kernel_rfl
theorem Try.laidOut : laidOutB Try.prog = true := by kernel_rfl
theorem Try.followed : Try.prog.follows .mixedOrders = true := by kernel_rfl
theorem follows : Try.prog.follows .mixedOrders = true := by kernel_rfl

section
variable {P : Program} {E : Env}

/-- The cells of a value of words. -/
theorem open_words {w : World} {r : Reach} {base : Nat} {t u : TypeId} {v : Value} {n : Nat} (hagg : (match P.underlying t with | some (.struct _) => true | some (.array _ _) => true | _ => false) = true)
    (hts : P.cellTypes P.depth t = some (List.replicate n u)) (hn : P.cellsOf t = n) (hu : P.underlying u = some (.int .u64)) (hv : Value.okWide P w r base t v) :
    ∃ cs : List Int, v = .agg (cs.map fun c => Value.int .u64 c).toArray ∧ cs.length = n ∧ ∀ c ∈ cs, wordOK c := by
  unfold Value.okWide at hv
  have hv' : ∃ cs, v = .agg cs ∧ cs.size = P.cellsOf t ∧ Row.okWide P w r base t cs := by
    revert hagg hv
    cases P.underlying t with
    | none => intro h; cases h
    | some T => cases T <;> intro h hv <;> first | exact hv | cases h
  obtain ⟨cs, rfl, hsz, ts, hts', _, hcell⟩ := hv'
  rw [hts] at hts'
  simp only [Option.some.injEq] at hts'
  subst hts'
  have one : ∀ x ∈ cs.toList, ∃ c, x = .int .u64 c ∧ wordOK c := by
    intro x hx
    obtain ⟨i, hi⟩ := List.getElem?_of_mem hx
    obtain ⟨u', hu', hc⟩ := hcell i x (by simpa using hi)
    have : u' = u := List.eq_of_mem_replicate (List.mem_of_getElem? hu')
    subst this
    unfold Cell.okWide at hc
    rw [hu] at hc
    unfold Cell.ok at hc
    rw [hu] at hc
    cases x <;> first | exact hc.elim | skip
    obtain ⟨rfl, h1⟩ := hc
    have h1 : _ ≤ _ ∧ _ ≤ _ := h1
    refine ⟨_, rfl, h1.1, ?_⟩
    have : _ ≤ (18446744073709551615 : Int) := h1.2
    omega
  have all : ∀ l : List Value, (∀ x ∈ l, ∃ c, x = .int .u64 c ∧ wordOK c) → ∃ ds : List Int, l = ds.map (fun c => Value.int .u64 c) ∧ ∀ c ∈ ds, wordOK c := by
    intro l
    induction l with
    | nil => intro _; exact ⟨[], rfl, fun c hc => by simp at hc⟩
    | cons x l ih =>
      intro h
      obtain ⟨c, rfl, hc⟩ := h x (by simp)
      obtain ⟨ds, rfl, hds⟩ := ih fun y hy => h y (by simp [hy])
      refine ⟨c :: ds, rfl, fun z hz => ?_⟩
      rcases List.mem_cons.1 hz with rfl | hz
      · exact hc
      · exact hds z hz
  obtain ⟨ds, hds, hw⟩ := all cs.toList one
  refine ⟨ds, ?_, ?_, hw⟩
  · congr 1; apply Array.ext'; rw [hds]
  · have := congrArg List.length hds
    simp only [Array.length_toList, List.length_map] at this
    omega

theorem of4 {cs : List Int} (h : cs.length = 4) (hw : ∀ c ∈ cs, wordOK c) : ∃ x : L4, cs.map (fun c => Value.int .u64 c) = x.cells ∧ x.ok := by
  match cs, h with
  | [a, b, c, d], _ => exact ⟨⟨a, b, c, d⟩, rfl, hw a (by simp), hw b (by simp), hw c (by simp), hw d (by simp)⟩
theorem of8 {cs : List Int} (h : cs.length = 8) (hw : ∀ c ∈ cs, wordOK c) : ∃ x : L8, cs.map (fun c => Value.int .u64 c) = x.cells ∧ x.ok := by
  obtain ⟨x, hx, h1⟩ := of4 (cs := cs.take 4) (by simp; omega) fun c hc => hw c (List.mem_of_mem_take hc)
  obtain ⟨y, hy, h2⟩ := of4 (cs := cs.drop 4) (by simp; omega) fun c hc => hw c (List.mem_of_mem_drop hc)
  refine ⟨⟨x, y⟩, ?_, h1, h2⟩
  rw [← List.take_append_drop 4 cs, List.map_append, hx, hy]; rfl
theorem of24 {cs : List Int} (h : cs.length = 24) (hw : ∀ c ∈ cs, wordOK c) : ∃ x : L24, cs.map (fun c => Value.int .u64 c) = x.cells ∧ x.ok := by
  obtain ⟨x, hx, h1⟩ := of8 (cs := cs.take 8) (by simp; omega) fun c hc => hw c (List.mem_of_mem_take hc)
  obtain ⟨y, hy, h2⟩ := of8 (cs := (cs.drop 8).take 8) (by simp; omega) fun c hc => hw c (List.mem_of_mem_drop (List.mem_of_mem_take hc))
  obtain ⟨z, hz, h3⟩ := of8 (cs := (cs.drop 8).drop 8) (by simp; omega) fun c hc => hw c (List.mem_of_mem_drop (List.mem_of_mem_drop hc))
  refine ⟨⟨x, y, z⟩, ?_, h1, h2, h3⟩
  rw [← List.take_append_drop 8 cs, ← List.take_append_drop 8 (cs.drop 8), List.map_append, List.map_append, hx, hy, hz]; rfl
theorem of48 {cs : List Int} (h : cs.length = 48) (hw : ∀ c ∈ cs, wordOK c) : ∃ x : L48, cs.map (fun c => Value.int .u64 c) = x.cells ∧ x.ok := by
  obtain ⟨x, hx, h1⟩ := of24 (cs := cs.take 24) (by simp; omega) fun c hc => hw c (List.mem_of_mem_take hc)
  obtain ⟨y, hy, h2⟩ := of24 (cs := cs.drop 24) (by simp; omega) fun c hc => hw c (List.mem_of_mem_drop hc)
  refine ⟨⟨x, y⟩, ?_, h1, h2⟩
  rw [← List.take_append_drop 24 cs, List.map_append, hx, hy]; rfl

/-- By value alone nothing of the world is read or turned. -/
theorem lie_V {w : World} {ps : List AP} (h : ∀ p ∈ ps, ∃ x, p = .v x ∧ ok2 [] x) : Lie w ps := by
  refine ⟨fun p hp A cs hat => ?_, fun p hp A cs he => ?_, fun p hp u hu => ?_, fun p hp A cs hat => ?_, fun i j p q _ hi hj => ?_⟩
  · obtain ⟨x, rfl, _⟩ := h p hp; cases hat
  · obtain ⟨x, rfl, _⟩ := h p hp; cases he
  · obtain ⟨x, rfl, hx⟩ := h p hp
    simp only [AP.con, List.mem_cons, List.not_mem_nil, or_false] at hu
    subst hu; exact hx
  · obtain ⟨x, rfl, _⟩ := h p hp; cases hat
  · obtain ⟨x, rfl, _⟩ := h p (List.mem_of_getElem? hi); trivial

/-- **A law over values: the run answers true, and nothing that was there has turned.** -/
theorem law_V (hE : EnvOK P E) (hm : P.follows .mixedOrders = true) {f : FuncId} {fn : Func} (hf : P.funcs[f]? = some fn) {ks : List PK} {g : Gf} (hrun : RunOK P E fn ks g)
    (vs : List Value) (hks : ks = vs.map fun _ => PK.V) (hg : g (vs.map fun v => [v]) = some ([], .val (.bool true), none)) (hok : ∀ v ∈ vs, ok2 [] v) (w : World) (hal : E.al = [] := by rfl) :
    Calls P f vs.toArray w fun e w' => e = .returned (.bool true) ∧ Below w.heap.size w w' := by
  have hk : kindsOK (vs.map AP.v) ks := by
    subst hks
    clear hg hok hrun
    induction vs with
    | nil => trivial
    | cons v vs ih => exact ⟨trivial, ih⟩
  have e1 : (vs.map AP.v).map AP.con = vs.map fun v => [v] := by rw [List.map_map]; rfl
  have e2 : (vs.map AP.v).map AP.val = vs := by rw [List.map_map]; exact (List.map_congr_left (g := id) fun _ _ => rfl).trans (by simp)
  have hps : ∀ p ∈ vs.map AP.v, ∃ x, p = .v x ∧ ok2 [] x := by
    intro p hp
    obtain ⟨v, hv, rfl⟩ := List.mem_map.1 hp
    exact ⟨v, rfl, hok v hv⟩
  obtain ⟨_, h2⟩ := cc_of_run hE hm hf hrun hal (vs.map AP.v) [] (.val (.bool true)) none hk (by rw [e1]; exact hg) (fun p hp u hu => by
    obtain ⟨x, rfl, hx⟩ := hps p hp
    simp only [AP.con, List.mem_cons, List.not_mem_nil, or_false] at hu
    subst hu; exact hx)
  obtain ⟨_, hc⟩ := h2 w (lie_V hps) trivial
  rw [e2] at hc
  refine hc.mono fun e w' ⟨v, he, hfr, _, hh⟩ => ?_
  have hv : Ending.returned v = .returned (.bool true) := hh
  refine ⟨he.trans hv, (hfr.weaken (W' := fun _ _ => False) fun k j ⟨A, cs, hm, _⟩ => ?_).below⟩
  obtain ⟨x, hx, _⟩ := hps _ hm
  cases hx
end

/-- The bytes of what the law says. -/
theorem shut_true {H : Type} {enc : TypeId × Value → H} {t : TypeId} (ht : Try.prog.underlying t = some .bool) {W' : World} {b : Nat} {sp : Nat → Bool} {hd : Bool} :
    DataW.TrodAll enc Try.prog W' b sp hd [t] [Value.bool true] [.lit (.bool true)] [] := trodAll_mk1 (shut_bool ht true)
end Go.Proofs.Ytbbifiogcpcpfaa
