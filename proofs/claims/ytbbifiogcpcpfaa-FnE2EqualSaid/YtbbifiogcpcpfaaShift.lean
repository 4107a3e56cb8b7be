/-
  spec.Shifted: a number times 2^256, by doubling 256 times.
-/
import Derived.Test.YtbbifiogcpcpfaaLow0
import Derived.Test.YtbbifiogcpcpfaaFrm
namespace Go.Proofs.Ytbbifiogcpcpfaa
open Vm

/-- A number doubled n times; what is to be known on the way. -/
def shO (op : L4 → L4 → L4 → L4) (m x : L4) : Nat → L4
  | 0 => x
  | n + 1 => op m (shO op m x n) (shO op m x n)
def shQ (op : L4 → L4 → L4 → L4) (φ : L4 → L4 → L4 → Prop) (m x : L4) : Nat → Prop
  | 0 => True
  | n + 1 => shQ op φ m x n ∧ φ m (shO op m x n) (shO op m x n)
abbrev eShift (op : L4 → L4 → L4 → L4) (φ : L4 → L4 → L4 → Prop) : List (Nat × Sm) := [eM 54 kSSS (rMod op φ)]
noncomputable abbrev cSh : Code := bodyOf Try.f58
noncomputable abbrev cShL : Code := cAt cSh [1, 0, 1]
def shHead (m a : L4) (b : Bool) (ca cm : Nat) (i : Int) : TS :=
  ⟨mkT 18 [(0, slc 18 4 ca), (1, slc 19 4 cm), (5, num i)], mkT 20 [(18, b, a.cells), (19, false, m.cells)], []⟩
theorem sh_round (op : L4 → L4 → L4 → L4) (φ : L4 → L4 → L4 → Prop) (m a : L4) (b : Bool) (ca cm : Nat) (i : Int) (g : Nat → Value) (T : Hp) :
    runV Try.prog (lookS (eShift op φ) [] [(10, true)]) 1 (cAt cShL [0, 0]) ((shHead m a b ca cm i).fill g T) 18 20 [(16, 18, false), (19, 19, false)] [0, 1, 5] =
      some ⟨.normal, [(0, slc 18 4 4), (1, slc 19 4 cm), (5, num (IntKind.i64.wrap (i + 1)))], [(18, true, (op m a a).cells), (19, false, m.cells)],
        ((True ∧ 4 ≤ 9223372036854775807) ∧ decide (i < 256) = true) ∧ φ m a a⟩ := by kernel_rfl
theorem sh_done (op : L4 → L4 → L4 → L4) (φ : L4 → L4 → L4 → Prop) (m a : L4) (b : Bool) (ca cm : Nat) (i : Int) (g : Nat → Value) (T : Hp) :
    runV Try.prog (lookS (eShift op φ) [] [(10, false)]) 1 (cAt cShL [0, 0]) ((shHead m a b ca cm i).fill g T) 18 20 [(18, 18, false)] [0] =
      some ⟨.exit 0, [(0, slc 18 4 ca)], [(18, b, a.cells)], (True ∧ 4 ≤ 9223372036854775807) ∧ decide (i < 256) = false⟩ := by kernel_rfl
def shS0 (m a : L4) (ca cm : Nat) : TS := ⟨some (slc 18 4 ca) :: some (slc 19 4 cm) :: List.replicate 16 none, List.replicate 18 none ++ [some (false, a.cells), some (false, m.cells)], []⟩
def shS1 (m a : L4) (ca cm : Nat) : TS := ⟨mkT 18 [(0, slc 18 4 ca), (1, slc 19 4 cm)], mkT 20 [(18, false, a.cells), (19, false, m.cells)], []⟩
def shS2 (a : L4) (b : Bool) (ca : Nat) : TS := ⟨mkT 18 [(0, slc 18 4 ca)], mkT 20 [(18, b, a.cells)], []⟩
def shS3 (a : L4) (b : Bool) (ca : Nat) : TS := ⟨mkT 18 [(4, slc 18 4 ca)], mkT 20 [(18, b, a.cells)], []⟩
theorem sh_r0 (m a : L4) (ca cm : Nat) (g : Nat → Value) (T : Hp) : runV Try.prog (lookS [] [] []) 1 (cAt cSh [0]) ((shS0 m a ca cm).fill g T) 18 20 [(18, 18, false), (19, 19, false)] [0, 1] =
    some ⟨.normal, [(0, slc 18 4 ca), (1, slc 19 4 cm)], [(18, false, a.cells), (19, false, m.cells)], True⟩ := by kernel_rfl
theorem sh_r1 (m a : L4) (ca cm : Nat) (g : Nat → Value) (T : Hp) : runV Try.prog (lookS [] [] []) 1 (cAt cSh [1, 0, 0]) ((shS1 m a ca cm).fill g T) 18 20 [(18, 18, false), (19, 19, false)] [0, 1, 5] =
    some ⟨.normal, [(0, slc 18 4 ca), (1, slc 19 4 cm), (5, num 0)], [(18, false, a.cells), (19, false, m.cells)], True⟩ := by kernel_rfl
theorem sh_r2 (a : L4) (b : Bool) (ca : Nat) (g : Nat → Value) (T : Hp) : runV Try.prog (lookS [] [] []) 1 (cAt cSh [1, 1]) ((shS2 a b ca).fill g T) 18 20 [(18, 18, false)] [4] =
    some ⟨.ret, [(4, slc 18 4 ca)], [(18, b, a.cells)], True⟩ := by kernel_rfl
theorem shQ_at {op : L4 → L4 → L4 → L4} {φ : L4 → L4 → L4 → Prop} {m x : L4} : ∀ {n : Nat}, shQ op φ m x n → ∀ i, i < n → φ m (shO op m x i) (shO op m x i)
  | 0, _, i, h => by omega
  | n + 1, hq, i, h => by
    by_cases hi : i = n
    · subst hi; exact hq.2
    · exact shQ_at hq.1 i (by omega)
theorem sh_tri {op : L4 → L4 → L4 → L4} {φ : L4 → L4 → L4 → Prop} (hE : ∀ p ∈ eShift op φ, SmOK Try.prog p.1 p.2) (m x : L4) (ca cm : Nat) (hq : shQ op φ m x 256) :
    Tri Try.prog cSh (shS0 m x ca cm) fun e τ' => e = .ret ∧ τ' = shS3 (shO op m x 256) true 4 := by
  have nil : EnvOK Try.prog (lookS [] [] []) := lookS_ok env_nil
  refine tri_next (by kernel_rfl) (tri_run nil follows (sh_r0 m x ca cm) (by decide) trivial (alT_nil _ _ _) ⟨flat4 _, flat4 _, trivial⟩ (locK_nil _ _) ⟨rfl, rfl⟩) ?_
  refine tri_seq' (K1 := fun e τ1 => e = .normal ∧ τ1 = shS2 (shO op m x 256) true 4) (by kernel_rfl) ?_ ?_ (fun e τ1 he h => absurd h.1 he)
  · refine tri_next (by kernel_rfl) (tri_run nil follows (sh_r1 m x ca cm) (by decide) trivial (alT_nil _ _ _) ⟨flat4 _, flat4 _, trivial⟩ (locK_nil _ _) ⟨rfl, rfl⟩) ?_
    refine tri_block' (by kernel_rfl) ?_
    refine tri_loop' (S := Nat × Bool × Nat) (by kernel_rfl) (fun s => s.1 ≤ 256 ∧ (0 < s.1 → s.2.1 = true ∧ s.2.2 = 4)) (fun s => shHead m (shO op m x s.1) s.2.1 s.2.2 cm s.1) (fun s => 256 - s.1) ?_ (s := (0, false, ca)) ⟨Nat.zero_le _, fun h => absurd h (Nat.lt_irrefl 0)⟩
    rintro ⟨i, b, c⟩ ⟨hi, hb⟩
    simp only at hi hb
    by_cases hlt : i < 256
    · refine tri_run (lookS_ok hE) follows (sh_round op φ m (shO op m x i) b c cm i) (by decide) ⟨⟨⟨trivial, by decide⟩, decide_eq_true (by omega)⟩, shQ_at hq i hlt⟩ (alT_nil _ _ _) ⟨flat4 _, flat4 _, trivial⟩ (locK_nil _ _) ?_
      refine ⟨(i + 1, true, 4), ⟨by simp only; omega, fun _ => ⟨rfl, rfl⟩⟩, by simp only; omega, ?_⟩
      simp only [num_next (show i < 9223372036854775807 by omega)]
      rfl
    · have : i = 256 := by omega
      subst this
      refine tri_run (lookS_ok hE) follows (sh_done op φ m (shO op m x 256) b c cm 256) (by decide) ⟨⟨trivial, by decide⟩, by decide⟩ (alT_nil _ _ _) ⟨flat4 _, trivial⟩ (locK_nil _ _) ?_
      obtain ⟨rfl, rfl⟩ := hb (by decide)
      exact ⟨rfl, rfl⟩
  · rintro τ1 ⟨_, rfl⟩
    exact tri_run nil follows (sh_r2 (shO op m x 256) true 4) (by decide) trivial (alT_nil _ _ _) ⟨flat4 _, trivial⟩ (locK_nil _ _) ⟨rfl, rfl⟩
def rShift (op : L4 → L4 → L4 → L4) (φ : L4 → L4 → L4 → Prop) : Gf := g2 c4 c4 fun x m => ([], .fresh (shO op m x 256).cells [], some (shQ op φ m x 256))
theorem sh_res (a : L4) (c : Nat) (g : Nat → Value) (T : Hp) : vres Try.prog Try.f58 ((shS3 a true c).fill g T) = some (slc 18 4 c) := by kernel_rfl
theorem shO_ok {m x : L4} (hx : x.ok) : ∀ n, (shO addm m x n).ok
  | 0 => hx
  | _ + 1 => lim_ok _
/-- What a form's region holds, and that it is new. -/
theorem fresh_of {w w' : World} {W : Nat → Nat → Prop} {ρ : Emb} {σ : VS} {a : Act} (hW : ∀ k o, ¬ W k o) (h : RSim w W ρ σ a w') {r n : Nat} {cs : List Value} (hr : σ.hp[r]? = some (some (true, cs))) (hn : cs.length = n) (h0 : 0 < n) (hf : Flat cs) {ps : List AP} :
    Hands w w' ps (.returned (ren ρ (slc r n n))) (.fresh cs []) := by
  subst hn
  refine ⟨(ρ r).1, (ρ r).2, ?_, ?_, fun i v hi => ?_, fun i hi => (h.inv.own r cs hr i hi).1⟩
  · rcases (h.inv.own r cs hr 0 h0).2 with h' | h'
    · exact h'
    · exact absurd h' (hW _ _)
  · simp [ren, ren1, ren0, rena, freshV]
  · have := h.inv.cell r true cs hr i v hi
    rwa [hf v (List.mem_of_getElem? hi)] at this
theorem ac_Shifted : AC Try.prog 58 [.S 4, .S 4] (rShift addm lowm) := by
  have hf : Try.prog.funcs[58]? = some Try.f58 := by kernel_rfl
  have hb : Try.f58.body = some cSh := by kernel_rfl
  refine ac_of_calls hf (by kernel_rfl) hb fun ps news rv φ hk hg hok => ?_
  obtain ⟨x, m, hc, he⟩ := g2_some c4_sound c4_sound hg
  cases he
  obtain ⟨A, cs, ca, B, ds, cb, rfl, h1, h2⟩ := two_S hk
  simp only [List.map_cons, List.map_nil, AP.con, List.cons.injEq, and_true] at hc
  obtain ⟨rfl, rfl⟩ := hc
  have hx : x.ok := in4 (fun u hu => hok (.s A (c4.cells x) ca) (by simp) u hu)
  refine ⟨res_fresh (φ := none) (ok4.2 (shO_ok hx 256)) (fun u hu => by simp at hu), fun w hl hd => ?_⟩
  have h0 := start_SS (nt := 18) hl hk (by decide)
  refine calls_of_tri hf hb h0 (sh_tri (env_M ac_AddWords env_nil) m x ca cb hd) ?_
  rintro e τ' ⟨rfl, rfl⟩
  refine ⟨by simp, fun a' w' hs => ?_⟩
  obtain ⟨g, T, ρ, k1, k2, k3, k4⟩ := results_of (sh_res (shO addm m x 256) 4) hs
  have hnoW : ∀ k o, ¬ Wof [.s A (c4.cells x) ca, .s B (c4.cells m) cb] k o := by
    rintro k o ⟨A', cs', hm, _⟩
    simp at hm
  refine ⟨_, k4, _, rfl, k1.inv.fr, rfl, fresh_of hnoW k1 (r := 18) (cs := (shO addm m x 256).cells) rfl rfl (Nat.zero_lt_succ 3) (flat4 _)⟩
end Go.Proofs.Ytbbifiogcpcpfaa
