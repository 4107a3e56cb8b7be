/-
  Nine times a number, by adding: spec.TimesWords at 9; the product with 9 + u.
-/
import Derived.Test.YtbbifiogcpcpfaaLow0
namespace Go.Proofs.Ytbbifiogcpcpfaa
open Vm

/-- n times a number, by adding; what is to be known on the way. -/
def timesO (op : L4 → L4 → L4 → L4) (m x : L4) : Nat → L4
  | 0 => z4
  | n + 1 => op m (timesO op m x n) x
def timesQ (op : L4 → L4 → L4 → L4) (φ : L4 → L4 → L4 → Prop) (m x : L4) : Nat → Prop
  | 0 => True
  | n + 1 => timesQ op φ m x n ∧ φ m (timesO op m x n) x
def rTimes (op : L4 → L4 → L4 → L4) (φ : L4 → L4 → L4 → Prop) : Gf := fun cs => match cs with
  | [[.int .i64 n], x, m] => (match n == 9 with
    | true => (match c4.dec x with
      | some x => (match c4.dec m with
        | some m => some ([], .fresh (timesO op m x 9).cells [], some (timesQ op φ m x 9))
        | none => none)
      | none => none)
    | false => none)
  | _ => none
abbrev eTimes (op : L4 → L4 → L4 → L4) (φ : L4 → L4 → L4 → Prop) : List (Nat × Sm) := [eM 54 kSSS (rMod op φ)]
theorem times_run (op : L4 → L4 → L4 → L4) (φ : L4 → L4 → L4 → Prop) (x m : L4) (c1 c2 c3 : Nat) :
    runs Try.prog (look (eTimes op φ)) 12 Try.f38 [.V, .S 4, .S 4] [none, none, none] [[.int .i64 9], x.cells, m.cells] [c1, c2, c3] =
      some ⟨[], .fresh (timesO op m x 9).cells [], timesQ op φ m x 9⟩ := by kernel_rfl
theorem rTimes_some {op : L4 → L4 → L4 → L4} {φ : L4 → L4 → L4 → Prop} {cs : List (List Value)} {r : Res} (h : rTimes op φ cs = some r) :
    ∃ x m, cs = [[.int .i64 9], x.cells, m.cells] ∧ r = ([], .fresh (timesO op m x 9).cells [], some (timesQ op φ m x 9)) := by
  unfold rTimes at h
  split at h
  case h_2 => cases h
  rename_i n l m0
  split at h
  case h_2 => cases h
  rename_i hn
  split at h
  case h_2 => cases h
  rename_i x hx
  split at h
  case h_2 => cases h
  rename_i m hm
  cases h
  have hn : n = 9 := by simpa using hn
  subst hn
  exact ⟨x, m, by rw [c4_sound _ _ hx, c4_sound _ _ hm]; rfl, rfl⟩
theorem timesO_ok (m x : L4) : ∀ n, (timesO addm m x n).ok
  | 0 => z4_ok
  | _ + 1 => lim_ok _
theorem ac_TimesWords : AC Try.prog 38 [.V, .S 4, .S 4] (rTimes addm lowm) :=
  ac_of_run (fn := Try.f38) (look_ok (eTimes addm lowm) (env_M ac_AddWords env_nil)) follows (by kernel_rfl) rfl
    (runOK_of fun cs news rv φ hg hl hok => by
      obtain ⟨x, m, rfl, he⟩ := rTimes_some hg
      cases he
      refine ⟨res_fresh (φ := none) (ok4.2 (timesO_ok m x 9)) (fun u hu => by simp at hu), fun hd al has _ caps hcaps => ?_⟩
      rw [show alsOf [PK.V, PK.S 4, PK.S 4] [PK.V, PK.S 4, PK.S 4] = [[none, none, none]] from rfl, List.mem_singleton] at has
      subst has
      match caps, hcaps with
      | [c1, c2, c3], _ => exact ⟨12, sees_of (times_run addm lowm x m c1 c2 c3) (.mk' hd rfl rfl)⟩)
abbrev eNine (op : L4 → L4 → L4 → L4) (φ : L4 → L4 → L4 → Prop) : List (Nat × Sm) :=
  [eM 38 [.V, .S 4, .S 4] (rTimes op φ), eM 39 [] rPrime, eM 37 [.S 4] rWord]
theorem nine_run (op : L4 → L4 → L4 → L4) (φ : L4 → L4 → L4 → Prop) :
    Run1 Try.prog (look (eNine op φ)) 1 Try.f36 .V c4.agg (fun x => sVal c4 (timesO op qL x 9) (True ∧ timesQ op φ qL x 9)) := fun _ _ => by kernel_rfl
def o_nine (x : L4) : L4 := timesO addm qL x 9
def p_nine (x : L4) : Prop := True ∧ timesQ addm lowm qL x 9
theorem ac_nine : AC Try.prog 36 [.V] (rV c4 c4 o_nine p_nine) :=
  mkV (fn := Try.f36) (look_ok (eNine addm lowm) (env_M ac_TimesWords (env_M ac_Prime (env_M ac_word env_nil)))) follows (by kernel_rfl) rfl G4 G4 (fun x _ => timesO_ok qL x 9) (nine_run addm lowm)

/-! What it comes to -/
theorem addm_lt (x y : L4) : lt4 (addm qL x y) := mod_lt _
theorem subm_lt (x y : L4) : lt4 (subm qL x y) := mod_lt _
theorem lt_bd {x : L4} (hx : x.ok) (h : lt4 x) : 0 ≤ x.v ∧ x.v < 21888242871839275222246405745257275088696311157297823662689037894645226208583 := by
  unfold lt4 at h; rw [qL_v] at h; exact ⟨(v_bd hx).1, h⟩
theorem addm_vq {x y : L4} (hx : x.ok) (hy : y.ok) : (addm qL x y).v = (x.v + y.v) % 21888242871839275222246405745257275088696311157297823662689037894645226208583 := by
  unfold addm; rw [v_lim', qL_v]; have := v_bd hx; have := v_bd hy; omega
theorem subm_vq (x y : L4) : (subm qL x y).v = (x.v - y.v) % 21888242871839275222246405745257275088696311157297823662689037894645226208583 := by
  unfold subm; rw [v_lim', qL_v]; omega
theorem times_facts {x : L4} (hx : x.ok) (h : lt4 x) : ∀ n, lt4 (timesO addm qL x n) ∧ timesQ addm lowm qL x n ∧ (timesO addm qL x n).v = ((n : Int) * x.v) % 21888242871839275222246405745257275088696311157297823662689037894645226208583
  | 0 => ⟨z4_lt, trivial, by show z4.v = _; rw [z4_v]; simp⟩
  | n + 1 => by
    obtain ⟨h1, h2, h3⟩ := times_facts hx h n
    refine ⟨addm_lt _ _, ⟨h2, h1, h⟩, ?_⟩
    show (addm qL (timesO addm qL x n) x).v = _
    rw [addm_vq (timesO_ok qL x n) hx, h3, Int.emod_add_emod, show ((n + 1 : Nat) : Int) * x.v = (n : Int) * x.v + x.v by rw [Int.natCast_add, Int.add_mul]; simp]
end Go.Proofs.Ytbbifiogcpcpfaa
