/-
  math/bits.TrailingZeros64 of powers of two; ReverseBytes64, Reverse64; spec.Reversed: as the text has them.
-/
import Derived.Test.YtbbifiogcpcpfaaDoorBrTz
import Derived.Test.YtbbifiogcpcpfaaDoorListCal
namespace Go.Proofs.YtbbifiogcpcpfaaDoor
open Vm

/-! ### The table -/
def tabZ : List Int := [0, 1, 56, 2, 57, 49, 28, 3, 61, 58, 42, 50, 38, 29, 17, 4, 62, 47, 59, 36, 45, 43, 51, 22, 53, 39, 33, 30, 24, 18, 12, 5, 63, 55, 48, 27, 60, 41, 37, 16, 46, 35, 44, 21, 52, 32, 23, 11, 54, 26, 40, 15, 34, 20, 31, 10, 25, 14, 19, 9, 13, 8, 7, 6]
def tabV : List Value := tabZ.map fun z => .int .u8 z
def TabIn (w : World) : Prop := ∀ (i : Nat) v, tabV[i]? = some v → w.cell? ⟨0, i, none⟩ = some v
theorem tab_flat : Flat tabV := fun v hv π => by
  obtain ⟨z, _, rfl⟩ := List.mem_map.1 hv
  rfl
theorem tab_ok (hp : Hp) : ∀ v ∈ tabV, ok0 hp v := fun v hv => by
  obtain ⟨z, hz, rfl⟩ := List.mem_map.1 hv
  have : ∀ z ∈ tabZ, (0 : Int) ≤ z ∧ z ≤ 255 := by decide
  exact this z hz
theorem tz_pow (w : World) (h : TabIn w) : ∀ k : Nat, k ≤ 6 → Calls Tryd.prog 11 #[.int .u64 ((2 ^ k : Nat) : Int)] w fun e w' => e = .returned (.int .i64 k) ∧ w' = w
  | 0, _ => tz_core 1 0 0 w rfl (by kernel_rfl) (by decide) (by decide) (h 0 _ rfl)
  | 1, _ => tz_core 2 1 1 w rfl (by kernel_rfl) (by decide) (by decide) (h 1 _ rfl)
  | 2, _ => tz_core 4 2 3 w rfl (by kernel_rfl) (by decide) (by decide) (h 3 _ rfl)
  | 3, _ => tz_core 8 3 7 w rfl (by kernel_rfl) (by decide) (by decide) (h 7 _ rfl)
  | 4, _ => tz_core 16 4 15 w rfl (by kernel_rfl) (by decide) (by decide) (h 15 _ rfl)
  | 5, _ => tz_core 32 5 31 w rfl (by kernel_rfl) (by decide) (by decide) (h 31 _ rfl)
  | 6, _ => tz_core 64 6 63 w rfl (by kernel_rfl) (by decide) (by decide) (h 63 _ rfl)
  | k + 7, h => absurd h (by omega)

/-! ### Reverse64 -/
def half2 (s : Int) (m x : Int) : Int := bits .or .u64 (bits .and .u64 (x.fdiv (2 ^ (min s.toNat IntKind.u64.bits))) m) (IntKind.u64.wrap (bits .and .u64 x m * 2 ^ (min s.toNat IntKind.u64.bits)))
def revB (x : Int) : Int := bits .or .u64 ((half2 16 281470681808895 (half2 8 71777214294589695 x)).fdiv (2 ^ (min (32 : Int).toNat IntKind.u64.bits))) (IntKind.u64.wrap (half2 16 281470681808895 (half2 8 71777214294589695 x) * 2 ^ (min (32 : Int).toNat IntKind.u64.bits)))
def rev64 (rb : Int → Int) (x : Int) : Int := rb (half2 4 1085102592571150095 (half2 2 3689348814741910323 (half2 1 6148914691236517205 x)))
def cU : Cod Int := ⟨1, fun n => [.int .u64 n], fun l => match l with
  | [.int .u64 n] => some n
  | _ => none⟩
theorem cU_sound : cU.sound := fun l x h => by
  unfold cU at h
  simp only at h
  split at h
  · cases h; rfl
  · cases h
def rU (f : Int → Int) : Gf := g1 cU fun x => ([], .val (.int .u64 (f x)), none)
theorem revB_run : Run1 Tryd.prog (look []) 1 Tryd.f13 .V cU (fun x => some ⟨[], .val (.int .u64 (revB x)), True⟩) := fun _ _ => by kernel_rfl
theorem u64_ok (n : Int) (h : (Lit.int .u64 n).wf = true) : resOK (([], .val (.int .u64 n), none) : Res) := by
  have := bounds_u64 h
  exact res_val ⟨this.1, show n ≤ 18446744073709551615 from this.2⟩
theorem ac_revB : AC Tryd.prog 13 [.V] (rU revB) :=
  ac_of_run (fn := Tryd.f13) (look_ok [] env_nil) follows (by kernel_rfl) rfl
    (run1 cU_sound rfl revB_run fun x _ => ⟨u64_ok _ (wf_bits _ _ _ _), fun _ => .mk' trivial rfl rfl⟩)
theorem rev64_run (rb : Int → Int) : Run1 Tryd.prog (look [eV 13 [.V] (rU rb)]) 1 Tryd.f12 .V cU (fun x => some ⟨[], .val (.int .u64 (rev64 rb x)), True⟩) := fun _ _ => by kernel_rfl
theorem ac_rev64 : AC Tryd.prog 12 [.V] (rU (rev64 revB)) :=
  ac_of_run (fn := Tryd.f12) (look_ok [eV 13 [.V] (rU revB)] (env_V ac_revB env_nil)) follows (by kernel_rfl) rfl
    (run1 cU_sound rfl (rev64_run revB) fun x _ => ⟨u64_ok _ (by unfold rev64 revB; exact wf_bits _ _ _ _), fun _ => .mk' trivial rfl rfl⟩)

/-! ### Reversed -/
def revE : Nat → Int → Int → Int
  | 0, _, out => out
  | j + 1, n, out => revE j (IntKind.i64.wrap (n.tdiv 2)) (IntKind.i64.wrap (IntKind.i64.wrap (2 * out) + n.tmod 2))
def cK (k : Int) : Cod Unit := ⟨1, fun _ => [.int .i64 k], fun l => match l with
  | [.int .i64 j] => if j = k then some () else none
  | _ => none⟩
theorem cK_sound (k : Int) : (cK k).sound := fun l x h => by
  unfold cK at h
  simp only at h
  split at h
  · split at h
    · rename_i h'; subst h'; rfl
    · cases h
  · cases h
theorem cInt_sound' : cInt.sound := fun l x h => by
  unfold cInt at h
  simp only at h
  split at h
  · cases h; rfl
  · cases h
def rRev (k : Nat) : Gf := g2 cInt (cK (k : Int)) fun n _ => ([], .val (.int .i64 (revE k n 0)), none)
theorem revd_run : ∀ k : Nat, k ≤ 6 → Run2 Tryd.prog (look []) 8 Tryd.f10 .V .V cInt (cK (k : Int)) (fun n _ => some ⟨[], .val (.int .i64 (revE k n 0)), True⟩)
  | 0, _ => fun _ _ _ _ => by kernel_rfl
  | 1, _ => fun _ _ _ _ => by kernel_rfl
  | 2, _ => fun _ _ _ _ => by kernel_rfl
  | 3, _ => fun _ _ _ _ => by kernel_rfl
  | 4, _ => fun _ _ _ _ => by kernel_rfl
  | 5, _ => fun _ _ _ _ => by kernel_rfl
  | 6, _ => fun _ _ _ _ => by kernel_rfl
  | k + 7, h => absurd h (by omega)
theorem revE_wf : ∀ (k : Nat) (n out : Int), (Lit.int .i64 out).wf = true → (Lit.int .i64 (revE k n out)).wf = true
  | 0, _, _, h => h
  | k + 1, _, _, _ => revE_wf k _ _ (wf_wrap _ _)
theorem ac_Rev (k : Nat) (h : k ≤ 6) : AC Tryd.prog 10 [.V, .V] (rRev k) :=
  ac_of_run (fn := Tryd.f10) (look_ok [] env_nil) follows (by kernel_rfl) rfl
    (run2 cInt_sound' (cK_sound k) rfl (revd_run k h) fun n _ _ _ => ⟨by
      have := bounds_i64 (revE_wf k n 0 rfl)
      exact res_val ⟨show (-9223372036854775808 : Int) ≤ _ from this.1, show _ ≤ (9223372036854775807 : Int) from this.2⟩, fun _ => .mk' trivial rfl rfl⟩)
end Go.Proofs.YtbbifiogcpcpfaaDoor
