/-
  fp.Element.Halve: half of a number modulo the prime.
-/
import Derived.Test.YtglnmklofoobkaaGen
import Derived.Laws.Bits64b
namespace Go.Proofs.Ytglnmklofoobkaa
open Vm

def shr1 (a : Int) : Int := a.fdiv (2 ^ (min (1 : Int).toNat IntKind.u64.bits))
def hw (a b : Int) : Int := bits .or .u64 (shr1 a) (IntKind.u64.wrap (b * 2 ^ (min (63 : Int).toNat IntKind.u64.bits)))
def half (z : L4) : L4 := ⟨hw z.a z.b, hw z.b z.c, hw z.c z.d, shr1 z.d⟩
section
variable (s k : Int → Int → Int → Int)
def fpHalveT (x : L4) : Option Seen :=
  match bits .and .u64 x.a 1 == 1 with
  | true => chain s k x qL True fun z _ φ => sUnit c4 (half z) φ
  | false => sUnit c4 (half x) True
abbrev eFpHalve : List (Nat × Sm) := [eV 50 kVVV (gW s k)]
theorem fpHalve_run : RunW Try.prog (look (eFpHalve s k)) 1 Try.f45 4 c4 (fpHalveT s k) := fun _ _ => by kernel_rfl
end
theorem shr1_eq (a : Int) : shr1 a = a / 2 := by
  unfold shr1
  rw [show (min (1 : Int).toNat IntKind.u64.bits) = 1 from rfl, Int.fdiv_eq_ediv_of_nonneg _ (by decide)]; rfl
theorem hw_eq {a b : Int} (ha : wordOK a) (hb : wordOK b) : hw a b = a / 2 + 9223372036854775808 * (b % 2) := by
  obtain ⟨a0, a1⟩ := ha
  obtain ⟨b0, b1⟩ := hb
  unfold hw
  rw [shr1_eq, show (min (63 : Int).toNat IntKind.u64.bits) = 63 from rfl, IntKind.wrap_u64]
  have e : b * 2 ^ 63 % 18446744073709551616 = 9223372036854775808 * (b % 2) := by
    rw [show (2 : Int) ^ 63 = 9223372036854775808 from rfl]; omega
  rw [e]
  obtain ⟨A, hA⟩ := Int.eq_ofNat_of_zero_le (a := a / 2) (by omega)
  obtain ⟨B, hB⟩ := Int.eq_ofNat_of_zero_le (a := b % 2) (by omega)
  have h := Nat.two_pow_add_eq_or_of_lt (i := 63) (b := A) (by omega) B
  rw [show (2 : Nat) ^ 63 = 9223372036854775808 from rfl] at h
  rw [hA, hB, show (9223372036854775808 : Int) * (B : Int) = ((9223372036854775808 * B : Nat) : Int) from (Int.natCast_mul _ _).symm, bits_or_u64_nat A (9223372036854775808 * B) (by omega) (by omega), Nat.or_comm, ← h]
  omega
theorem half_ok {z : L4} (hz : z.ok) : (half z).ok ∧ (half z).v = z.v / 2 := by
  obtain ⟨ha, hb, hc, hd⟩ := hz
  have e1 := hw_eq ha hb
  have e2 := hw_eq hb hc
  have e3 := hw_eq hc hd
  have e4 := shr1_eq z.d
  obtain ⟨_, _⟩ := ha
  obtain ⟨_, _⟩ := hb
  obtain ⟨_, _⟩ := hc
  obtain ⟨_, _⟩ := hd
  refine ⟨⟨?_, ?_, ?_, ?_⟩, ?_⟩
  · simp only [half, e1, wordOK]; omega
  · simp only [half, e2, wordOK]; omega
  · simp only [half, e3, wordOK]; omega
  · simp only [half, e4, wordOK]; omega
  · simp only [half, L4.v, e1, e2, e3, e4]; omega
theorem and_one {a : Int} (ha : wordOK a) : bits .and .u64 a 1 = a % 2 := by
  obtain ⟨a0, a1⟩ := ha
  obtain ⟨A, rfl⟩ := Int.eq_ofNat_of_zero_le a0
  have := bits_and_u64_nat A 1 (by omega) (by omega)
  rw [show ((1 : Nat) : Int) = 1 from rfl] at this
  rw [this, Nat.and_one_is_mod]; omega

/-- Half of a number, modulo the prime. -/
def halfm (x : L4) : L4 := lim (if x.v % 2 = 1 then (x.v + qL.v) / 2 else x.v / 2)
def lowh (x : L4) : Prop := x.v < qL.v
theorem halfm_v {x : L4} (hx : x.ok) (h : lowh x) : (halfm x).v = if x.v % 2 = 1 then (x.v + qL.v) / 2 else x.v / 2 := by
  have bx := v_bd hx
  have bq := qL_v
  unfold lowh at h
  unfold halfm
  rw [v_lim']; split <;> omega
theorem fpHalveT_eq {x : L4} (hx : x.ok) (h : lowh x) : Sees [(halfm x).cells] (.val (.tuple #[])) (fpHalveT sw kw x) := by
  have hv := halfm_v hx h
  have bx := v_bd hx
  have bq := qL_v
  have ha := and_one hx.a
  have hodd : x.a % 2 = x.v % 2 := by unfold L4.v; omega
  unfold lowh at h
  unfold fpHalveT
  rw [ha, hodd]
  split
  · rename_i h1
    simp only [beq_iff_eq] at h1
    obtain ⟨z, k, ψ, e, hz, hψ, hs, k0, k1⟩ := chain_add hx qL_ok (φ := True) (fun z _ φ => sUnit c4 (half z) φ) trivial
    rw [e]
    have bz := v_bd hz
    obtain ⟨h3, h4⟩ := half_ok hz
    refine .mk' hψ ?_ rfl
    show [(half z).cells] = _
    rw [show half z = halfm x from v_inj h3 (lim_ok _) (by rw [hv, h4, if_pos h1]; omega)]
  · rename_i h1
    simp only [beq_eq_false_iff_ne, ne_eq] at h1
    obtain ⟨h3, h4⟩ := half_ok hx
    refine .mk' trivial ?_ rfl
    show [(half x).cells] = _
    rw [show half x = halfm x from v_inj h3 (lim_ok _) (by rw [hv, h4, if_neg h1])]
theorem ac_fpHalve : AC Try.prog 45 [.W 4] (rWu c4 halfm lowh) :=
  ac_of_run (fn := Try.f45) (look_ok (eFpHalve sw kw) (env_V ac_Add64 env_nil)) follows (by kernel_rfl) rfl
    (runW c4_sound (fpHalve_run _ _) fun x hx => ⟨res_upd (ok4.2 (lim_ok _)) unit_ok, fun hd => fpHalveT_eq (in4 hx) hd⟩)
/-- Half and half is the whole. -/
theorem half_half {x : L4} (hx : x.ok) (h : lowh x) : lowh (halfm x) ∧ addm qL (halfm x) (halfm x) = x := by
  have hv := halfm_v hx h
  have bx := v_bd hx
  have bq := qL_v
  unfold lowh at *
  have hl : (halfm x).v < qL.v := by rw [hv]; split <;> omega
  refine ⟨hl, v_inj (lim_ok _) hx ?_⟩
  rw [addm_v (x := halfm x) (y := halfm x) (lim_ok _) (lim_ok _) ⟨hl, hl⟩, hv]
  split <;> split <;> omega
end Go.Proofs.Ytglnmklofoobkaa
