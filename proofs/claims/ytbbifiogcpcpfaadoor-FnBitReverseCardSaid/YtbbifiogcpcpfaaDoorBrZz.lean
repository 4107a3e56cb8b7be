/-
  fft.ZZBitReverse, spec.Turned: lists of 2^k numbers, put in the order of reversed numbers: the runs.
-/
import Derived.Test.YtbbifiogcpcpfaaDoorBrRev
namespace Go.Proofs.YtbbifiogcpcpfaaDoor
open Vm

/-- The number i of k bits from its other end. -/
def rvN : Nat → Nat → Nat → Nat
  | 0, _, out => out
  | j + 1, n, out => rvN j (n / 2) (2 * out + n % 2)
/-- A list of 2^k numbers by their places. -/
def lst (k : Nat) (f : Nat → L4) : List L4 := (List.range (2 ^ k)).map f
def rvd (k : Nat) (f : Nat → L4) (i : Nat) : L4 := f (rvN k i 0)
noncomputable abbrev cZ : Code := bodyOf Tryd.f8
noncomputable abbrev oZ1 : Array Oper := opsOf (cAt cZ [1, 0])
noncomputable abbrev cTu : Code := bodyOf Tryd.f6
def u64v (n : Int) : Value := .int .u64 n
abbrev eZ (rv : Int → Int) : List (Nat × Sm) := [eV 12 [.V] (rU rv)]
abbrev kZ : Keep := [(39, 39, false), (40, 40, false)]
abbrev rZ (xs : List Value) : List (Nat × Bool × List Value) := [(39, true, xs), (40, false, tabV)]
abbrev lZ (b o : Nat) : List (Nat × Nat × Nat) := [(39, b, o), (40, 0, 0)]
def zzS (xs : List Value) (n c b o : Nat) : TS := ⟨[slc 39 n c].map some ++ List.replicate (39 - 1) none, hpA 39 [(b, o, true, xs), (0, 0, false, tabV)], lZ b o⟩
theorem zz_0 : ∀ k : Nat, k ≤ 6 → ∀ (xs : List Value) (c b o : Nat) (g : Nat → Value) (T : Hp), runV Tryd.prog (look []) 1 (cAt cZ [0]) ((zzS xs (2 ^ k) c b o).fill g T) 39 41 kZ [0, 2] =
    some ⟨.normal, [(0, slc 39 (2 ^ k) c), (2, u64v (2 ^ k : Nat))], rZ xs, True⟩
  | 0, _ => fun _ _ _ _ _ _ => by kernel_rfl
  | 1, _ => fun _ _ _ _ _ _ => by kernel_rfl
  | 2, _ => fun _ _ _ _ _ _ => by kernel_rfl
  | 3, _ => fun _ _ _ _ _ _ => by kernel_rfl
  | 4, _ => fun _ _ _ _ _ _ => by kernel_rfl
  | 5, _ => fun _ _ _ _ _ _ => by kernel_rfl
  | 6, _ => fun _ _ _ _ _ _ => by kernel_rfl
  | k + 7, h => absurd h (by omega)
theorem zz_op11 : opAt oZ1 1 = some ⟨some 10, .call { callee := .value (.func 11), args := #[.tmp 9], argTypes := #[27] }⟩ := by kernel_rfl
theorem zz_1 (xs : List Value) (v : Int) (n c b o : Nat) (g : Nat → Value) (T : Hp) : runLV Tryd.prog (look []) oZ1 (oZ1.toList.take 1) ((⟨mkT 39 [(0, slc 39 n c), (2, u64v v)], mkT 41 (rZ xs), lZ b o⟩ : TS).fill g T) 39 41 kZ [9, 0, 2] =
    some ⟨.normal, [(9, u64v v), (0, slc 39 n c), (2, u64v v)], rZ xs, True⟩ := by kernel_rfl
theorem zz_1' : ∀ k : Nat, k ≤ 6 → ∀ (xs : List Value) (v : Int) (n c b o : Nat) (g : Nat → Value) (T : Hp), runLV Tryd.prog (look []) oZ1 (oZ1.toList.drop 2) ((⟨mkT 39 [(10, num k), (0, slc 39 n c), (2, u64v v)], mkT 41 (rZ xs), lZ b o⟩ : TS).fill g T) 39 41 kZ [3, 0, 2] =
    some ⟨.normal, [(3, u64v ((64 - k : Nat) : Int)), (0, slc 39 n c), (2, u64v v)], rZ xs, True⟩
  | 0, _ => fun _ _ _ _ _ _ _ _ => by kernel_rfl
  | 1, _ => fun _ _ _ _ _ _ _ _ => by kernel_rfl
  | 2, _ => fun _ _ _ _ _ _ _ _ => by kernel_rfl
  | 3, _ => fun _ _ _ _ _ _ _ _ => by kernel_rfl
  | 4, _ => fun _ _ _ _ _ _ _ _ => by kernel_rfl
  | 5, _ => fun _ _ _ _ _ _ _ _ => by kernel_rfl
  | 6, _ => fun _ _ _ _ _ _ _ _ => by kernel_rfl
  | k + 7, h => absurd h (by omega)
theorem zz_2 : ∀ k : Nat, k ≤ 6 → ∀ (f : Nat → L4) (c b o : Nat) (g : Nat → Value) (T : Hp), runV Tryd.prog (look (eZ (rev64 revB))) 66 (cAt cZ [1, 1]) ((⟨mkT 39 [(3, u64v ((64 - k : Nat) : Int)), (0, slc 39 (2 ^ k) c), (2, u64v (2 ^ k : Nat))], mkT 41 (rZ (flatL (lst k f))), lZ b o⟩ : TS).fill g T) 39 41 kZ [] =
    some ⟨.normal, [], rZ (flatL (lst k (rvd k f))), True⟩
  | 0, _ => fun _ _ _ _ _ _ => by kernel_rfl
  | 1, _ => fun _ _ _ _ _ _ => by kernel_rfl
  | 2, _ => fun _ _ _ _ _ _ => by kernel_rfl
  | 3, _ => fun _ _ _ _ _ _ => by kernel_rfl
  | 4, _ => fun _ _ _ _ _ _ => by kernel_rfl
  | 5, _ => fun _ _ _ _ _ _ => by kernel_rfl
  | 6, _ => fun _ _ _ _ _ _ => by kernel_rfl
  | k + 7, h => absurd h (by omega)
end Go.Proofs.YtbbifiogcpcpfaaDoor
