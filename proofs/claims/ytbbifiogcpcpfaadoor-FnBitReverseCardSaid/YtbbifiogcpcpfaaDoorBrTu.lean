/-
  fft.ZZBitReverse, spec.Turned, impl.BitReverse: as they are called.
-/
import Derived.Test.YtbbifiogcpcpfaaDoorBrZz
namespace Go.Proofs.YtbbifiogcpcpfaaDoor
open Vm

def zero4 : L4 := ⟨0, 0, 0, 0⟩
def tuS (k : Nat) (xs : List Value) (c b o : Nat) : TS := ⟨[slc 26 (2 ^ k) c, num k].map some ++ List.replicate (26 - 2) none, hpA 26 [(b, o, false, xs)], []⟩
theorem tu_0 : ∀ k : Nat, k ≤ 6 → ∀ (xs : List Value) (c b o : Nat) (g : Nat → Value) (T : Hp), runV Tryd.prog (look []) 1 (cAt cTu [0]) ((tuS k xs c b o).fill g T) 26 28 [(26, 26, false)] [0, 1] =
    some ⟨.normal, [(0, slc 26 (2 ^ k) c), (1, num k)], [(26, false, xs)], True⟩
  | 0, _ => fun _ _ _ _ _ _ => by kernel_rfl
  | 1, _ => fun _ _ _ _ _ _ => by kernel_rfl
  | 2, _ => fun _ _ _ _ _ _ => by kernel_rfl
  | 3, _ => fun _ _ _ _ _ _ => by kernel_rfl
  | 4, _ => fun _ _ _ _ _ _ => by kernel_rfl
  | 5, _ => fun _ _ _ _ _ _ => by kernel_rfl
  | 6, _ => fun _ _ _ _ _ _ => by kernel_rfl
  | k + 7, h => absurd h (by omega)
theorem tu_1 : ∀ k : Nat, k ≤ 6 → ∀ (xs : List Value) (c : Nat) (g : Nat → Value) (T : Hp), runV Tryd.prog (look []) 1 (cAt cTu [1, 0]) ((⟨mkT 26 [(0, slc 26 (2 ^ k) c), (1, num k)], mkT 28 [(26, false, xs)], []⟩ : TS).fill g T) 26 28 [(26, 26, false), (9, 27, false)] [0, 1, 5] =
    some ⟨.normal, [(0, slc 26 (2 ^ k) c), (1, num k), (5, slc 27 (2 ^ k) (2 ^ k))], [(26, false, xs), (27, true, flatL (lst k fun _ => zero4))], True⟩
  | 0, _ => fun _ _ _ _ => by kernel_rfl
  | 1, _ => fun _ _ _ _ => by kernel_rfl
  | 2, _ => fun _ _ _ _ => by kernel_rfl
  | 3, _ => fun _ _ _ _ => by kernel_rfl
  | 4, _ => fun _ _ _ _ => by kernel_rfl
  | 5, _ => fun _ _ _ _ => by kernel_rfl
  | 6, _ => fun _ _ _ _ => by kernel_rfl
  | k + 7, h => absurd h (by omega)
theorem tu_2 : ∀ k : Nat, k ≤ 6 → ∀ (f : Nat → L4) (c : Nat) (g : Nat → Value) (T : Hp), runV Tryd.prog (look [eV 10 [.V, .V] (rRev k)]) 66 (cAt cTu [1, 1]) ((⟨mkT 26 [(0, slc 26 (2 ^ k) c), (1, num k), (5, slc 27 (2 ^ k) (2 ^ k))], mkT 28 [(26, false, flatL (lst k f)), (27, true, flatL (lst k fun _ => zero4))], []⟩ : TS).fill g T) 26 28 [(27, 27, false)] [4] =
    some ⟨.ret, [(4, slc 27 (2 ^ k) (2 ^ k))], [(27, true, flatL (lst k (rvd k f)))], True⟩
  | 0, _ => fun _ _ _ _ => by kernel_rfl
  | 1, _ => fun _ _ _ _ => by kernel_rfl
  | 2, _ => fun _ _ _ _ => by kernel_rfl
  | 3, _ => fun _ _ _ _ => by kernel_rfl
  | 4, _ => fun _ _ _ _ => by kernel_rfl
  | 5, _ => fun _ _ _ _ => by kernel_rfl
  | 6, _ => fun _ _ _ _ => by kernel_rfl
  | k + 7, h => absurd h (by omega)
theorem tu_vres : ∀ k : Nat, k ≤ 6 → ∀ (us : List Value) (g : Nat → Value) (T : Hp), vres Tryd.prog Tryd.f6 ((⟨mkT 26 [(4, slc 27 (2 ^ k) (2 ^ k))], mkT 28 [(27, true, us)], []⟩ : TS).fill g T) = some (slc 27 (2 ^ k) (2 ^ k))
  | 0, _ => fun _ _ _ => by kernel_rfl
  | 1, _ => fun _ _ _ => by kernel_rfl
  | 2, _ => fun _ _ _ => by kernel_rfl
  | 3, _ => fun _ _ _ => by kernel_rfl
  | 4, _ => fun _ _ _ => by kernel_rfl
  | 5, _ => fun _ _ _ => by kernel_rfl
  | 6, _ => fun _ _ _ => by kernel_rfl
  | k + 7, h => absurd h (by omega)

noncomputable abbrev cBr : Code := bodyOf Tryd.f5
noncomputable abbrev oBr3 : Array Oper := opsOf (cAt cBr [1, 1, 0])
noncomputable abbrev oBr4 : Array Oper := opsOf (cAt cBr [1, 1, 1, 0])
noncomputable abbrev oBr5 : Array Oper := opsOf (cAt cBr [1, 1, 1, 1, 0])
abbrev lBr : List (Nat × Nat × Nat) := [(23, 0, 0)]
abbrev rBr (xs : List Value) : List (Nat × Bool × List Value) := [(22, false, xs), (23, false, tabV)]
abbrev kBr : Keep := [(22, 22, false), (23, 23, false)]
theorem br_op31 : opAt oBr3 1 = some ⟨some 17, .call { callee := .value (.func 7), args := #[.tmp 16], argTypes := #[22] }⟩ := by kernel_rfl
noncomputable abbrev brZz : Call := match opAt oBr4 1 with
  | some (_, .call c) => c
  | _ => default
theorem br_op41 : opAt oBr4 1 = some ⟨some 19, .call brZz⟩ := by kernel_rfl
theorem br_c41 : brZz.callee = .value (.func 8) := by kernel_rfl
theorem br_a41 : brZz.args = #[.tmp 18] := by kernel_rfl
noncomputable abbrev brTold : Call := match opAt oBr5 1 with
  | some (_, .call c) => c
  | _ => default
theorem br_op51 : opAt oBr5 1 = some ⟨some 21, .call brTold⟩ := by kernel_rfl
theorem br_c51 : brTold.callee = .value (.func 9) := by kernel_rfl
theorem br_a51 : brTold.args = #[.tmp 20] := by kernel_rfl
def brS (xs : List Value) (n c b o : Nat) : TS := ⟨[slc 22 n c].map some ++ List.replicate (22 - 1) none, hpA 22 [(b, o, false, xs), (0, 0, false, tabV)], lBr⟩
section
variable (xs us : List Value) (n c b o : Nat) (g : Nat → Value) (T : Hp)
theorem br_0 : runV Tryd.prog (lookS [] [] []) 1 (cAt cBr [0]) ((brS xs n c b o).fill g T) 22 27 kBr [0] = some ⟨.normal, [(0, slc 22 n c)], rBr xs, True⟩ := by kernel_rfl
theorem br_2 : runLV Tryd.prog (lookS [] [] []) oBr3 (oBr3.toList.take 1) ((⟨mkT 22 [(0, slc 22 n c)], mkT 27 (rBr xs), lBr⟩ : TS).fill g T) 22 27 kBr [16] = some ⟨.normal, [(16, slc 22 n c)], rBr xs, True⟩ := by kernel_rfl
theorem br_3 : runLV Tryd.prog (lookS [] [] []) oBr3 (oBr3.toList.drop 2) ((⟨mkT 22 [(17, slc 24 n c)], mkT 27 [(24, true, us), (23, false, tabV)], lBr⟩ : TS).fill g T) 22 27 [(24, 24, false), (23, 23, false)] [3] = some ⟨.normal, [(3, slc 24 n c)], [(24, true, us), (23, false, tabV)], True⟩ := by kernel_rfl
theorem br_4 : runLV Tryd.prog (lookS [] [] []) oBr4 (oBr4.toList.take 1) ((⟨mkT 22 [(3, slc 24 n c)], mkT 27 [(24, true, us), (23, false, tabV)], lBr⟩ : TS).fill g T) 22 27 [(24, 24, false), (23, 23, false)] [18, 3] = some ⟨.normal, [(18, slc 24 n c), (3, slc 24 n c)], [(24, true, us), (23, false, tabV)], True⟩ := by kernel_rfl
theorem br_4' : runLV Tryd.prog (lookS [] [] []) oBr4 (oBr4.toList.drop 2) ((⟨mkT 22 [(19, .tuple #[]), (3, slc 24 n c)], mkT 27 [(24, true, us)], []⟩ : TS).fill g T) 22 27 [(24, 24, false)] [3] = some ⟨.normal, [(3, slc 24 n c)], [(24, true, us)], True⟩ := by kernel_rfl
theorem br_5 : runLV Tryd.prog (lookS [] [] []) oBr5 (oBr5.toList.take 1) ((⟨mkT 22 [(3, slc 24 n c)], mkT 27 [(24, true, us)], []⟩ : TS).fill g T) 22 27 [(24, 24, false)] [20] = some ⟨.normal, [(20, slc 24 n c)], [(24, true, us)], True⟩ := by kernel_rfl
theorem br_6 : runLV Tryd.prog (lookS [] [] []) oBr5 (oBr5.toList.drop 2) ((⟨mkT 22 [(21, slc 25 n c)], mkT 27 [(25, true, us)], []⟩ : TS).fill g T) 22 27 [(25, 25, false)] [2] = some ⟨.normal, [(2, slc 25 n c)], [(25, true, us)], True⟩ := by kernel_rfl
theorem br_7 : runV Tryd.prog (lookS [] [] []) 1 (cAt cBr [1, 1, 1, 1, 1]) ((⟨mkT 22 [(2, slc 25 n c)], mkT 27 [(25, true, us)], []⟩ : TS).fill g T) 22 27 [(25, 25, false)] [2] = some ⟨.ret, [(2, slc 25 n c)], [(25, true, us)], True⟩ := by kernel_rfl
theorem br_vres : vres Tryd.prog Tryd.f5 ((⟨mkT 22 [(2, slc 25 n c)], mkT 27 [(25, true, us)], []⟩ : TS).fill g T) = some (slc 25 n c) := by kernel_rfl
theorem zz_vres : vres Tryd.prog Tryd.f8 ((⟨mkT 39 [], mkT 41 (rZ us), lZ b o⟩ : TS).fill g T) = some (.tuple #[]) := by kernel_rfl
end
theorem br_1 : ∀ k : Nat, k ≤ 6 → ∀ (xs : List Value) (c : Nat) (g : Nat → Value) (T : Hp), runV Tryd.prog (look []) 1 (cAt cBr [1, 0]) ((⟨mkT 22 [(0, slc 22 (2 ^ k) c)], mkT 27 (rBr xs), lBr⟩ : TS).fill g T) 22 27 kBr [0] =
    some ⟨.normal, [(0, slc 22 (2 ^ k) c)], rBr xs, True⟩
  | 0, _ => fun _ _ _ _ => by kernel_rfl
  | 1, _ => fun _ _ _ _ => by kernel_rfl
  | 2, _ => fun _ _ _ _ => by kernel_rfl
  | 3, _ => fun _ _ _ _ => by kernel_rfl
  | 4, _ => fun _ _ _ _ => by kernel_rfl
  | 5, _ => fun _ _ _ _ => by kernel_rfl
  | 6, _ => fun _ _ _ _ => by kernel_rfl
  | k + 7, h => absurd h (by omega)
end Go.Proofs.YtbbifiogcpcpfaaDoor
