/-
  The law FnPolyDegree: its runs.
-/
import Derived.Test.YtbbifiogcpcpfaaListPe
import Derived.Test.YtbbifiogcpcpfaaVmNil
namespace Go.Proofs.Ytbbifiogcpcpfaa
open Vm

noncomputable abbrev cFD : Code := bodyOf Try.f6
noncomputable abbrev oF3 : Array Oper := opsOf (cAt cFD [1, 1, 0, 0])
noncomputable abbrev oF5 : Array Oper := opsOf (cAt cFD [1, 1, 1, 0])
def fdS (va vb : Value) (xs ys : List Value) (b o b' o' : Nat) : TS := ⟨[va, vb].map some ++ List.replicate (57 - 2) none, hpA 57 [(b, o, false, xs), (b', o', false, ys)], [(57, b, o), (58, b', o')]⟩
abbrev kF : Keep := [(57, 57, false), (58, 58, false)]
def bdA : Int := 2147483647
theorem fd_A1 (qa qb : Option Addr) (na ca nb cb : Nat) (xs ys : List Value) (b o b' o' : Nat) (g : Nat → Value) (T : Hp) :
    runV Try.prog (lookS [] [] [(7, true)]) 1 cFD ((fdS (.slice qa na ca) (.slice qb nb cb) xs ys b o b' o').fill g T) 57 60 [] [4] = some ⟨.ret, [(4, .bool true)], [], (True ∧ na ≤ 9223372036854775807) ∧ decide (lenI na > bdA) = true⟩ := by kernel_rfl
theorem fd_A2 (qa qb : Option Addr) (na ca nb cb : Nat) (xs ys : List Value) (b o b' o' : Nat) (g : Nat → Value) (T : Hp) :
    runV Try.prog (lookS [] [] [(7, false), (11, true)]) 1 cFD ((fdS (.slice qa na ca) (.slice qb nb cb) xs ys b o b' o').fill g T) 57 60 [] [4] = some ⟨.ret, [(4, .bool true)], [], (((True ∧ na ≤ 9223372036854775807) ∧ decide (lenI na > bdA) = false) ∧ nb ≤ 9223372036854775807) ∧ decide (lenI nb > bdA) = true⟩ := by kernel_rfl
def vcF (na nb : Nat) : Prop := ((((True ∧ na ≤ 9223372036854775807) ∧ decide (lenI na > bdA) = false) ∧ nb ≤ 9223372036854775807) ∧ decide (lenI nb > bdA) = false)
theorem fd_B1 (qa qb : Option Addr) (na ca nb cb : Nat) (xs ys : List Value) (b o b' o' : Nat) (g : Nat → Value) (T : Hp) :
    runV Try.prog (lookS [] [] [(7, false), (11, false), (15, true)]) 1 cFD ((fdS (.slice qa na ca) (.slice qb nb cb) xs ys b o b' o').fill g T) 57 60 [] [4] = some ⟨.ret, [(4, .bool true)], [], (vcF na nb ∧ na ≤ 9223372036854775807) ∧ (lenI na == 0) = true⟩ := by kernel_rfl
theorem fd_B2 (qa qb : Option Addr) (na ca nb cb : Nat) (xs ys : List Value) (b o b' o' : Nat) (g : Nat → Value) (T : Hp) :
    runV Try.prog (lookS [] [] [(7, false), (11, false), (15, false), (19, true)]) 1 cFD ((fdS (.slice qa na ca) (.slice qb nb cb) xs ys b o b' o').fill g T) 57 60 [] [4] = some ⟨.ret, [(4, .bool true)], [], (((vcF na nb ∧ na ≤ 9223372036854775807) ∧ (lenI na == 0) = false) ∧ nb ≤ 9223372036854775807) ∧ (lenI nb == 0) = true⟩ := by kernel_rfl
theorem fd_0 (n ca m cb : Nat) (xs ys : List Value) (b o b' o' : Nat) (g : Nat → Value) (T : Hp) :
    runV Try.prog (lookS [] [] []) 1 (cAt cFD [0]) ((fdS (slc 57 n ca) (slc 58 m cb) xs ys b o b' o').fill g T) 57 60 kF [0, 1] = some ⟨.normal, [(0, slc 57 n ca), (1, slc 58 m cb)], [(57, false, xs), (58, false, ys)], True⟩ := by kernel_rfl
def fdT (n ca m cb : Nat) (xs ys : List Value) : TS := ⟨mkT 57 [(0, slc 57 n ca), (1, slc 58 m cb)], mkT 60 [(57, false, xs), (58, false, ys)], []⟩
theorem fd_1 (n ca m cb : Nat) (xs ys : List Value) (g : Nat → Value) (T : Hp) :
    runV Try.prog (lookS [] [] [(7, false), (11, false)]) 1 (cAt cFD [1, 0]) ((fdT n ca m cb xs ys).fill g T) 57 60 kF [0, 1] = some ⟨.normal, [(0, slc 57 n ca), (1, slc 58 m cb)], [(57, false, xs), (58, false, ys)], vcF n m⟩ := by kernel_rfl
theorem fd_2 (n ca m cb : Nat) (xs ys : List Value) (g : Nat → Value) (T : Hp) :
    runLV Try.prog (lookS [] [] [(15, false), (19, false)]) oF3 (oF3.toList.take 9) ((fdT n ca m cb xs ys).fill g T) 57 60 kF [0, 1, 21] = some ⟨.normal, [(0, slc 57 n ca), (1, slc 58 m cb), (21, .bool false)], [(57, false, xs), (58, false, ys)], (((True ∧ n ≤ 9223372036854775807) ∧ (lenI n == 0) = false) ∧ m ≤ 9223372036854775807) ∧ (lenI m == 0) = false⟩ := by kernel_rfl
theorem fd_op9 : opG oF3 9 = some (some (8, false), some 22, .buildSlice 34 0 #[]) := by kernel_rfl
theorem fd_op11 : opG oF3 11 = some (some (8, false), some 24, .call { callee := .builtin .append, args := #[.tmp 22, .tmp 23], argTypes := #[34, 34] }) := by kernel_rfl
theorem fd_op13 : opG oF3 13 = some (some (8, false), some 26, .call { callee := .builtin .append, args := #[.tmp 24, .tmp 25], argTypes := #[34, 34] }) := by kernel_rfl
theorem fd_op14 : opG oF3 14 = some (some (8, false), some 27, .call { callee := .value (.func 20), args := #[.tmp 26], argTypes := #[34] }) := by kernel_rfl
theorem fd_d8 : (oF3[8]?).bind (·.dst) = some 21 := by kernel_rfl
theorem fd_3 (n ca m cb : Nat) (xs ys : List Value) (g : Nat → Value) (T : Hp) :
    runLV Try.prog (lookS [] [] []) oF3 ((oF3.toList.drop 10).take 1) ((⟨mkT 57 [(22, slc 59 0 0), (0, slc 57 n ca), (1, slc 58 m cb), (21, .bool false)], mkT 60 [(59, true, []), (57, false, xs), (58, false, ys)], []⟩ : TS).fill g T) 57 60 [(59, 59, false), (57, 57, false), (58, 58, false)] [22, 23, 0, 1, 21] =
      some ⟨.normal, [(22, slc 59 0 0), (23, slc 57 n ca), (0, slc 57 n ca), (1, slc 58 m cb), (21, .bool false)], [(59, true, []), (57, false, xs), (58, false, ys)], True⟩ := by kernel_rfl
theorem fd_4 (n ca m cb k c : Nat) (zs xs ys : List Value) (g : Nat → Value) (T : Hp) :
    runLV Try.prog (lookS [] [] []) oF3 ((oF3.toList.drop 12).take 1) ((⟨mkT 57 [(24, slc 59 k c), (0, slc 57 n ca), (1, slc 58 m cb), (21, .bool false)], mkT 60 [(59, true, zs), (57, false, xs), (58, false, ys)], []⟩ : TS).fill g T) 57 60 [(59, 59, false), (57, 57, false), (58, 58, false)] [24, 25, 0, 1, 21] =
      some ⟨.normal, [(24, slc 59 k c), (25, slc 58 m cb), (0, slc 57 n ca), (1, slc 58 m cb), (21, .bool false)], [(59, true, zs), (57, false, xs), (58, false, ys)], True⟩ := by kernel_rfl
theorem fd_5 (n ca m cb : Nat) (r : Bool) (xs ys : List Value) (g : Nat → Value) (T : Hp) :
    runLV Try.prog (lookS [] [] []) oF3 (oF3.toList.drop 15) ((⟨mkT 57 [(27, .bool r), (0, slc 57 n ca), (1, slc 58 m cb), (21, .bool false)], mkT 60 [(57, false, xs), (58, false, ys)], []⟩ : TS).fill g T) 57 60 kF [29, 0, 1] =
      some ⟨.normal, [(29, .bool (!r)), (0, slc 57 n ca), (1, slc 58 m cb)], [(57, false, xs), (58, false, ys)], True⟩ := by kernel_rfl
theorem fd_6 (n ca m cb : Nat) (xs ys : List Value) (g : Nat → Value) (T : Hp) :
    runV Try.prog (lookS [] [] []) 1 (cAt cFD [1, 1, 0, 1]) ((⟨mkT 57 [(29, .bool true), (0, slc 57 n ca), (1, slc 58 m cb)], mkT 60 [(57, false, xs), (58, false, ys)], []⟩ : TS).fill g T) 57 60 [] [4] = some ⟨.ret, [(4, .bool true)], [], True⟩ := by kernel_rfl
theorem fd_7 (n ca m cb : Nat) (xs ys : List Value) (g : Nat → Value) (T : Hp) :
    runV Try.prog (lookS [] [] []) 1 (cAt cFD [1, 1, 0, 1]) ((⟨mkT 57 [(29, .bool false), (0, slc 57 n ca), (1, slc 58 m cb)], mkT 60 [(57, false, xs), (58, false, ys)], []⟩ : TS).fill g T) 57 60 kF [0, 1] = some ⟨.normal, [(0, slc 57 n ca), (1, slc 58 m cb)], [(57, false, xs), (58, false, ys)], True⟩ := by kernel_rfl
theorem fd_op5_1 : opG oF5 1 = some (none, some 31, .call { callee := .value (.func 21), args := #[.tmp 30], argTypes := #[34] }) := by kernel_rfl
theorem fd_op5_9 : opG oF5 9 = some (some (6, true), some 39, .call { callee := .value (.func 22), args := #[.tmp 37, .tmp 38], argTypes := #[34, 34] }) := by kernel_rfl
theorem fd_op5_20 : opG oF5 20 = some (some (17, false), some 50, .call { callee := .value (.func 22), args := #[.tmp 48, .tmp 49], argTypes := #[34, 34] }) := by kernel_rfl
theorem fd_op5_23 : opG oF5 23 = some (some (17, false), some 53, .call { callee := .value (.func 23), args := #[.tmp 51, .tmp 52], argTypes := #[34, 34] }) := by kernel_rfl
theorem fd_d5_6 : (oF5[6]?).bind (·.dst) = some 36 := by kernel_rfl
theorem fd_d5_17 : (oF5[17]?).bind (·.dst) = some 47 := by kernel_rfl
theorem fd5_0 (n ca m cb : Nat) (xs ys : List Value) (g : Nat → Value) (T : Hp) :
    runLV Try.prog (lookS [] [] []) oF5 (oF5.toList.take 1) ((fdT n ca m cb xs ys).fill g T) 57 60 kF [30, 0, 1] = some ⟨.normal, [(30, slc 57 n ca), (0, slc 57 n ca), (1, slc 58 m cb)], [(57, false, xs), (58, false, ys)], True⟩ := by kernel_rfl
theorem fd5_1 (k : Int) (n ca m cb : Nat) (xs ys : List Value) (g : Nat → Value) (T : Hp) :
    runLV Try.prog (lookS [] [] [(35, true)]) oF5 ((oF5.toList.drop 2).take 7) ((⟨mkT 57 [(31, num k), (0, slc 57 n ca), (1, slc 58 m cb)], mkT 60 [(57, false, xs), (58, false, ys)], []⟩ : TS).fill g T) 57 60 kF [36, 37, 38, 0, 1] =
      some ⟨.normal, [(36, .bool true), (37, slc 57 n ca), (38, slc 57 n ca), (0, slc 57 n ca), (1, slc 58 m cb)], [(57, false, xs), (58, false, ys)], (True ∧ n ≤ 9223372036854775807) ∧ (k == IntKind.i64.wrap (lenI n - 1)) = true⟩ := by kernel_rfl
theorem fd5_2 (n ca m cb : Nat) (xs ys : List Value) (g : Nat → Value) (T : Hp) :
    runLV Try.prog (lookS [] [] [(46, true)]) oF5 (oF5.toList.drop 10) ((⟨mkT 57 [(39, .bool true), (36, .bool true), (0, slc 57 n ca), (1, slc 58 m cb)], mkT 60 [(57, false, xs), (58, false, ys)], []⟩ : TS).fill g T) 57 60 [] [4] =
      some ⟨.normal, [(4, .bool true)], [], ((True ∧ n ≤ 9223372036854775807) ∧ m ≤ 9223372036854775807) ∧ (lenI n != lenI m) = true⟩ := by kernel_rfl
theorem fd5_3 (n ca m cb : Nat) (xs ys : List Value) (g : Nat → Value) (T : Hp) :
    runLV Try.prog (lookS [] [] [(46, false)]) oF5 ((oF5.toList.drop 10).take 10) ((⟨mkT 57 [(39, .bool true), (36, .bool true), (0, slc 57 n ca), (1, slc 58 m cb)], mkT 60 [(57, false, xs), (58, false, ys)], []⟩ : TS).fill g T) 57 60 kF [48, 49, 41, 47, 0, 1] =
      some ⟨.normal, [(48, slc 57 n ca), (49, slc 58 m cb), (41, .bool true), (47, .bool false), (0, slc 57 n ca), (1, slc 58 m cb)], [(57, false, xs), (58, false, ys)], ((True ∧ n ≤ 9223372036854775807) ∧ m ≤ 9223372036854775807) ∧ (lenI n != lenI m) = false⟩ := by kernel_rfl
theorem fd5_4 (r : Bool) (n ca m cb : Nat) (xs ys : List Value) (g : Nat → Value) (T : Hp) :
    runLV Try.prog (lookS [] [] []) oF5 ((oF5.toList.drop 21).take 2) ((⟨mkT 57 [(50, .bool r), (41, .bool true), (47, .bool false), (0, slc 57 n ca), (1, slc 58 m cb)], mkT 60 [(57, false, xs), (58, false, ys)], []⟩ : TS).fill g T) 57 60 kF [51, 52, 50, 41, 47] =
      some ⟨.normal, [(51, slc 57 n ca), (52, slc 58 m cb), (50, .bool r), (41, .bool true), (47, .bool false)], [(57, false, xs), (58, false, ys)], True⟩ := by kernel_rfl
theorem fd5_5 (r s : Bool) (g : Nat → Value) (T : Hp) :
    runLV Try.prog (lookS [] [] [(54, true)]) oF5 (oF5.toList.drop 24) ((⟨mkT 57 [(53, .bool s), (50, .bool r), (41, .bool true), (47, .bool false)], mkT 60 [], []⟩ : TS).fill g T) 57 60 [] [4] =
      some ⟨.normal, [(4, .bool true)], [], True ∧ (r == s) = true⟩ := by kernel_rfl
theorem fd_ret (g : Nat → Value) (T : Hp) : runV Try.prog (lookS [] [] []) 1 (cAt cFD [1, 1, 1, 1]) ((⟨mkT 57 [(4, .bool true)], mkT 60 [], []⟩ : TS).fill g T) 57 60 [] [4] = some ⟨.ret, [(4, .bool true)], [], True⟩ := by kernel_rfl
def zeroU : Value := .agg #[.int .u64 0, .int .u64 0, .int .u64 0, .int .u64 0]
theorem fd_info : (Try.prog.info? 23).map (fun i => (i.zero, i.size, i.bytes)) = some (some zeroU, 4, 32) := by kernel_rfl
theorem fd_und : Try.prog.underlying 34 = some (.slice 23) := by kernel_rfl
theorem fd_sz : szT Try.prog 23 = some 4 := by kernel_rfl
end Go.Proofs.Ytbbifiogcpcpfaa
