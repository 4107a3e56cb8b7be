/-
  Lists that are made number by number: parts of rows; calls that make lists; what polynomials share.
-/
import Derived.Test.YtbbifiogcpcpfaaListGen
import Derived.Test.YtbbifiogcpcpfaaFrOps
namespace Go.Proofs.Ytbbifiogcpcpfaa
open Vm

/-- The first numbers of one list, and the others of another. -/
def mix (us zs : List L4) (i : Nat) : List L4 := us.take i ++ zs.drop i
theorem mix_0 (us zs : List L4) : mix us zs 0 = zs := by simp [mix]
theorem mix_all {us zs : List L4} {n : Nat} (h1 : us.length ≤ n) (h2 : zs.length ≤ n) : mix us zs n = us := by
  unfold mix; rw [List.take_of_length_le h1, List.drop_eq_nil_of_le h2, List.append_nil]
theorem mix_at {us zs : List L4} {i : Nat} (h : i < zs.length) : flatL (mix us zs i) = flatL (us.take i) ++ (zs[i].cells ++ flatL (zs.drop (i + 1))) := by
  unfold mix; rw [flatL_append, List.drop_eq_getElem_cons h]; rfl
theorem mix_next {us zs : List L4} {i : Nat} (h : i < us.length) : flatL (us.take i) ++ (us[i].cells ++ flatL (zs.drop (i + 1))) = flatL (mix us zs (i + 1)) := by
  unfold mix; rw [flatL_append, ← List.take_append_getElem h, flatL_append, List.append_assoc]
  simp [flatL]
theorem flat_parts {us zs : List L4} {x : L4} {i : Nat} : Flat (flatL (us.take i) ++ (x.cells ++ flatL (zs.drop (i + 1)))) := fun v hv => by
  simp only [List.mem_append] at hv
  rcases hv with hv | hv | hv
  · exact flatL_flat _ v hv
  · exact flat4 x v hv
  · exact flatL_flat _ v hv

def vcI (n : Nat) (i : Int) (s : Nat) : Prop := (0 ≤ i ∧ i < n) ∧ 0 + i.toNat * 4 = s
theorem vcI_mk {n i : Nat} (h : i < n) : vcI n i (4 * i) := ⟨⟨by omega, by omega⟩, by omega⟩

theorem zip_ok {op : L4 → L4 → L4} (h : ∀ x y, (op x y).ok) (xs ys : List L4) : okL (List.zipWith op xs ys) := fun z hz => by
  obtain ⟨i, hi⟩ := List.getElem?_of_mem hz
  rw [List.getElem?_zipWith] at hi
  split at hi
  · simp only [Option.some.injEq] at hi; subst hi; exact h _ _
  · cases hi
theorem repL_flat : ∀ n, repL n z4.cells = flatL (List.replicate n z4)
  | 0 => rfl
  | n + 1 => by rw [repL, List.replicate_succ, flatL, repL_flat n]
theorem okL_zero (n : Nat) : okL (List.replicate n z4) := fun x hx => by rw [List.eq_of_mem_replicate hx]; exact z4_ok

theorem ps_und : Try.prog.underlying 63 = some (.slice 76) := by kernel_rfl
theorem ps_sz : szT Try.prog 76 = some 4 := by kernel_rfl
theorem ps_zero : zeroL Try.prog 76 = some z4.cells := by kernel_rfl
theorem ps_info : (Try.prog.info? 76).map (fun i => (i.zero, i.size, i.bytes)) = some (some (.agg #[.int .u64 0, .int .u64 0, .int .u64 0, .int .u64 0]), 4, 32) := by kernel_rfl
end Go.Proofs.Ytbbifiogcpcpfaa
