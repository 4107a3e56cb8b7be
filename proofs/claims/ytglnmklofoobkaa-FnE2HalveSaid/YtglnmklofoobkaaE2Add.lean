/-
  E2.Add: the sum of two numbers of E2 is that of their parts; the same of spec.Plus2; the law FnE2Add.
-/
import Derived.Test.YtglnmklofoobkaaFpAdd
import Derived.Test.YtglnmklofoobkaaE2Bin
namespace Go.Proofs.Ytglnmklofoobkaa
open Vm

theorem ac_fpAdd' : AC Try.prog 54 [.W 4, .R 4, .R 4] (rOp (addm qL) (lowm qL)) := ac_fpAdd
section
variable (op : L4 → L4 → L4) (φ : L4 → L4 → Prop) (op8 : L8 → L8 → L8) (φ8 : L8 → L8 → Prop)
abbrev eAddE2 : List (Nat × Sm) := [eM 54 [.W 4, .R 4, .R 4] (rOp op φ)]
theorem addE2_run : RunWRR Try.prog (look (eAddE2 op φ)) 1 Try.f48 8 c8 (twoT op φ) :=
  ⟨fun _ _ _ _ _ _ => by kernel_rfl, fun _ _ _ _ _ => by kernel_rfl, fun _ _ _ _ _ => by kernel_rfl, fun _ _ _ _ => by kernel_rfl⟩
abbrev eE2Add : List (Nat × Sm) := [eM 48 [.W 8, .R 8, .R 8] (rOp8u op8 φ8)]
theorem e2Add_run : RunWRR Try.prog (look (eE2Add op8 φ8)) 1 Try.f37 8 c8 (zT op8 φ8) :=
  ⟨fun _ _ _ _ _ _ => by kernel_rfl, fun _ _ _ _ _ => by kernel_rfl, fun _ _ _ _ _ => by kernel_rfl, fun _ _ _ _ => by kernel_rfl⟩
abbrev eImplAdd : List (Nat × Sm) := [eM 37 [.W 8, .R 8, .R 8] (rOp8 op8 φ8), eV 23 [.V] rSame8, eV 24 [.V] rSame8]
theorem implAdd_run : Run2 Try.prog (look (eImplAdd op8 φ8)) 1 Try.f21 .V .V c8.agg c8.agg fun x y => some ⟨[], .val (av8 (op8 x y)), True ∧ φ8 x y⟩ := fun _ _ _ _ => by kernel_rfl
abbrev ePlus2 : List (Nat × Sm) := [eV 31 [.V, .V] (rVV4 op φ)]
theorem plus2_run : Run2 Try.prog (look (ePlus2 op φ)) 1 Try.f16 .V .V c8.agg c8.agg fun x y => some ⟨[], .val (av8 (two op x y)), (True ∧ φ x.p y.p) ∧ φ x.q y.q⟩ := fun _ _ _ _ => by kernel_rfl
end
theorem ac_addE2 : AC Try.prog 48 [.W 8, .R 8, .R 8] (rOp8u (two (addm qL)) (both (lowm qL))) :=
  ac_of_run (fn := Try.f48) (look_ok (eAddE2 (addm qL) (lowm qL)) (env_M ac_fpAdd' env_nil)) follows (by kernel_rfl) rfl
    (runWRR c8_sound i8 (addE2_run _ _) fun x y _ _ => ⟨res_upd (ok8.2 (two_ok (fun _ _ => lim_ok _) x y)) unit_ok, fun hd => .mk' ⟨⟨trivial, hd.1⟩, hd.2⟩ rfl rfl⟩)
theorem ac_e2Add : AC Try.prog 37 [.W 8, .R 8, .R 8] (rOp8 (two (addm qL)) (both (lowm qL))) :=
  ac_of_run (fn := Try.f37) (look_ok (eE2Add (two (addm qL)) (both (lowm qL))) (env_M ac_addE2 env_nil)) follows (by kernel_rfl) rfl
    (runWRR c8_sound i8 (e2Add_run _ _) fun x y _ _ => ⟨res_same (ok8.2 (two_ok (fun _ _ => lim_ok _) x y)), fun hd => .mk' ⟨trivial, hd⟩ rfl rfl⟩)
theorem ac_implAdd : AC Try.prog 21 [.V, .V] (rVV8 (two (addm qL)) (both (lowm qL))) :=
  ac_of_run (fn := Try.f21) (look_ok (eImplAdd (two (addm qL)) (both (lowm qL))) (env_M ac_e2Add (env_V ac_made2 (env_V ac_told2 env_nil)))) follows (by kernel_rfl) rfl
    (run2 c8a c8a rfl (implAdd_run _ _) fun x y _ _ => ⟨res_val (av8_ok (two_ok (fun _ _ => lim_ok _) x y)), fun hd => .mk' ⟨trivial, hd⟩ rfl rfl⟩)
theorem ac_Plus2 : AC Try.prog 16 [.V, .V] (rVV8 (two (addm qL)) (both (lowm qL))) :=
  ac_of_run (fn := Try.f16) (look_ok (ePlus2 (addm qL) (lowm qL)) (env_V ac_plusW env_nil)) follows (by kernel_rfl) rfl
    (run2 c8a c8a rfl (plus2_run _ _) fun x y _ _ => ⟨res_val (av8_ok (two_ok (fun _ _ => lim_ok _) x y)), fun hd => .mk' ⟨⟨trivial, hd.1⟩, hd.2⟩ rfl rfl⟩)
end Go.Proofs.Ytglnmklofoobkaa
