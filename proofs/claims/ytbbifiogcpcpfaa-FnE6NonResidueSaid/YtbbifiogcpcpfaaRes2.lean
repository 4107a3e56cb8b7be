/-
  Nine times a number by doubling and by adding; so both products with 9 + u are the same.
-/
import Derived.Test.YtbbifiogcpcpfaaE2Res
namespace Go.Proofs.Ytbbifiogcpcpfaa
open Vm

theorem d3_v {x : L4} (hx : x.ok) : (dblm (dblm (dblm x))).v = (8 * x.v) % 21888242871839275222246405745257275088696311157297823662689037894645226208583 := by
  have ad : ∀ y z : L4, (addm qL y z).ok := fun y z => lim_ok _
  unfold dblm
  rw [addm_vq (ad _ _) (ad _ _), addm_vq (ad _ _) (ad _ _), addm_vq hx hx]
  omega
theorem nine_eq {x : L4} (hx : x.ok) (h : lt4 x) : addm qL (dblm (dblm (dblm x))) x = o_nine x := by
  refine v_inj (lim_ok _) (timesO_ok qL x 9) ?_
  have e := (times_facts hx h 9).2.2
  have ad : (dblm (dblm (dblm x))).ok := lim_ok _
  rw [addm_vq ad hx, d3_v hx]
  show _ = (timesO addm qL x 9).v
  rw [e, Int.emod_add_emod, show ((9 : Nat) : Int) * x.v = 8 * x.v + x.v by omega]
theorem res_eq {x : L8} (hx : x.ok) (h : lt8 x) : o_impl2Res x = o_res2 x := by
  show (⟨subm qL (addm qL (dblm (dblm (dblm x.p))) x.p) x.q, addm qL (addm qL (dblm (dblm (dblm x.q))) x.q) x.p⟩ : L8) = ⟨subm qL (o_nine x.p) x.q, addm qL (o_nine x.q) x.p⟩
  rw [nine_eq hx.p h.p, nine_eq hx.q h.q]
theorem res_vc1 {x : L8} (h : lt8 x) : p_impl2Res x :=
  ⟨trivial, ⟨⟨⟨⟨⟨⟨⟨⟨⟨⟨⟨⟨trivial, ⟨h.p, h.p⟩⟩, ⟨addm_lt _ _, addm_lt _ _⟩⟩, ⟨addm_lt _ _, addm_lt _ _⟩⟩, ⟨addm_lt _ _, h.p⟩⟩, ⟨addm_lt _ _, h.q⟩⟩, ⟨h.q, h.q⟩⟩, ⟨addm_lt _ _, addm_lt _ _⟩⟩, ⟨addm_lt _ _, addm_lt _ _⟩⟩,
    ⟨addm_lt _ _, h.q⟩⟩, ⟨addm_lt _ _, h.p⟩⟩, trivial⟩, trivial⟩⟩
theorem res_vc2 {x : L8} (hx : x.ok) (h : lt8 x) : p_res2 x :=
  ⟨⟨⟨⟨trivial, ⟨trivial, (times_facts hx.p h.p 9).2.1⟩⟩, ⟨(times_facts hx.p h.p 9).1, h.q⟩⟩, ⟨trivial, (times_facts hx.q h.q 9).2.1⟩⟩, ⟨(times_facts hx.q h.q 9).1, h.p⟩⟩
end Go.Proofs.Ytbbifiogcpcpfaa
