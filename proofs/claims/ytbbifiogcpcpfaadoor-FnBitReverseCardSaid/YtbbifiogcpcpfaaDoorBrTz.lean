/-
  math/bits.TrailingZeros64 at a number, where the table's cell is known.
-/
import Derived.Test.YtbbifiogcpcpfaaDoorLawL
import Derived.WalkKit
import Derived.Laws.Bits64b
namespace Go.Proofs.YtbbifiogcpcpfaaDoor
open Vm

set_option maxHeartbeats 1000000 in
theorem tz_core (x k idx : Nat) (w : World) (hx0 : ((x : Int) == 0) = false)
    (key : IntKind.u64.wrap (bits BinOp.and IntKind.u64 (x : Int) (IntKind.u64.wrap (-(x : Int))) * 285870213051353865) / 288230376151711744 = (idx : Int))
    (hi : idx < 64) (hk : k < 64) (hcell : w.cell? ⟨0, idx, none⟩ = some (.int .u8 k)) :
    Calls Tryd.prog 11 #[.int .u64 x] w fun e w' => e = .returned (.int .i64 k) ∧ w' = w := by
  go_enter Tryd.func11, Tryd.ntmps11
  go_wp2_with (simp only [key])
  go_ret
  exact ⟨rfl, rfl⟩
end Go.Proofs.YtbbifiogcpcpfaaDoor
