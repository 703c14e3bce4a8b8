/-
  math/bits.TrailingZeros at 2, 8 and 16: the table's cells are handed over.
-/
import Derived.Test.YtpoepgnapneeaaaGreatDoorU
namespace Go.Proofs.YtpoepgnapneeaaaGreatDoor
open Go.RowKit

set_option maxHeartbeats 400000 in
set_option maxRecDepth 100000 in
theorem tz_two (w : World) (h : w.cell? ⟨7, 1, none⟩ = some (.int .u8 1)) :
    Calls Tryz.prog 64 #[.int .u64 2] w fun e w' => e = .returned (.int .i64 1) ∧ w = w' := by
  have a1 : bits BinOp.and IntKind.u64 2 (IntKind.u64.wrap (-2)) = 2 := by decide +kernel
  have a2 : (IntKind.u64.wrap (2 * 285870213051353865) / 288230376151711744).toNat = 1 := by decide +kernel
  go_enter Tryz.func64, Tryz.ntmps64
  go_wp2
  go_ret
  exact ⟨rfl, rfl⟩

set_option maxHeartbeats 400000 in
set_option maxRecDepth 100000 in
theorem tz_eight (w : World) (h : w.cell? ⟨7, 7, none⟩ = some (.int .u8 3)) :
    Calls Tryz.prog 64 #[.int .u64 8] w fun e w' => e = .returned (.int .i64 3) ∧ w = w' := by
  have a1 : bits BinOp.and IntKind.u64 8 (IntKind.u64.wrap (-8)) = 8 := by decide +kernel
  have a2 : (IntKind.u64.wrap (8 * 285870213051353865) / 288230376151711744).toNat = 7 := by decide +kernel
  go_enter Tryz.func64, Tryz.ntmps64
  go_wp2
  go_ret
  exact ⟨rfl, rfl⟩

set_option maxHeartbeats 400000 in
set_option maxRecDepth 100000 in
theorem tz_sixteen (w : World) (h : w.cell? ⟨7, 15, none⟩ = some (.int .u8 4)) :
    Calls Tryz.prog 64 #[.int .u64 16] w fun e w' => e = .returned (.int .i64 4) ∧ w = w' := by
  have a1 : bits BinOp.and IntKind.u64 16 (IntKind.u64.wrap (-16)) = 16 := by decide +kernel
  have a2 : (IntKind.u64.wrap (16 * 285870213051353865) / 288230376151711744).toNat = 15 := by decide +kernel
  go_enter Tryz.func64, Tryz.ntmps64
  go_wp2
  go_ret
  exact ⟨rfl, rfl⟩
end Go.Proofs.YtpoepgnapneeaaaGreatDoor
