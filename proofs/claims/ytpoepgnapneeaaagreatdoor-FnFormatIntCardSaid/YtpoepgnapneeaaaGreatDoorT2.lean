/-
  math.Log2 at 2, 8 and 16 returns 1, 3 and 4.
-/
import Derived.Test.YtpoepgnapneeaaaGreatDoorT1
namespace Go.Proofs.YtpoepgnapneeaaaGreatDoor
open Go.RowKit

set_option maxHeartbeats 400000 in
set_option maxRecDepth 100000 in
theorem log2_two (w : World) :
    Calls Tryz.prog 63 #[.float .f64 4611686018427387904] w fun e w' => e = .returned (.float .f64 4607182418800017408) ∧ w = w' := by
  have b1 := congrFun (bits_of 4611686018427387904)
  have b2 : ∀ w, Sem.run Tryz.prog (callFunc 179 #[.int .u64 4611686018427387904]) w = .ok (.value (.float .f64 4611686018427387904)) w := fun _ => by kernel_rfl
  have b3 : ∀ w, Sem.run Tryz.prog (callFunc 179 #[.int .u64 4602678819172646912]) w = .ok (.value (.float .f64 4602678819172646912)) w := fun _ => by kernel_rfl
  have o1 : (FloatKind.f64.format.order 4611686018427387904 0 == some Ordering.eq) = false := by decide +kernel
  have a1 : bits BinOp.andNot IntKind.u64 4611686018427387904 9223372036854775808 = 4611686018427387904 := by decide +kernel
  have a2 : bits BinOp.and IntKind.u64 1024 2047 = 1024 := by decide +kernel
  have a3 : bits BinOp.andNot IntKind.u64 4611686018427387904 9218868437227405312 = 0 := by decide +kernel
  have a4 : bits BinOp.or IntKind.u64 0 4602678819172646912 = 4602678819172646912 := by decide +kernel
  have o2 : (FloatKind.f64.format.order 4611686018427387904 9218868437227405311 == some Ordering.gt) = false := by decide +kernel
  have o3 : (FloatKind.f64.format.order 4611686018427387904 4611686018427387904 != some Ordering.eq) = false := by decide +kernel
  have o4 : (FloatKind.f64.format.order 4611686018427387904 4503599627370496 == some Ordering.lt) = false := by decide +kernel
  have o5 : (FloatKind.f64.format.order 4602678819172646912 4602678819172646912 == some Ordering.eq) = true := by decide +kernel
  have f1 : floatOfInt FloatKind.f64 1 = 4607182418800017408 := by decide +kernel
  go_enter Tryz.func63, Tryz.ntmps63
  go_wp2
  go_ret
  exact ⟨rfl, rfl⟩

set_option maxHeartbeats 400000 in
set_option maxRecDepth 100000 in
theorem log2_eight (w : World) :
    Calls Tryz.prog 63 #[.float .f64 4620693217682128896] w fun e w' => e = .returned (.float .f64 4613937818241073152) ∧ w = w' := by
  have b1 := congrFun (bits_of 4620693217682128896)
  have b2 : ∀ w, Sem.run Tryz.prog (callFunc 179 #[.int .u64 4620693217682128896]) w = .ok (.value (.float .f64 4620693217682128896)) w := fun _ => by kernel_rfl
  have b3 : ∀ w, Sem.run Tryz.prog (callFunc 179 #[.int .u64 4602678819172646912]) w = .ok (.value (.float .f64 4602678819172646912)) w := fun _ => by kernel_rfl
  have o1 : (FloatKind.f64.format.order 4620693217682128896 0 == some Ordering.eq) = false := by decide +kernel
  have a1 : bits BinOp.andNot IntKind.u64 4620693217682128896 9223372036854775808 = 4620693217682128896 := by decide +kernel
  have a2 : bits BinOp.and IntKind.u64 1026 2047 = 1026 := by decide +kernel
  have a3 : bits BinOp.andNot IntKind.u64 4620693217682128896 9218868437227405312 = 0 := by decide +kernel
  have a4 : bits BinOp.or IntKind.u64 0 4602678819172646912 = 4602678819172646912 := by decide +kernel
  have o2 : (FloatKind.f64.format.order 4620693217682128896 9218868437227405311 == some Ordering.gt) = false := by decide +kernel
  have o3 : (FloatKind.f64.format.order 4620693217682128896 4620693217682128896 != some Ordering.eq) = false := by decide +kernel
  have o4 : (FloatKind.f64.format.order 4620693217682128896 4503599627370496 == some Ordering.lt) = false := by decide +kernel
  have o5 : (FloatKind.f64.format.order 4602678819172646912 4602678819172646912 == some Ordering.eq) = true := by decide +kernel
  have f1 : floatOfInt FloatKind.f64 3 = 4613937818241073152 := by decide +kernel
  go_enter Tryz.func63, Tryz.ntmps63
  go_wp2
  go_ret
  exact ⟨rfl, rfl⟩

set_option maxHeartbeats 400000 in
set_option maxRecDepth 100000 in
theorem log2_sixteen (w : World) :
    Calls Tryz.prog 63 #[.float .f64 4625196817309499392] w fun e w' => e = .returned (.float .f64 4616189618054758400) ∧ w = w' := by
  have b1 := congrFun (bits_of 4625196817309499392)
  have b2 : ∀ w, Sem.run Tryz.prog (callFunc 179 #[.int .u64 4625196817309499392]) w = .ok (.value (.float .f64 4625196817309499392)) w := fun _ => by kernel_rfl
  have b3 : ∀ w, Sem.run Tryz.prog (callFunc 179 #[.int .u64 4602678819172646912]) w = .ok (.value (.float .f64 4602678819172646912)) w := fun _ => by kernel_rfl
  have o1 : (FloatKind.f64.format.order 4625196817309499392 0 == some Ordering.eq) = false := by decide +kernel
  have a1 : bits BinOp.andNot IntKind.u64 4625196817309499392 9223372036854775808 = 4625196817309499392 := by decide +kernel
  have a2 : bits BinOp.and IntKind.u64 1027 2047 = 1027 := by decide +kernel
  have a3 : bits BinOp.andNot IntKind.u64 4625196817309499392 9218868437227405312 = 0 := by decide +kernel
  have a4 : bits BinOp.or IntKind.u64 0 4602678819172646912 = 4602678819172646912 := by decide +kernel
  have o2 : (FloatKind.f64.format.order 4625196817309499392 9218868437227405311 == some Ordering.gt) = false := by decide +kernel
  have o3 : (FloatKind.f64.format.order 4625196817309499392 4625196817309499392 != some Ordering.eq) = false := by decide +kernel
  have o4 : (FloatKind.f64.format.order 4625196817309499392 4503599627370496 == some Ordering.lt) = false := by decide +kernel
  have o5 : (FloatKind.f64.format.order 4602678819172646912 4602678819172646912 == some Ordering.eq) = true := by decide +kernel
  have f1 : floatOfInt FloatKind.f64 4 = 4616189618054758400 := by decide +kernel
  go_enter Tryz.func63, Tryz.ntmps63
  go_wp2
  go_ret
  exact ⟨rfl, rfl⟩
end Go.Proofs.YtpoepgnapneeaaaGreatDoor
