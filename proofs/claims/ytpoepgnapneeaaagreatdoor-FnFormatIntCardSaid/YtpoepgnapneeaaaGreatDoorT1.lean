/-
  Walks of small functions of math/big that the road of FnFormatInt meets.
-/
import Derived.Test.YtpoepgnapneeaaaGreatDoorProg
import Derived.Handy
import Derived.WalkSpells
import Derived.WalkLawsBesides
namespace Go.Proofs.YtpoepgnapneeaaaGreatDoor
open Go.RowKit

set_option maxHeartbeats 400000 in
theorem pow_any (x : Int) (n : Nat) (w : World) (hn : n ≤ 64) :
    Calls Tryz.prog 117 #[.int .u64 x, .int .i64 n] w fun e w' => (∃ p : Int, e = .returned (.int .u64 p)) ∧ w = w' := by
  go_enter Tryz.func117, Tryz.ntmps117
  go_wp2
  go_loop [0, 1, 4] (fun x n p => ∃ (a c : Int) (b : Nat), b ≤ 64 ∧ x = .int .u64 a ∧ n = .int .i64 b ∧ p = .int .u64 c) (fun _ n _ => (intOf n).toNat)
  case atStart => exact ⟨x, 1, n, hn, rfl, rfl, rfl⟩
  case round =>
    obtain ⟨a, c, b, hb, rfl, rfl, rfl⟩ := hrel
    go_wp2
    · exact ⟨⟨_, _, b / 2, by omega, rfl, by simp, rfl⟩, by simp [intOf]; omega⟩
    · exact ⟨⟨_, _, b / 2, by omega, rfl, by simp, rfl⟩, by simp [intOf]; omega⟩
    · go_ret
      exact ⟨⟨_, rfl⟩, rfl⟩

set_option maxHeartbeats 400000 in
theorem maxPow_ten (w : World) :
    Calls Tryz.prog 67 #[.int .u64 10] w fun e w' => e = .returned (.tuple #[.int .u64 10000000000000000000, .int .i64 19]) ∧ w = w' := by
  go_enter Tryz.func67, Tryz.ntmps67
  go_wp2
  go_rounds 19
  go_ret2
  exact ⟨rfl, rfl⟩

/-- math.Float64bits and Float64frombits have no body: the model's entry gives the same bits. -/
theorem bits_of (b : Nat) : (Sem.run Tryz.prog (callFunc 178 #[.float .f64 b])) = fun w => .ok (.value (.int .u64 b)) w := by kernel_rfl

set_option maxHeartbeats 400000 in
set_option maxRecDepth 100000 in
/-- nat.make(1) on a nil nat. -/
theorem make_one (w : World) :
    Calls Tryz.prog 75 #[.slice none 0 0, .int .i64 1] w fun e w' => e = .returned (.slice (some ⟨w.heap.size, 0, none⟩) 1 1) ∧ w.alloc (.cells #[.int .u64 0] 131) = w' := by
  have hmk : ∀ w, (Instr.makeSlice 61 (.int .i64 1) (.int .i64 1)).run Tryz.prog w = .ok (.slice (some ⟨w.heap.size, 0, none⟩) 1 1) (w.alloc (.cells #[.int .u64 0] 131)) := fun _ => by kernel_rfl
  go_enter Tryz.func75, Tryz.ntmps75
  go_wp2
  go_ret
  exact ⟨rfl, rfl⟩
end Go.Proofs.YtpoepgnapneeaaaGreatDoor
