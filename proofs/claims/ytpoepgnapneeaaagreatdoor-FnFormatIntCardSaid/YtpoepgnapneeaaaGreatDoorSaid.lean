/-
  FnFormatInt: format_int writes a number in the base 2, 8, 10 or 16: the bare row: at every pair of ints the law returns true, and both arguments read afterwards as before. Conditions: the listed package variables read as the program's text and Go's pinned tables lay them.
-/
import Derived.Test.YtpoepgnapneeaaaGreatDoorLift
import Derived.Test.YtpoepgnapneeaaaGreatDoorFactsC
namespace Go.Proofs.YtpoepgnapneeaaaGreatDoor
open Go.ChangeShapes Go.WideShapes Go.ChangeAt Go.RowKit

theorem func_named : Tryz.prog.funcNamed "pub-regostrings/laws.FnFormatInt" = some 3 := by kernel_rfl

set_option maxRecDepth 100000 in
theorem said : Rows.FnFormatIntSaid :=
  OpenClaim.holds_of_wide 3 Tryz.f3 rfl rfl rfl rfl rfl rfl rfl ⟨rfl, rfl, rfl, rfl, rfl⟩ rfl rfl rfl rfl rfl func_named Tryz.func3 closed
    (of_decide_eq_true (by kernel_rfl)) (by unfold Func.isWrapper; first | (rw [if_pos (by decide +kernel)]; kernel_rfl) | (rw [if_neg (by decide +kernel)]; exact ⟨rfl, rfl⟩))
    (fun os started H enc _ => lifted os started H enc)
end Go.Proofs.YtpoepgnapneeaaaGreatDoor
