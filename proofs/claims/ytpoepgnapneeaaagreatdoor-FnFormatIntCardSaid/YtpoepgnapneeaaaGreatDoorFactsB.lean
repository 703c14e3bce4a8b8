/-
  FnFormatInt: the row's closed facts, each a theorem of its own; their conjunction stands at the end of the third part. No conditions.
-/
import Derived.Test.YtpoepgnapneeaaaGreatDoorRows
import Derived.JoinedOf
import Derived.KernelRfl
namespace Go.Proofs.YtpoepgnapneeaaaGreatDoor
open Go


set_option maxRecDepth 100000 in
theorem fact10 : ((Rows.fnFormatIntRow.inPlace == Tryz.prog.inPlace 3)) = true := by kernel_rfl

set_option maxRecDepth 100000 in
theorem fact11 : ((Rows.fnFormatIntRow.unfollowed == Tryz.prog.unfollowed 3)) = true := by kernel_rfl

set_option maxRecDepth 100000 in
theorem fact12 : ((Rows.fnFormatIntRow.recurses == Tryz.prog.recurses 3)) = true := by kernel_rfl

set_option maxRecDepth 100000 in
theorem fact13 : ((Rows.fnFormatIntRow.named == Tryz.prog.varsNamed 3)) = true := by kernel_rfl

end Go.Proofs.YtpoepgnapneeaaaGreatDoor
