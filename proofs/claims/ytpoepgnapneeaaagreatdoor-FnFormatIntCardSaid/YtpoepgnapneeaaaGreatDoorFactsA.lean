/-
  FnFormatInt: the row's closed facts, each a theorem of its own; their conjunction stands at the end of the third part. No conditions.
-/
import Derived.Test.YtpoepgnapneeaaaGreatDoorRows
import Derived.JoinedOf
import Derived.KernelRfl
namespace Go.Proofs.YtpoepgnapneeaaaGreatDoor
open Go

theorem both_true (a b : Bool) (ha : a = true) (hb : b = true) : (a && b) = true := by subst ha; subst hb; rfl

set_option maxRecDepth 100000 in
theorem fact1 : (Rows.fnFormatIntRow.wf (OpenSpec.ofChange Rows.fnFormatIntSpec)) = true := by kernel_rfl

set_option maxRecDepth 100000 in
theorem fact2 : (laidOutB Tryz.prog) = true := by kernel_rfl

set_option maxRecDepth 100000 in
theorem fact3 : (mapsRowed Tryz.prog) = true := by kernel_rfl

set_option maxRecDepth 100000 in
theorem fact4 : (Tryz.f3.params.all (Tryz.prog.readableRec ·)) = true := by kernel_rfl

set_option maxRecDepth 100000 in
theorem fact5 : (namedTie Tryz.prog Rows.fnFormatIntRow.named Rows.fnFormatIntSpec.vars) = true := by kernel_rfl

set_option maxRecDepth 100000 in
theorem fact6 : ((Rows.fnFormatIntRow.stops == [])) = true := by kernel_rfl

set_option maxRecDepth 100000 in
theorem fact7 : ((Tryz.prog.stops == [])) = true := by kernel_rfl

set_option maxRecDepth 100000 in
theorem fact8 : ((Rows.fnFormatIntRow.knobs == [])) = true := by kernel_rfl

set_option maxRecDepth 100000 in
theorem fact9 : ((Tryz.prog.stopKnobs == [])) = true := by kernel_rfl

end Go.Proofs.YtpoepgnapneeaaaGreatDoor
