/-
  FnFormatInt: the row's closed facts, each a theorem of its own; their conjunction stands at the end of the third part. No conditions.
-/
import Derived.Test.YtpoepgnapneeaaaGreatDoorFactsA
import Derived.Test.YtpoepgnapneeaaaGreatDoorFactsB
import Derived.JoinedOf
import Derived.KernelRfl
namespace Go.Proofs.YtpoepgnapneeaaaGreatDoor
open Go


set_option maxRecDepth 100000 in
theorem fact14 : ((Rows.fnFormatIntRow.maps == (Tryz.f3.params.toList ++ Rows.fnFormatIntSpec.plain.varTypes Tryz.prog).any (Tryz.prog.mapsRec ·))) = true := by kernel_rfl

set_option maxRecDepth 100000 in
theorem fact15 : ((Rows.fnFormatIntRow.ifaces == (Tryz.f3.params.toList ++ Rows.fnFormatIntSpec.plain.varTypes Tryz.prog).any (Tryz.prog.ifacesRec ·))) = true := by kernel_rfl

set_option maxRecDepth 100000 in
theorem fact16 : ((Rows.fnFormatIntRow.mapsOut == Tryz.prog.mapsAmong Tryz.f3.resultTypes.toList)) = true := by kernel_rfl

set_option maxRecDepth 100000 in
theorem fact17 : ((Rows.fnFormatIntRow.loops == (Tryz.f3.params.toList ++ Rows.fnFormatIntSpec.plain.varTypes Tryz.prog).any (Tryz.prog.loopsFrom ·))) = true := by kernel_rfl

set_option maxRecDepth 100000 in
theorem fact18 : ((Rows.fnFormatIntRow.wideKeys == (Tryz.f3.params.toList ++ Rows.fnFormatIntSpec.plain.varTypes Tryz.prog ++ Tryz.f3.resultTypes.toList).any (Tryz.prog.wideKeysFrom ·))) = true := by kernel_rfl

set_option maxRecDepth 100000 in
theorem fact19 : (Rows.fnFormatIntSpec.vars.all (Tryz.prog.varReadable ·)) = true := by kernel_rfl

set_option maxRecDepth 100000 in
theorem fact20 : (Tryz.f3.resultTypes.all (fun t => Tryz.prog.readableRec t && decide (t < Tryz.prog.types.size))) = true := by kernel_rfl

set_option maxRecDepth 100000 in
theorem fact21 : ((Rows.fnFormatIntRow.ifacesOut == Tryz.f3.resultTypes.toList.any (Tryz.prog.ifacesRec ·))) = true := by kernel_rfl

set_option maxRecDepth 100000 in
theorem fact22 : ((Rows.fnFormatIntRow.loopsOut == Tryz.f3.resultTypes.toList.any (Tryz.prog.loopsFrom ·))) = true := by kernel_rfl

set_option maxRecDepth 100000 in
theorem fact23 : ((Rows.fnFormatIntRow.plainKeys == Tryz.prog.plainKeys)) = true := by kernel_rfl

set_option maxRecDepth 100000 in
theorem fact24 : (Rows.fnFormatIntRow.shortTexts.isNone) = true := by kernel_rfl

set_option maxRecDepth 100000 in
theorem fact25 : (Tryz.prog.stopsHeard) = true := by kernel_rfl

set_option maxRecDepth 100000 in
theorem fact26 : (Tryz.prog.mayEnter) = true := by kernel_rfl

set_option maxRecDepth 100000 in
theorem fact27 : ((Rows.fnFormatIntRow.lifted == Tryz.prog.liftsFinal)) = true := by kernel_rfl

set_option maxRecDepth 100000 in
theorem fact28 : ((Tryz.prog.make == some Rows.fnFormatIntRow.make)) = true := by kernel_rfl

set_option maxRecDepth 100000 in
theorem fact30 : ((Rows.fnFormatIntRow.pinned == Rows.fnFormatIntRow.pinnedBy)) = true := by kernel_rfl

set_option maxRecDepth 100000 in
theorem fact31 : ((Rows.fnFormatIntRow.veiled == (Tryz.f3.params.toList ++ Rows.fnFormatIntSpec.plain.varTypes Tryz.prog ++ Tryz.f3.resultTypes.toList).any (Tryz.prog.veiledRec ·))) = true := by kernel_rfl

set_option maxRecDepth 100000 in
theorem fact32 : (Rows.fnFormatIntRow.veiledFits Tryz.prog Tryz.f3.params.toList (Tryz.f3.params.toList ++ Rows.fnFormatIntSpec.plain.varTypes Tryz.prog ++ Tryz.f3.resultTypes.toList)) = true := by kernel_rfl

set_option maxRecDepth 100000 in
theorem closed : joinedFacts Tryz.prog 3 Tryz.f3 Rows.fnFormatIntSpec Rows.fnFormatIntRow = true := by
  unfold joinedFacts
  with_reducible refine (both_true _ _ (both_true _ _ (both_true _ _ (both_true _ _ (both_true _ _ (both_true _ _ (both_true _ _ (both_true _ _ (both_true _ _ (both_true _ _ (both_true _ _ (both_true _ _ (both_true _ _ (both_true _ _ (both_true _ _ (both_true _ _ (both_true _ _ (both_true _ _ (both_true _ _ (both_true _ _ (both_true _ _ (both_true _ _ (both_true _ _ (both_true _ _ (both_true _ _ (both_true _ _ (both_true _ _ (both_true _ _ (both_true _ _ (both_true _ _ (both_true _ _ fact1 fact2) fact3) fact4) fact5) fact6) fact7) fact8) fact9) fact10) fact11) fact12) fact13) fact14) fact15) fact16) fact17) fact18) fact19) fact20) fact21) fact22) fact23) fact24) fact25) fact26) fact27) fact28) ?_) fact30) fact31) fact32)
  kernel_rfl
end Go.Proofs.YtpoepgnapneeaaaGreatDoor
