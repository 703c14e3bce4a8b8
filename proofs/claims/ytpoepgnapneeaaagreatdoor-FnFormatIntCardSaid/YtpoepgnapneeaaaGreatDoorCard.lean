/-
  FnFormatInt: format_int writes a number in the base 2, 8, 10 or 16: THE TIED CARD: at every pair of ints the law returns true, and both arguments read afterwards as before; what the row lists is tied to the program's text and to Go's pinned tables. Conditions: none beyond the card's own.
-/
import Derived.Test.YtpoepgnapneeaaaGreatDoorSaid
import Derived.Test.YtpoepgnapneeaaaGreatDoorCards
import Derived.Test.YtpoepgnapneeaaaGreatDoorTie
import Derived.SevenTiedAt
namespace Go.Proofs.YtpoepgnapneeaaaGreatDoor
open Go

theorem wf_by_text : Rows.fnFormatIntRow.wfByText (OpenSpec.ofChange Rows.fnFormatIntSpec) = true := by kernel_rfl
theorem main_is : Tryz.prog.mainIs = some (true, "407107788d82b6a047438a03d7ea8a5d8807f43ff14dc71d00afa54238a37d29".toList) := by kernel_rfl
theorem looks_on : true = Tryz.prog.looks [] := by kernel_rfl
theorem no_stand_in : ([3].all fun u => !Tryz.prog.wantsStandIn u) = true := by kernel_rfl

/-- No function of a program starts a goroutine: then no row that enters one does. -/
theorem goes_by_of (P : Program) (c : OpenClaim) (hs : c.start = .entering) (h : P.funcs.any Func.goes = false) : false = c.goesBy P := by
  have hg : ∀ g : FuncId, (P.funcs[g]?).any Func.goes = false := by
    intro g
    cases e : P.funcs[g]? with
    | none => rfl
    | some fn =>
      cases hb : fn.goes with
      | false => exact hb
      | true =>
        have hm : P.funcs.any Func.goes = true := Array.any_eq_true'.2 ⟨fn, Array.mem_of_getElem? e, hb⟩
        rw [h] at hm; cases hm
  have hP : ∀ f, P.goes f = false := by
    intro f
    unfold Program.goes
    rw [h, Bool.and_false, Bool.or_false]
    exact List.any_eq_false.2 fun g _ => by rw [hg g]; exact Bool.false_ne_true
  unfold OpenClaim.goesBy Program.goesAt Program.goesFrom
  rw [hs]
  cases P.funcNamed c.func with
  | none => rfl
  | some f => exact (congrArg (· || false) (hP f)).symm
theorem no_go : Tryz.prog.funcs.any Func.goes = false := by kernel_rfl
theorem goes_by : false = Rows.fnFormatIntRow.goesBy Tryz.prog := goes_by_of _ _ rfl no_go

theorem seats (f : FuncId) (fn : Func) (hf : Tryz.prog.funcNamed "pub-regostrings/laws.FnFormatInt" = some f) (hfn : Tryz.prog.funcs[f]? = some fn) :
    true = Tryz.prog.looks [] ∧ ∀ (j : Nat) t, fn.params[j]? = some t → Tryz.prog.wantsStandIn t = false := by
  obtain rfl : f = 3 := Option.some.inj (func_named.symm.trans hf) |>.symm
  obtain rfl : fn = Tryz.f3 := (Option.some.inj (Tryz.func3.symm.trans hfn)).symm
  refine ⟨looks_on, fun j t ht => ?_⟩
  rw [Tryz.params3] at ht
  have hm : t ∈ [3] := by simpa using Array.mem_of_getElem? ht
  have h := List.all_eq_true.1 no_stand_in t hm
  simpa using h

theorem card_holds : Rows.FnFormatIntCardSaid :=
  Claim7.holds_tied_plain_at .later [] [.data, .data, .data, .data, .sentinel, .sentinel, .sentinel, .data, .sentinel, .sentinel, .data, .data, .data, .data, .data, .pinned, .pinned] true (true, "407107788d82b6a047438a03d7ea8a5d8807f43ff14dc71d00afa54238a37d29") true
    said (fun _ h => by cases h) wf_by_text (fun _ h => by cases h) fnFormatInt_row_tie rfl ⟨rfl, rfl⟩ main_is rfl seats goes_by
end Go.Proofs.YtpoepgnapneeaaaGreatDoor
