/-
  The width that nat.itoa reckons in floating point: float64(B)/log2(base), cut to a whole number, is B / shift, for B below 54.
-/
import Derived.Laws.FloatArith
namespace Go.Proofs.YtpoepgnapneeaaaGreatDoor
open Go

set_option maxRecDepth 100000

theorem width_two_all : ∀ B : Fin 54, ((floatBits .quo .f64 (floatOfInt .f64 (B.val : Int)) 4607182418800017408).bind fun r => floatToIntVal .f64 r .i64) = some ((B.val / 1 : Nat) : Int) := by decide +kernel
theorem width_two (B : Nat) (h : B ≤ 53) : ∃ r, floatBits .quo .f64 (floatOfInt .f64 (B : Int)) 4607182418800017408 = some r ∧ floatToIntVal .f64 r .i64 = some ((B / 1 : Nat) : Int) :=
  Option.bind_eq_some_iff.1 (width_two_all ⟨B, by omega⟩)

theorem width_eight_all : ∀ B : Fin 54, ((floatBits .quo .f64 (floatOfInt .f64 (B.val : Int)) 4613937818241073152).bind fun r => floatToIntVal .f64 r .i64) = some ((B.val / 3 : Nat) : Int) := by decide +kernel
theorem width_eight (B : Nat) (h : B ≤ 53) : ∃ r, floatBits .quo .f64 (floatOfInt .f64 (B : Int)) 4613937818241073152 = some r ∧ floatToIntVal .f64 r .i64 = some ((B / 3 : Nat) : Int) :=
  Option.bind_eq_some_iff.1 (width_eight_all ⟨B, by omega⟩)

theorem width_sixteen_all : ∀ B : Fin 54, ((floatBits .quo .f64 (floatOfInt .f64 (B.val : Int)) 4616189618054758400).bind fun r => floatToIntVal .f64 r .i64) = some ((B.val / 4 : Nat) : Int) := by decide +kernel
theorem width_sixteen (B : Nat) (h : B ≤ 53) : ∃ r, floatBits .quo .f64 (floatOfInt .f64 (B : Int)) 4616189618054758400 = some r ∧ floatToIntVal .f64 r .i64 = some ((B / 4 : Nat) : Int) :=
  Option.bind_eq_some_iff.1 (width_sixteen_all ⟨B, by omega⟩)
end Go.Proofs.YtpoepgnapneeaaaGreatDoor
