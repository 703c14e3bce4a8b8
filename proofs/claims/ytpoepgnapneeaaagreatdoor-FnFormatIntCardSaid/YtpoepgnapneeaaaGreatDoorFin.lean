/-
  FnFormatInt: format_int writes a number in the base 2, 8, 10 or 16: the law returns true at every pair of ints, and both arguments read afterwards as before. Conditions: the listed package variables read as laid; the card ties them to the program's text.
-/
import Derived.Test.YtpoepgnapneeaaaGreatDoorRows
import Derived.Test.YtpoepgnapneeaaaGreatDoorCards
import Derived.Test.YtpoepgnapneeaaaGreatDoorTie
import Derived.Test.YtpoepgnapneeaaaGreatDoorT22
import Derived.ProofKit
import Derived.PinnedBridge
import Derived.Lay
import Derived.LaidMore
import Derived.Stop.LaidErr
import Derived.Lib.LaidU8
import Derived.SevenTiedAt
namespace Go.Proofs.YtpoepgnapneeaaaGreatDoor
open Go.ChangeShapes Go.WideShapes Go.ChangeAt Go.RowKit

theorem own : ownKnob Tryz.prog.godebug = none := by kernel_rfl

/-! ### what the condition gives -/

theorem gEof : Tryz.prog.globalNamed "io.EOF" = some 0 := by kernel_rfl
theorem tEof : (Tryz.prog.globals[0]?).map (·.type) = some 32 := by kernel_rfl
theorem gBruijn : Tryz.prog.globalNamed "math/bits.deBruijn64tab" = some 7 := by kernel_rfl
theorem tBruijn : (Tryz.prog.globals[7]?).map (·.type) = some 214 := by kernel_rfl
theorem tPow : (Tryz.prog.globals[13]?).map (·.type) = some 235 := by kernel_rfl
theorem gRange : Tryz.prog.globalNamed "strconv.ErrRange" = some 18 := by kernel_rfl
theorem cells5 : Tryz.prog.cellsOf 5 = 1 := by kernel_rfl
theorem cells9 : Tryz.prog.cellsOf 9 = 1 := by kernel_rfl
theorem cells127 : Tryz.prog.cellsOf 127 = 1 := by kernel_rfl
theorem cells214 : Tryz.prog.cellsOf 214 = 64 := by kernel_rfl
theorem cells235 : Tryz.prog.cellsOf 235 = 20 := by kernel_rfl
theorem cells263 : Tryz.prog.cellsOf 263 = 1 := by kernel_rfl
theorem starred : "*" ++ "errors.errorString" = "*errors.errorString" := by decide
theorem row261 (u : TypeId) (h : Tryz.prog.typeName? 3 u = some "*errors.errorString") : u = 261 :=
  typeName_ptr_named (nm := "errors.errorString") (by rw [starred]; kernel_rfl) (by kernel_rfl) (by decide) u (by rw [starred]; exact h)

def bruijn : List Int := [0, 1, 56, 2, 57, 49, 28, 3, 61, 58, 42, 50, 38, 29, 17, 4, 62, 47, 59, 36, 45, 43, 51, 22, 53, 39, 33, 30, 24, 18, 12, 5, 63, 55, 48, 27, 60, 41, 37, 16, 46, 35, 44, 21, 52, 32, 23, 11, 54, 26, 40, 15, 34, 20, 31, 10, 25, 14, 19, 9, 13, 8, 7, 6]

theorem env_of_laid {W : World} (h : laidMetH Tryz.prog Rows.fnFormatIntRow.laid W) : ∃ a, Env a W := by
  rw [MakeChecks.laidMetH_plain _ _ _ (by kernel_rfl)] at h
  have h1 := laidMet.tail h
  have h2 := laidMet.tail h1
  have h4 := laidMet.tail (laidMet.tail h2)
  have h6 := laidMet.tail (laidMet.tail h4)
  have hB : Lib.TabIs Tryz.prog W "math/bits.deBruijn64tab" .u8 bruijn := Lib.tabIs_of_head gBruijn tBruijn Tryz.underlying214 Tryz.underlying5 cells5 cells214 h1
  have hP : Lib.TabIs Tryz.prog W "internal/strconv.uint64pow10" .u64 Lib.pow10Tab := Lib.tabIs_of_head g13 tPow Tryz.underlying235 Tryz.underlying127 cells127 cells235 h2
  obtain ⟨a, s, hv, _, _, _⟩ := laid_sentinel h6 gEof tEof Tryz.underlying32 row261 Tryz.underlying261 Tryz.underlying263 rfl rfl Tryz.underlying9 cells263 cells9
  obtain ⟨a2, s2, hv2, _, _, _⟩ := laid_sentinel h4 gRange (by kernel_rfl) Tryz.underlying32 row261 Tryz.underlying261 Tryz.underlying263 rfl rfl Tryz.underlying9 cells263 cells9
  have hs : 18 < W.heap.size := by
    have hc := World.var?_cell gRange hv2 0
    rcases Nat.lt_or_ge 18 W.heap.size with h' | h'
    · exact h'
    · simp [World.cell?, Array.getElem?_eq_none h'] at hc
  have he : W.cell? ⟨0, 0, none⟩ = some (.iface 261 (.pointer (some a))) := by simpa using World.var?_cell gEof hv 0
  exact ⟨a, he, ⟨by simpa [bruijn] using hB.cell gBruijn 1 (by decide), by simpa [bruijn] using hB.cell gBruijn 7 (by decide), by simpa [bruijn] using hB.cell gBruijn 15 (by decide), by omega⟩, hP, by omega⟩
end Go.Proofs.YtpoepgnapneeaaaGreatDoor
