/-
  laws.FnFormatInt returns true at every pair of ints, in every world that holds the package variables as laid.
-/
import Derived.Test.YtpoepgnapneeaaaGreatDoorT21
namespace Go.Proofs.YtpoepgnapneeaaaGreatDoor
open Go.RowKit

set_option maxHeartbeats 400000 in
set_option maxRecDepth 100000 in
theorem is_same (s : ByteArray) (w : World) : Calls Tryz.prog 6 #[.string s, .string s, .bool true] w fun e w' => e = .returned (.bool true) ∧ w = w' := by
  go_enter Tryz.func6, Tryz.ntmps6
  go_wp2
  go_ret
  exact ⟨by simp, rfl⟩

set_option maxHeartbeats 400000 in
set_option maxRecDepth 100000 in
/-- Within the guard. -/
theorem law_in (R : Int) (b : Nat) (hR : Base R b) (a : Addr) (n : Int) (w : World) (h0 : -9007199254740992 < n) (h1 : n < 9007199254740992) (hE : Env a w) :
    Calls Tryz.prog 3 #[.int .i64 n, .int .i64 R] w fun e w' => e = .returned (.bool true) ∧ Below w.heap.size w w' := by
  have C1 := Lib.hid (formatInt_calls R b hR a n w h0 h1 hE)
  have C2 := Lib.hid (digits_any R b hR n h0 h1)
  have g1 : ¬ 9007199254740991 < n := by omega
  have g2 : ¬ n < -9007199254740991 := by omega
  rcases hR with ⟨rfl, rfl⟩ | ⟨rfl, rfl⟩ | ⟨rfl, rfl⟩ | ⟨rfl, rfl⟩
  all_goals
    go_enter Tryz.func3, Tryz.ntmps3
    go_wp2_with fail
    refine C1.out.mono ?_
    rintro e w1 ⟨rfl, hb1⟩
    go_wp2_with fail
    refine (C2.out w1).mono ?_
    rintro e w2 ⟨rfl, k, rfl⟩
    go_wp2_with (go_at_call 6; refine (is_same _ _).mono ?_; rintro e w3 ⟨rfl, rfl⟩)
    go_ret
    exact ⟨rfl, ⟨hb1.os, hb1.tape, hb1.output, hb1.size, hb1.block⟩⟩

set_option maxHeartbeats 400000 in
set_option maxRecDepth 100000 in
/-- Too great a number. -/
theorem law_above (R : Int) (n : Int) (w : World) (h : 9007199254740991 < n) :
    Calls Tryz.prog 3 #[.int .i64 n, .int .i64 R] w fun e w' => e = .returned (.bool true) ∧ Below w.heap.size w w' := by
  go_enter Tryz.func3, Tryz.ntmps3
  go_wp2_with (go_at_call 4; refine (alive_calls w).mono ?_; rintro e w1 ⟨rfl, hb1⟩)
  go_ret
  exact ⟨rfl, hb1⟩

set_option maxHeartbeats 400000 in
set_option maxRecDepth 100000 in
/-- Too small a number. -/
theorem law_under (R : Int) (n : Int) (w : World) (h : n < -9007199254740991) :
    Calls Tryz.prog 3 #[.int .i64 n, .int .i64 R] w fun e w' => e = .returned (.bool true) ∧ Below w.heap.size w w' := by
  have g1 : ¬ 9007199254740991 < n := by omega
  go_enter Tryz.func3, Tryz.ntmps3
  go_wp2_with (go_at_call 4; refine (alive_calls w).mono ?_; rintro e w1 ⟨rfl, hb1⟩)
  go_ret
  exact ⟨rfl, hb1⟩

set_option maxHeartbeats 400000 in
set_option maxRecDepth 100000 in
/-- Another base. -/
theorem law_base (R : Int) (n : Int) (w : World) (h0 : -9007199254740992 < n) (h1 : n < 9007199254740992) (b2 : R ≠ 2) (b8 : R ≠ 8) (b10 : R ≠ 10) (b16 : R ≠ 16) :
    Calls Tryz.prog 3 #[.int .i64 n, .int .i64 R] w fun e w' => e = .returned (.bool true) ∧ Below w.heap.size w w' := by
  have g1 : ¬ 9007199254740991 < n := by omega
  have g2 : ¬ n < -9007199254740991 := by omega
  have t2 : (R != 2) = true := by rw [bne_iff_ne]; exact b2
  have t8 : (R != 8) = true := by rw [bne_iff_ne]; exact b8
  have t10 : (R != 10) = true := by rw [bne_iff_ne]; exact b10
  have t16 : (R != 16) = true := by rw [bne_iff_ne]; exact b16
  clear b2 b8 b10 b16
  go_enter Tryz.func3, Tryz.ntmps3
  go_wp2_with (go_at_call 4; refine (alive_calls w).mono ?_; rintro e w1 ⟨rfl, hb1⟩)
  go_ret
  exact ⟨rfl, hb1⟩

/-- The law. -/
theorem law (a : Addr) (n R : Int) (w : World) (hE : Env a w) :
    Calls Tryz.prog 3 #[.int .i64 n, .int .i64 R] w fun e w' => e = .returned (.bool true) ∧ Below w.heap.size w w' := by
  by_cases h1 : 9007199254740991 < n
  · exact law_above R n w h1
  · by_cases h0 : n < -9007199254740991
    · exact law_under R n w h0
    · by_cases hb : R = 2 ∨ R = 8 ∨ R = 10 ∨ R = 16
      · rcases hb with h | h | h | h
        · exact law_in R 0 (Or.inl ⟨h, rfl⟩) a n w (by omega) (by omega) hE
        · exact law_in R 6 (Or.inr (Or.inl ⟨h, rfl⟩)) a n w (by omega) (by omega) hE
        · exact law_in R 8 (Or.inr (Or.inr (Or.inl ⟨h, rfl⟩))) a n w (by omega) (by omega) hE
        · exact law_in R 14 (Or.inr (Or.inr (Or.inr ⟨h, rfl⟩))) a n w (by omega) (by omega) hE
      · exact law_base R n w (by omega) (by omega) (by omega) (by omega) (by omega) (by omega)
end Go.Proofs.YtpoepgnapneeaaaGreatDoor
