/-
  nat.setWord and nat.mulAddWW at the nil nat; strings.Reader's ReadByte and UnreadByte.
-/
import Derived.Test.YtpoepgnapneeaaaGreatDoorT1
import Derived.Test.YtpoepgnapneeaaaGreatDoorU
import Derived.Deep.QuietTactic
import Derived.BigQuiet
namespace Go.Proofs.YtpoepgnapneeaaaGreatDoor
open Go.RowKit

theorem setWord_zero (w : World) :
    Calls Tryz.prog 104 #[.slice none 0 0, .int .u64 0] w fun e w' => e = .returned (.slice none 0 0) ∧ w = w' := by
  go_enter Tryz.func104, Tryz.ntmps104
  go_wp2
  go_ret
  exact ⟨rfl, rfl⟩

set_option maxHeartbeats 400000 in
set_option maxRecDepth 100000 in
theorem setWord_pos (x : Int) (w : World) (hx : (x == 0) = false) :
    Calls Tryz.prog 104 #[.slice none 0 0, .int .u64 x] w fun e w' => e = .returned (.slice (some ⟨w.heap.size, 0, none⟩) 1 1) ∧ w.alloc (.cells #[.int .u64 x] 131) = w' := by
  go_enter Tryz.func104, Tryz.ntmps104
  go_wp2_with (go_at_call 75; refine (make_one _).mono ?_; rintro e w' ⟨rfl, rfl⟩)
  go_ret
  exact ⟨rfl, rfl⟩

set_option maxHeartbeats 400000 in
set_option maxRecDepth 100000 in
theorem mulAdd_zero (y : Int) (w : World) :
    Calls Tryz.prog 116 #[.slice none 0 0, .slice none 0 0, .int .u64 y, .int .u64 0] w fun e w' => e = .returned (.slice none 0 0) ∧ w = w' := by
  go_enter Tryz.func116, Tryz.ntmps116
  go_wp2_with (go_at_call 104; refine (setWord_zero _).mono ?_; rintro e w' ⟨rfl, rfl⟩)
  go_ret
  exact ⟨rfl, rfl⟩

set_option maxHeartbeats 400000 in
set_option maxRecDepth 100000 in
theorem mulAdd_pos (y x : Int) (w : World) (hx : (x == 0) = false) :
    Calls Tryz.prog 116 #[.slice none 0 0, .slice none 0 0, .int .u64 y, .int .u64 x] w fun e w' => e = .returned (.slice (some ⟨w.heap.size, 0, none⟩) 1 1) ∧ w.alloc (.cells #[.int .u64 x] 131) = w' := by
  go_enter Tryz.func116, Tryz.ntmps116
  go_wp2_with (go_at_call 104; refine (setWord_pos _ _ hx).mono ?_; rintro e w' ⟨rfl, rfl⟩)
  go_ret
  exact ⟨rfl, rfl⟩

/-- What ReadByte and UnreadByte leave: the reader at place j; nothing else has turned. -/
def RdPost (b : Nat) (s : ByteArray) (j : Nat) (v : Value) (w : World) (e : Ending) (w' : World) : Prop := e = .returned v ∧ Rd b s j w' ∧ Only b w w'

theorem rd_end {b : Nat} {s : ByteArray} {i : Nat} {pr : Int} {w : World} (h : w.heap[b]? = some (.cells #[.string s, .int .i64 i, .int .i64 pr] 123 (0, 0))) (j n : Nat) (v : Int) (hv : v = j) :
    Rd b s j (((w.setCell ⟨b, 2, none⟩ (.int .i64 (-1))).drewN n).setCell ⟨b, 1, none⟩ (.int .i64 v)) ∧ Only b w (((w.setCell ⟨b, 2, none⟩ (.int .i64 (-1))).drewN n).setCell ⟨b, 1, none⟩ (.int .i64 v)) := by
  subst hv
  refine ⟨⟨-1, ?_⟩, (((Only.refl b w).setCell rfl _).drewN n).setCell rfl _⟩
  have h1 : ((w.setCell ⟨b, 2, none⟩ (.int .i64 (-1))).drewN n).heap[b]? = _ := heap_set h 2 (.int .i64 (-1))
  have := heap_set h1 1 (.int .i64 j)
  simpa using this

theorem Rd.drewN {b : Nat} {s : ByteArray} {i : Nat} {w : World} (h : Rd b s i w) (n : Nat) : Rd b s i (w.drewN n) := h

theorem rd_stay {b : Nat} {s : ByteArray} {i : Nat} {pr : Int} {w : World} (h : w.heap[b]? = some (.cells #[.string s, .int .i64 i, .int .i64 pr] 123 (0, 0))) (n : Nat) :
    Rd b s i ((w.setCell ⟨b, 2, none⟩ (.int .i64 (-1))).drewN n) ∧ Only b w ((w.setCell ⟨b, 2, none⟩ (.int .i64 (-1))).drewN n) := by
  refine ⟨⟨-1, ?_⟩, ((Only.refl b w).setCell rfl _).drewN n⟩
  have h1 : ((w.setCell ⟨b, 2, none⟩ (.int .i64 (-1))).drewN n).heap[b]? = _ := heap_set h 2 (.int .i64 (-1))
  simpa using h1

set_option maxHeartbeats 400000 in
set_option maxRecDepth 100000 in
/-- ReadByte ahead of the end. -/
theorem readByte_next (b : Nat) (s : ByteArray) (i : Nat) (w : World) (hi : i < s.size) (hs : s.size ≤ 1000) (hr : Rd b s i w) :
    Calls Tryz.prog 133 #[.pointer (some ⟨b, 0, none⟩)] w (RdPost b s (i + 1) (.tuple #[.int .u8 s[i].toNat, .nilIface]) w) := by
  obtain ⟨pr, hb⟩ := hr
  have h0 : w.cell? ⟨b, 0, none⟩ = some (.string s) := cell_at hb 0
  have h1 : w.cell? ⟨b, 1, none⟩ = some (.int .i64 i) := cell_at hb 1
  have h2 : w.cell? ⟨b, 2, none⟩ = some (.int .i64 pr) := cell_at hb 2
  have f1 : w.frozen? ⟨b, 1, none⟩ = false := free_at hb 1
  have f2 : w.frozen? ⟨b, 2, none⟩ = false := free_at hb 2
  have H := Lib.hid hb; clear hb
  have hlt : (i : Int) < (s.size : Int) := by omega
  go_enter Tryz.func133, Tryz.ntmps133
  go_wp2
  go_quiet (fail)
  go_wp2
  go_quiet (fail)
  go_wp2
  go_ret2
  exact ⟨rfl, rd_end H.out (i + 1) _ _ (by omega)⟩

set_option maxHeartbeats 400000 in
set_option maxRecDepth 100000 in
/-- ReadByte at the end: io.EOF. -/
theorem readByte_end (b : Nat) (s : ByteArray) (ev : Value) (w : World) (hr : Rd b s s.size w) (hE : w.cell? ⟨0, 0, none⟩ = some ev) :
    Calls Tryz.prog 133 #[.pointer (some ⟨b, 0, none⟩)] w (RdPost b s s.size (.tuple #[.int .u8 0, ev]) w) := by
  obtain ⟨pr, hb⟩ := hr
  have h0 : w.cell? ⟨b, 0, none⟩ = some (.string s) := cell_at hb 0
  have h1 : w.cell? ⟨b, 1, none⟩ = some (.int .i64 s.size) := cell_at hb 1
  have h2 : w.cell? ⟨b, 2, none⟩ = some (.int .i64 pr) := cell_at hb 2
  have f1 : w.frozen? ⟨b, 1, none⟩ = false := free_at hb 1
  have f2 : w.frozen? ⟨b, 2, none⟩ = false := free_at hb 2
  have H := Lib.hid hb; clear hb
  go_enter Tryz.func133, Tryz.ntmps133
  go_wp2
  go_quiet (fail)
  go_wp2
  go_quiet (fail)
  go_wp2
  go_ret2
  exact ⟨rfl, (rd_stay H.out _).1.drewN _, (rd_stay H.out _).2.drewN _⟩

set_option maxHeartbeats 400000 in
set_option maxRecDepth 100000 in
/-- UnreadByte behind the first byte. -/
theorem unreadByte (b : Nat) (s : ByteArray) (w : World) (hr : Rd b s 1 w) :
    Calls Tryz.prog 286 #[.pointer (some ⟨b, 0, none⟩)] w (RdPost b s 0 .nilIface w) := by
  obtain ⟨pr, hb⟩ := hr
  have h0 : w.cell? ⟨b, 0, none⟩ = some (.string s) := cell_at hb 0
  have h1 : w.cell? ⟨b, 1, none⟩ = some (.int .i64 1) := cell_at hb 1
  have h2 : w.cell? ⟨b, 2, none⟩ = some (.int .i64 pr) := cell_at hb 2
  have f1 : w.frozen? ⟨b, 1, none⟩ = false := free_at hb 1
  have f2 : w.frozen? ⟨b, 2, none⟩ = false := free_at hb 2
  have H := Lib.hid hb; clear hb
  go_enter Tryz.func286, Tryz.ntmps286
  go_wp2
  go_ret
  exact ⟨rfl, rd_end H.out 0 0 0 rfl⟩
end Go.Proofs.YtpoepgnapneeaaaGreatDoor
