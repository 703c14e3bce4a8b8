/-
  The small functions of package ast and of the thin package that the road meets.
-/
import Derived.Test.YtpoepgnapneeaaaGreatDoorU
import Derived.Test.YtpoepgnapneeaaaGreatDoorPlain
import Derived.Test.YtpoepgnapneeaaaGreatDoorShelf
import Derived.Lib.ItoaLen
namespace Go.Proofs.YtpoepgnapneeaaaGreatDoor
open Go.RowKit

theorem below_grow (w : World) (k : Nat) (os : Array Obj) : Below w.heap.size w (Sort.grow (w.drewN k) os) :=
  ⟨rfl, rfl, rfl, by show _ ≤ (w.heap ++ os).size; simp, fun i hi => by show (w.heap ++ os)[i]? = _; rw [Array.getElem?_append_left hi]⟩

/-- strconv.Itoa. -/
theorem itoa_calls (n : Int) (h0 : -9223372036854775808 ≤ n) (h1 : n ≤ 9223372036854775807) (w : World) (htab : Lib.TabIs Tryz.prog w "internal/strconv.uint64pow10" .u64 Lib.pow10Tab) :
    Calls Tryz.prog 36 #[.int .i64 n] w fun e w' => e = .returned (.string ⟨(Lib.itoa n).toArray⟩) ∧ Below w.heap.size w w' :=
  (Tryz.strconv_Itoa n h0 h1 w htab).mono fun _ _ ⟨he, k, os, hw⟩ => ⟨he, by rw [hw]; exact below_grow w k os⟩

/-- Block b is a term of value v. -/
def IsTerm (b : Nat) (v : Value) (w : World) : Prop := w.heap[b]? = some (.cells #[v, .pointer none] 43 (0, 0))
def TermPost (v : Value) (w : World) (e : Ending) (w' : World) : Prop := ∃ b, e = .returned (.pointer (some ⟨b, 0, none⟩)) ∧ w.heap.size ≤ b ∧ IsTerm b v w' ∧ Below w.heap.size w w'

set_option maxHeartbeats 400000 in
set_option maxRecDepth 100000 in
theorem newTerm (T : TypeId) (x : Value) (w : World) : Calls Tryz.prog 41 #[.iface T x] w (TermPost (.iface T x) w) := by
  go_enter Tryz.func41, Tryz.ntmps41
  go_wp2
  go_ret
  exact ⟨w.heap.size, rfl, Nat.le_refl _, heap_new w _, (Below.refl _ _).alloc (Nat.le_refl _) _⟩

set_option maxHeartbeats 400000 in
set_option maxRecDepth 100000 in
theorem num_calls (n : Int) (h0 : -9223372036854775808 ≤ n) (h1 : n ≤ 9223372036854775807) (w : World) (htab : Lib.TabIs Tryz.prog w "internal/strconv.uint64pow10" .u64 Lib.pow10Tab) :
    Calls Tryz.prog 11 #[.int .i64 n] w (TermPost (.iface 51 (.string ⟨(Lib.itoa n).toArray⟩)) w) := by
  have C := Lib.hid (itoa_calls n h0 h1 w htab)
  have ta4 : ∀ w, (Instr.typeAssert (.iface 3 (.int .i64 n)) 20 4 true).run Tryz.prog w = .ok (.tuple #[.bool false, .bool false]) w := fun _ => by kernel_rfl
  have ta9 : ∀ w, (Instr.typeAssert (.iface 3 (.int .i64 n)) 20 9 true).run Tryz.prog w = .ok (.tuple #[.string ByteArray.empty, .bool false]) w := fun _ => by kernel_rfl
  have ta3 : ∀ w, (Instr.typeAssert (.iface 3 (.int .i64 n)) 20 3 true).run Tryz.prog w = .ok (.tuple #[.int .i64 n, .bool true]) w := fun _ => by kernel_rfl
  go_enter Tryz.func11, Tryz.ntmps11
  go_wp2_with (first | (go_at_call 36; refine C.out.mono ?_; rintro e w1 ⟨rfl, hb⟩) | go_in)
  go_ret
  exact ⟨w1.heap.size, rfl, hb.size, heap_new _ _, hb.alloc hb.size _⟩

set_option maxHeartbeats 400000 in
set_option maxRecDepth 100000 in
theorem str_calls (s : ByteArray) (w : World) : Calls Tryz.prog 13 #[.string s] w (TermPost (.iface 37 (.string s)) w) := by
  go_enter Tryz.func13, Tryz.ntmps13
  go_wp2
  go_ret
  exact ⟨w.heap.size, rfl, Nat.le_refl _, heap_new w _, (Below.refl _ _).alloc (Nat.le_refl _) _⟩

set_option maxHeartbeats 400000 in
set_option maxRecDepth 100000 in
theorem intString_calls (n : Int) (h0 : -9223372036854775808 ≤ n) (h1 : n ≤ 9223372036854775807) (w : World) (htab : Lib.TabIs Tryz.prog w "internal/strconv.uint64pow10" .u64 Lib.pow10Tab) :
    Calls Tryz.prog 23 #[.int .i64 n] w (TermPost (.iface 37 (.string ⟨(Lib.itoa n).toArray⟩)) w) := by
  have C := Lib.hid (itoa_calls n h0 h1 w htab)
  go_enter Tryz.func23, Tryz.ntmps23
  go_wp2_with (first | (go_at_call 36; refine C.out.mono ?_; rintro e w1 ⟨rfl, hb⟩) | go_in)
  go_ret
  exact ⟨w1.heap.size, rfl, hb.size, heap_new _ _, hb.alloc hb.size _⟩

set_option maxHeartbeats 400000 in
set_option maxRecDepth 100000 in
theorem internedString (s : ByteArray) (w : World) : Calls Tryz.prog 26 #[.string s] w (TermPost (.iface 37 (.string s)) w) := by
  have ta4 : ∀ w, (Instr.typeAssert (.iface 9 (.string s)) 20 4 true).run Tryz.prog w = .ok (.tuple #[.bool false, .bool false]) w := fun _ => by kernel_rfl
  have ta9 : ∀ w, (Instr.typeAssert (.iface 9 (.string s)) 20 9 true).run Tryz.prog w = .ok (.tuple #[.string s, .bool true]) w := fun _ => by kernel_rfl
  go_enter Tryz.func26, Tryz.ntmps26
  go_wp2
  go_ret
  exact ⟨w.heap.size, rfl, Nat.le_refl _, heap_new w _, (Below.refl _ _).alloc (Nat.le_refl _) _⟩

set_option maxHeartbeats 400000 in
set_option maxRecDepth 100000 in
theorem numberOperand (s : ByteArray) (i : Int) (w : World) : Calls Tryz.prog 20 #[.iface 51 (.string s), .int .i64 i] w fun e w' => e = .returned (.tuple #[.string s, .nilIface]) ∧ w = w' := by
  have ta : ∀ w, (Instr.typeAssert (.iface 51 (.string s)) 40 51 true).run Tryz.prog w = .ok (.tuple #[.string s, .bool true]) w := fun _ => by kernel_rfl
  go_enter Tryz.func20, Tryz.ntmps20
  go_wp2
  go_ret2
  exact ⟨rfl, rfl⟩

set_option maxHeartbeats 400000 in
set_option maxRecDepth 100000 in
theorem stringOperand (s : ByteArray) (i : Int) (w : World) : Calls Tryz.prog 32 #[.iface 37 (.string s), .int .i64 i] w fun e w' => e = .returned (.tuple #[.string s, .nilIface]) ∧ w = w' := by
  have ta : ∀ w, (Instr.typeAssert (.iface 37 (.string s)) 40 37 true).run Tryz.prog w = .ok (.tuple #[.string s, .bool true]) w := fun _ => by kernel_rfl
  go_enter Tryz.func32, Tryz.ntmps32
  go_wp2
  go_ret2
  exact ⟨rfl, rfl⟩

set_option maxHeartbeats 400000 in
set_option maxRecDepth 100000 in
theorem isString_calls (b : Nat) (s : ByteArray) (w : World) (h : IsTerm b (.iface 37 (.string s)) w) : Calls Tryz.prog 9 #[.pointer (some ⟨b, 0, none⟩), .nilIface] w fun e w' => e = .returned (.tuple #[.string s, .bool true]) ∧ w = w' := by
  have ta : ∀ w, (Instr.typeAssert (.iface 37 (.string s)) 40 37 true).run Tryz.prog w = .ok (.tuple #[.string s, .bool true]) w := fun _ => by kernel_rfl
  have h0 : w.cell? ⟨b, 0, none⟩ = some (.iface 37 (.string s)) := cell_at h 0
  go_enter Tryz.func9, Tryz.ntmps9
  go_wp2
  go_ret2
  exact ⟨rfl, rfl⟩
end Go.Proofs.YtpoepgnapneeaaaGreatDoor
