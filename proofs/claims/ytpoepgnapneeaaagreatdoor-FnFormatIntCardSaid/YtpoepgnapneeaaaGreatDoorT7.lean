/-
  big.Int's setFromScanner and SetString at a decimal numeral of fewer than 2^53.
-/
import Derived.Test.YtpoepgnapneeaaaGreatDoorT6
namespace Go.Proofs.YtpoepgnapneeaaaGreatDoor
open Go.RowKit

theorem eof_neq (a : Addr) (w : World) : (binOp .neq 32 (.iface 261 (.pointer (some a))) (.iface 261 (.pointer (some a)))).run Tryz.prog w = .ok (.bool false) w := by
  obtain ⟨i, hi, hcmp⟩ := Option.map_eq_some_iff.1 comp261
  obtain ⟨j, hj, _⟩ := Option.map_eq_some_iff.1 size263
  simp only [binOp]
  simp [Op.equal, Op.maxDepth, run_equalIn_iface_ptr_same w 9998 a Tryz.underlying32 Tryz.underlying261 hi hcmp hj]

def SetPos (c u : Nat) (n : Bool) (w : World) (e : Ending) (w' : World) : Prop :=
  e = .returned (.tuple #[.pointer (some ⟨c, 0, none⟩), .bool true]) ∧ (∃ d, w.heap.size ≤ d ∧ IsInt c d n u w') ∧ Chg c w w'
def SetZero (c : Nat) (w : World) (e : Ending) (w' : World) : Prop :=
  e = .returned (.tuple #[.pointer (some ⟨c, 0, none⟩), .bool true]) ∧ IsZero c w' ∧ Chg c w w'

theorem chg_of {c : Nat} {o : Obj} {w w1 w2 : World}
    (hk : ∀ k, k < (w.alloc o).heap.size → k ≠ c → k ≠ w.heap.size → w1.heap[k]? = (w.alloc o).heap[k]?) (h1 : w1.os = (w.alloc o).os) (h2 : w1.tape = (w.alloc o).tape) (h3 : w1.output = (w.alloc o).output)
    (hsz : (w.alloc o).heap.size ≤ w1.heap.size) (ho : Only w.heap.size w1 w2) : Chg c w w2 := by
  refine ⟨ho.os.trans h1, ho.tape.trans h2, ho.output.trans h3, by rw [ho.size]; have := hsz; simp at this; omega, fun k hk1 hk2 => ?_⟩
  rw [ho.block k (by omega), hk k (by simp; omega) hk2 (by omega), Below.heap_alloc _ _ _ hk1]

theorem setString_end {c u : Nat} {n : Bool} {o : Obj} {w w1 w2 : World} (hc : c ≠ w.heap.size) (hd : ∃ d, (w.alloc o).heap.size ≤ d ∧ IsInt c d n u w1)
    (hk : ∀ k, k < (w.alloc o).heap.size → k ≠ c → k ≠ w.heap.size → w1.heap[k]? = (w.alloc o).heap[k]?) (h1 : w1.os = (w.alloc o).os) (h2 : w1.tape = (w.alloc o).tape) (h3 : w1.output = (w.alloc o).output)
    (hsz : (w.alloc o).heap.size ≤ w1.heap.size) (ho : Only w.heap.size w1 w2) : (∃ d, w.heap.size ≤ d ∧ IsInt c d n u w2) ∧ Chg c w w2 := by
  obtain ⟨d, hd, hi⟩ := hd
  rw [World.size_alloc] at hd
  exact ⟨⟨d, by omega, ho.keeps hi.1 hc, ho.keeps hi.2 (by omega)⟩, chg_of hk h1 h2 h3 hsz ho⟩

set_option maxHeartbeats 400000 in
set_option maxRecDepth 100000 in
theorem setString_pos (c : Nat) (s : ByteArray) (p u : Nat) (n : Bool) (a : Addr) (w : World) (hu : u < 9007199254740992) (h0 : u ≠ 0)
    (hl : s.data.toList.drop p = Lib.decDigits u) (hs : s.size ≤ 1000) (hc : 0 < c)
    (hE : w.cell? ⟨0, 0, none⟩ = some (.iface 261 (.pointer (some a)))) (hz : IsZero c w)
    (hS : ∀ (b : Nat) (w : World), Rd b s 0 w → Calls Tryz.prog 89 #[.iface 84 (.pointer (some ⟨b, 0, none⟩))] w (RdPost b s p (.tuple #[.bool n, .nilIface]) w)) :
    Calls Tryz.prog 25 #[.pointer (some ⟨c, 0, none⟩), .string s, .int .i64 10] w (SetPos c u n w) := by
  have HS := Lib.hid hS; clear hS
  have HE := Lib.hid hE; clear hE
  have HL := Lib.hid hl; clear hl
  go_enter Tryz.func25, Tryz.ntmps25
  go_wp2_with (first | (go_at_call 40; go_in) | (go_at_call 39; go_in))
  have hz0 : IsZero c (w.alloc (.cells #[.string s, .int .i64 0, .int .i64 (-1)] 123)) := heap_old hz _
  have hlt : c < w.heap.size := heap_lt (show w.heap[c]? = _ from hz)
  have hcb : c ≠ w.heap.size := Nat.ne_of_lt hlt
  have hr0 : Rd w.heap.size s 0 (w.alloc (.cells #[.string s, .int .i64 0, .int .i64 (-1)] 123)) := ⟨-1, heap_new w _⟩
  have hE0 : (w.alloc (.cells #[.string s, .int .i64 0, .int .i64 (-1)] 123)).cell? ⟨0, 0, none⟩ = some (.iface 261 (.pointer (some a))) := by
    rw [← HE.out]; exact World.cell?_of_block (Below.heap_alloc _ _ _ (show 0 < w.heap.size by omega))
  have hb : 0 < w.heap.size := by omega
  have C := Lib.hid (intScan_pos w.heap.size c s p u n a _ hu h0 HL.out hs hb hcb hE0 hz0 (HS.out _ _ hr0))
  have HE0 := Lib.hid hE0; clear hE0
  have HC := Lib.hid hcb; clear hcb
  refine C.out.mono ?_
  rintro e w1 ⟨rfl, ⟨d, hd, hi⟩, hr1, hk, ho1, ho2, ho3, hsz⟩
  have hE1 : w1.cell? ⟨0, 0, none⟩ = some (.iface 261 (.pointer (some a))) := by
    rw [← HE0.out]; exact World.cell?_of_block (hk 0 (by simp) (by omega) (by omega))
  have HK := Lib.hid hk; clear hk
  have H1 := Lib.hid ho1; clear ho1
  have H2 := Lib.hid ho2; clear ho2
  have H3 := Lib.hid ho3; clear ho3
  have q := eof_neq a
  have C2 := Lib.hid (readByte_end w.heap.size s _ w1 hr1 hE1)
  have HE1 := Lib.hid hE1; clear hE1
  go_wp2_with fail
  refine C2.out.mono ?_
  rintro e w2 ⟨rfl, hr2, ho⟩
  have hE2 : w2.cell? ⟨0, 0, none⟩ = some (.iface 261 (.pointer (some a))) := by rw [← HE1.out]; exact ho.cell (by simp; omega)
  go_wp2_with fail
  go_ret2
  exact ⟨rfl, setString_end HC.out ⟨d, hd, hi⟩ HK.out H1.out H2.out H3.out hsz ho⟩

set_option maxHeartbeats 400000 in
set_option maxRecDepth 100000 in
theorem setString_zero (c : Nat) (s : ByteArray) (a : Addr) (w : World)
    (hl : s.data.toList.drop 0 = Lib.decDigits 0) (hs : s.size ≤ 1000) (hc : 0 < c)
    (hE : w.cell? ⟨0, 0, none⟩ = some (.iface 261 (.pointer (some a)))) (hz : IsZero c w)
    (hS : ∀ (b : Nat) (w : World), Rd b s 0 w → Calls Tryz.prog 89 #[.iface 84 (.pointer (some ⟨b, 0, none⟩))] w (RdPost b s 0 (.tuple #[.bool false, .nilIface]) w)) :
    Calls Tryz.prog 25 #[.pointer (some ⟨c, 0, none⟩), .string s, .int .i64 10] w (SetZero c w) := by
  have HS := Lib.hid hS; clear hS
  have HE := Lib.hid hE; clear hE
  have HL := Lib.hid hl; clear hl
  go_enter Tryz.func25, Tryz.ntmps25
  go_wp2_with (first | (go_at_call 40; go_in) | (go_at_call 39; go_in))
  have hz0 : IsZero c (w.alloc (.cells #[.string s, .int .i64 0, .int .i64 (-1)] 123)) := heap_old hz _
  have hlt : c < w.heap.size := heap_lt (show w.heap[c]? = _ from hz)
  have hcb : c ≠ w.heap.size := Nat.ne_of_lt hlt
  have hr0 : Rd w.heap.size s 0 (w.alloc (.cells #[.string s, .int .i64 0, .int .i64 (-1)] 123)) := ⟨-1, heap_new w _⟩
  have hE0 : (w.alloc (.cells #[.string s, .int .i64 0, .int .i64 (-1)] 123)).cell? ⟨0, 0, none⟩ = some (.iface 261 (.pointer (some a))) := by
    rw [← HE.out]; exact World.cell?_of_block (Below.heap_alloc _ _ _ (show 0 < w.heap.size by omega))
  have hb : 0 < w.heap.size := by omega
  have C := Lib.hid (intScan_zero w.heap.size c s a _ HL.out hs hb hcb hE0 hz0 (HS.out _ _ hr0))
  have HE0 := Lib.hid hE0; clear hE0
  have HC := Lib.hid hcb; clear hcb
  refine C.out.mono ?_
  rintro e w1 ⟨rfl, hi, hr1, hk, ho1, ho2, ho3, hsz⟩
  have hE1 : w1.cell? ⟨0, 0, none⟩ = some (.iface 261 (.pointer (some a))) := by
    rw [← HE0.out]; exact World.cell?_of_block (hk 0 (by simp) (by omega) (by omega))
  have HK := Lib.hid hk; clear hk
  have H1 := Lib.hid ho1; clear ho1
  have H2 := Lib.hid ho2; clear ho2
  have H3 := Lib.hid ho3; clear ho3
  have q := eof_neq a
  have C2 := Lib.hid (readByte_end w.heap.size s _ w1 hr1 hE1)
  have HE1 := Lib.hid hE1; clear hE1
  go_wp2_with fail
  refine C2.out.mono ?_
  rintro e w2 ⟨rfl, hr2, ho⟩
  have hE2 : w2.cell? ⟨0, 0, none⟩ = some (.iface 261 (.pointer (some a))) := by rw [← HE1.out]; exact ho.cell (by simp; omega)
  go_wp2_with fail
  go_ret2
  exact ⟨rfl, ho.keeps hi HC.out, chg_of HK.out H1.out H2.out H3.out hsz ho⟩
end Go.Proofs.YtpoepgnapneeaaaGreatDoor
