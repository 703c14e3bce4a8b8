/-
  big.Int's scan, setFromScanner and SetString at a decimal numeral of fewer than 2^53.
-/
import Derived.Test.YtpoepgnapneeaaaGreatDoorT5
namespace Go.Proofs.YtpoepgnapneeaaaGreatDoor
open Go.RowKit

/-- Of the blocks of w none but c has turned; there may be new ones. -/
structure Chg (c : Nat) (w w' : World) : Prop where
  os : w'.os = w.os
  tape : w'.tape = w.tape
  output : w'.output = w.output
  size : w.heap.size ≤ w'.heap.size
  block : ∀ k, k < w.heap.size → k ≠ c → w'.heap[k]? = w.heap[k]?

theorem Chg.refl (c : Nat) (w : World) : Chg c w w := ⟨rfl, rfl, rfl, Nat.le_refl _, fun _ _ _ => rfl⟩
theorem Chg.trans {c : Nat} {x y z : World} (h : Chg c x y) (k : Chg c y z) : Chg c x z :=
  ⟨k.os.trans h.os, k.tape.trans h.tape, k.output.trans h.output, Nat.le_trans h.size k.size, fun i hi hc => (k.block i (Nat.lt_of_lt_of_le hi h.size) hc).trans (h.block i hi hc)⟩
theorem Chg.setCell {c : Nat} {x w : World} (h : Chg c x w) {a : Addr} (ha : a.block = c) (v : Value) : Chg c x (w.setCell a v) :=
  h.trans ⟨rfl, rfl, rfl, by simp [World.setCell], fun k _ hk => Below.heap_setCell _ _ _ _ (by rw [ha]; exact hk)⟩
theorem Chg.alloc {c : Nat} {x w : World} (h : Chg c x w) (o : Obj) : Chg c x (w.alloc o) :=
  h.trans ⟨rfl, rfl, rfl, by simp, fun k hk _ => Below.heap_alloc _ _ _ hk⟩
theorem Chg.only {b c : Nat} {x w w' : World} (h : Chg c x w) (ho : Only b w w') (hb : x.heap.size ≤ b) : Chg c x w' :=
  ⟨ho.os.trans h.os, ho.tape.trans h.tape, ho.output.trans h.output, by rw [ho.size]; exact h.size, fun k hk hc => (ho.block k (by omega)).trans (h.block k hk hc)⟩
theorem Chg.below {B c : Nat} {w w' : World} (h : Chg c w w') (hB : B ≤ c) (hs : B ≤ w.heap.size) : Below B w w' :=
  ⟨h.os, h.tape, h.output, h.size, fun k hk => h.block k (by omega) (by omega)⟩
theorem Chg.keeps {c k : Nat} {w w' : World} {x : Obj} (h : Chg c w w') (hk : w.heap[k]? = some x) (hne : k ≠ c) : w'.heap[k]? = some x := by
  rw [h.block k (heap_lt hk) hne]; exact hk

def ScanPos (b : Nat) (s : ByteArray) (L u : Nat) (w : World) (e : Ending) (w' : World) : Prop :=
  ∃ w1, e = .returned (.tuple #[.slice (some ⟨w1.heap.size, 0, none⟩) 1 1, .int .i64 10, .int .i64 L, .nilIface]) ∧ Rd b s s.size w1 ∧ Only b w w1 ∧ w1.alloc (.cells #[.int .u64 u] 131) = w'
def ScanZero (b : Nat) (s : ByteArray) (L : Nat) (w : World) (e : Ending) (w' : World) : Prop :=
  e = .returned (.tuple #[.slice none 0 0, .int .i64 10, .int .i64 L, .nilIface]) ∧ Rd b s s.size w' ∧ Only b w w'

theorem scan_pos (b : Nat) (s : ByteArray) (p u : Nat) (a : Addr) (w : World) (hu : u < 9007199254740992) (h0 : u ≠ 0)
    (hl : s.data.toList.drop p = Lib.decDigits u) (hs : s.size ≤ 1000) (hr : Rd b s p w)
    (hE : w.cell? ⟨0, 0, none⟩ = some (.iface 261 (.pointer (some a)))) (hb : 0 < b) :
    Calls Tryz.prog 90 #[.slice none 0 0, .iface 84 (.pointer (some ⟨b, 0, none⟩)), .int .i64 10, .bool false] w (ScanPos b s (Lib.decDigits u).length u w) :=
  (scan_dec b s p u a (fun w => .slice (some ⟨w.heap.size, 0, none⟩) 1 1) (fun w => w.alloc (.cells #[.int .u64 u] 131)) w hu hl hs hr hE hb
    (fun y w => mulAdd_pos y u w (by rw [beq_eq_false_iff_ne]; omega))).mono fun _ _ h => h

theorem scan_zero (b : Nat) (s : ByteArray) (p : Nat) (a : Addr) (w : World)
    (hl : s.data.toList.drop p = Lib.decDigits 0) (hs : s.size ≤ 1000) (hr : Rd b s p w)
    (hE : w.cell? ⟨0, 0, none⟩ = some (.iface 261 (.pointer (some a)))) (hb : 0 < b) :
    Calls Tryz.prog 90 #[.slice none 0 0, .iface 84 (.pointer (some ⟨b, 0, none⟩)), .int .i64 10, .bool false] w (ScanZero b s (Lib.decDigits 0).length w) :=
  (scan_dec b s p 0 a (fun _ => .slice none 0 0) (fun w => w) w (by decide) hl hs hr hE hb (fun y w => mulAdd_zero y w)).mono
    fun _ _ ⟨w1, he, hr1, ho1, hN⟩ => by subst hN; exact ⟨he, hr1, ho1⟩

/-- Block c holds the big.Int with sign n whose absolute value is the one word u in block d. -/
def IsInt (c d : Nat) (n : Bool) (u : Nat) (w : World) : Prop :=
  w.heap[c]? = some (.cells #[.bool n, .slice (some ⟨d, 0, none⟩) 1 1] 63 (0, 0)) ∧ w.heap[d]? = some (.cells #[.int .u64 u] 131 (0, 0))
/-- Block c holds the big.Int 0. -/
def IsZero (c : Nat) (w : World) : Prop := w.heap[c]? = some (.cells #[.bool false, .slice none 0 0] 63 (0, 0))

def IntScanPos (b c : Nat) (s : ByteArray) (n : Bool) (u : Nat) (w : World) (e : Ending) (w' : World) : Prop :=
  e = .returned (.tuple #[.pointer (some ⟨c, 0, none⟩), .int .i64 10, .nilIface]) ∧ (∃ d, w.heap.size ≤ d ∧ IsInt c d n u w') ∧ Rd b s s.size w' ∧ (∀ k, k < w.heap.size → k ≠ c → k ≠ b → w'.heap[k]? = w.heap[k]?) ∧ w'.os = w.os ∧ w'.tape = w.tape ∧ w'.output = w.output ∧ w.heap.size ≤ w'.heap.size

def IntScanZero (b c : Nat) (s : ByteArray) (w : World) (e : Ending) (w' : World) : Prop :=
  e = .returned (.tuple #[.pointer (some ⟨c, 0, none⟩), .int .i64 10, .nilIface]) ∧ IsZero c w' ∧ Rd b s s.size w' ∧ (∀ k, k < w.heap.size → k ≠ c → k ≠ b → w'.heap[k]? = w.heap[k]?) ∧ w'.os = w.os ∧ w'.tape = w.tape ∧ w'.output = w.output ∧ w.heap.size ≤ w'.heap.size

theorem intScan_end {b c : Nat} {s : ByteArray} {w w2 : World} (hcb : c ≠ b) (hz : IsZero c w2) (hr : Rd b s s.size w2) (ho : Only b w w2) (n : Bool) (u : Nat) :
    let w' := ((w2.setCell ⟨c, 1, none⟩ (.slice (some ⟨w2.heap.size, 0, none⟩) 1 1)).setCell ⟨c, 0, none⟩ (.bool n)).alloc (.cells #[.int .u64 u] 131)
    (∃ d, w.heap.size ≤ d ∧ IsInt c d n u w') ∧ Rd b s s.size w' ∧ (∀ k, k < w.heap.size → k ≠ c → k ≠ b → w'.heap[k]? = w.heap[k]?) ∧ w'.os = w.os ∧ w'.tape = w.tape ∧ w'.output = w.output ∧ w.heap.size ≤ w'.heap.size := by
  intro w'
  have h1 := heap_set hz 1 (.slice (some ⟨w2.heap.size, 0, none⟩) 1 1)
  have h2 := heap_set h1 0 (.bool n)
  obtain ⟨pr, hr⟩ := hr
  have hs2 : ((w2.setCell ⟨c, 1, none⟩ (.slice (some ⟨w2.heap.size, 0, none⟩) 1 1)).setCell ⟨c, 0, none⟩ (.bool n)).heap.size = w2.heap.size := by simp [World.setCell]
  have hn := heap_new ((w2.setCell ⟨c, 1, none⟩ (.slice (some ⟨w2.heap.size, 0, none⟩) 1 1)).setCell ⟨c, 0, none⟩ (.bool n)) (.cells #[.int .u64 u] 131)
  rw [hs2] at hn
  refine ⟨⟨w2.heap.size, by rw [ho.size]; exact Nat.le_refl _, ?_, hn⟩, ⟨pr, heap_old (heap_other (heap_other hr _ _ hcb.symm) _ _ hcb.symm) _⟩, ?_, ho.os, ho.tape, ho.output, ?_⟩
  · have := heap_old h2 (.cells #[.int .u64 u] 131)
    simpa using this
  · intro k hk hc hb
    show (World.alloc _ _).heap[k]? = _
    rw [Below.heap_alloc _ _ _ (by rw [hs2, ho.size]; exact hk), Below.heap_setCell _ _ _ _ hc, Below.heap_setCell _ _ _ _ hc]
    exact ho.block k hb
  · show _ ≤ (World.alloc _ _).heap.size
    rw [World.size_alloc, hs2, ho.size]; omega

theorem intScan_end0 {b c : Nat} {s : ByteArray} {w w2 : World} (hcb : c ≠ b) (hz : IsZero c w2) (hr : Rd b s s.size w2) (ho : Only b w w2) :
    let w' := (w2.setCell ⟨c, 1, none⟩ (.slice none 0 0)).setCell ⟨c, 0, none⟩ (.bool false)
    IsZero c w' ∧ Rd b s s.size w' ∧ (∀ k, k < w.heap.size → k ≠ c → k ≠ b → w'.heap[k]? = w.heap[k]?) ∧ w'.os = w.os ∧ w'.tape = w.tape ∧ w'.output = w.output ∧ w.heap.size ≤ w'.heap.size := by
  intro w'
  have h1 := heap_set hz 1 (.slice none 0 0)
  have h2 := heap_set h1 0 (.bool false)
  obtain ⟨pr, hr⟩ := hr
  refine ⟨by unfold IsZero; simpa using h2, ⟨pr, heap_other (heap_other hr _ _ hcb.symm) _ _ hcb.symm⟩, ?_, ho.os, ho.tape, ho.output, ?_⟩
  · intro k hk hc hb
    rw [Below.heap_setCell _ _ _ _ hc, Below.heap_setCell _ _ _ _ hc]
    exact ho.block k hb
  · show _ ≤ (World.setCell _ _ _).heap.size
    simp only [World.setCell, Array.size_modify, ho.size]; exact Nat.le_refl _

set_option maxHeartbeats 400000 in
set_option maxRecDepth 100000 in
theorem intScan_pos (b c : Nat) (s : ByteArray) (p u : Nat) (n : Bool) (a : Addr) (w : World) (hu : u < 9007199254740992) (h0 : u ≠ 0)
    (hl : s.data.toList.drop p = Lib.decDigits u) (hs : s.size ≤ 1000) (hb : 0 < b) (hcb : c ≠ b)
    (hE : w.cell? ⟨0, 0, none⟩ = some (.iface 261 (.pointer (some a)))) (hz : IsZero c w)
    (hS : Calls Tryz.prog 89 #[.iface 84 (.pointer (some ⟨b, 0, none⟩))] w (RdPost b s p (.tuple #[.bool n, .nilIface]) w)) :
    Calls Tryz.prog 61 #[.pointer (some ⟨c, 0, none⟩), .iface 84 (.pointer (some ⟨b, 0, none⟩)), .int .i64 10] w (IntScanPos b c s n u w) := by
  have HS := Lib.hid hS; clear hS
  have HE := Lib.hid hE; clear hE
  have HL := Lib.hid hl; clear hl
  go_enter Tryz.func61, Tryz.ntmps61
  go_wp2_with fail
  refine HS.out.mono ?_
  rintro e w1 ⟨rfl, hr1, ho1⟩
  have hz1 : IsZero c w1 := ho1.keeps hz hcb
  have k1 : w1.cell? ⟨c, 1, none⟩ = some (.slice none 0 0) := cell_at hz1 1
  have hE1 : w1.cell? ⟨0, 0, none⟩ = some (.iface 261 (.pointer (some a))) := by rw [← HE.out]; exact ho1.cell (by simp; omega)
  have HE1 := Lib.hid hE1; clear hE1
  go_wp2_with fail
  refine (scan_pos b s p u a w1 hu h0 HL.out hs hr1 HE1.out hb).mono ?_
  rintro e w3 ⟨w2, rfl, hr2, ho2, rfl⟩
  have hz2 : IsZero c w2 := ho2.keeps hz1 hcb
  have g0 : w2.cell? ⟨c, 0, none⟩ = some (.bool false) := cell_at hz2 0
  have g1 : w2.cell? ⟨c, 1, none⟩ = some (.slice none 0 0) := cell_at hz2 1
  have f0 : w2.frozen? ⟨c, 0, none⟩ = false := free_at hz2 0
  have f1 : w2.frozen? ⟨c, 1, none⟩ = false := free_at hz2 1
  have hlt : c < w2.heap.size := heap_lt hz2
  clear k1
  have Z2 := Lib.hid hz2; clear hz2
  go_wp2_with fail
  go_ret3
  exact ⟨rfl, intScan_end hcb Z2.out hr2 (ho1.trans ho2) n u⟩

set_option maxHeartbeats 400000 in
set_option maxRecDepth 100000 in
theorem intScan_zero (b c : Nat) (s : ByteArray) (a : Addr) (w : World)
    (hl : s.data.toList.drop 0 = Lib.decDigits 0) (hs : s.size ≤ 1000) (hb : 0 < b) (hcb : c ≠ b)
    (hE : w.cell? ⟨0, 0, none⟩ = some (.iface 261 (.pointer (some a)))) (hz : IsZero c w)
    (hS : Calls Tryz.prog 89 #[.iface 84 (.pointer (some ⟨b, 0, none⟩))] w (RdPost b s 0 (.tuple #[.bool false, .nilIface]) w)) :
    Calls Tryz.prog 61 #[.pointer (some ⟨c, 0, none⟩), .iface 84 (.pointer (some ⟨b, 0, none⟩)), .int .i64 10] w (IntScanZero b c s w) := by
  have HS := Lib.hid hS; clear hS
  have HE := Lib.hid hE; clear hE
  have HL := Lib.hid hl; clear hl
  go_enter Tryz.func61, Tryz.ntmps61
  go_wp2_with fail
  refine HS.out.mono ?_
  rintro e w1 ⟨rfl, hr1, ho1⟩
  have hz1 : IsZero c w1 := ho1.keeps hz hcb
  have k1 : w1.cell? ⟨c, 1, none⟩ = some (.slice none 0 0) := cell_at hz1 1
  have hE1 : w1.cell? ⟨0, 0, none⟩ = some (.iface 261 (.pointer (some a))) := by rw [← HE.out]; exact ho1.cell (by simp; omega)
  have HE1 := Lib.hid hE1; clear hE1
  go_wp2_with fail
  refine (scan_zero b s 0 a w1 HL.out hs hr1 HE1.out hb).mono ?_
  rintro e w2 ⟨rfl, hr2, ho2⟩
  have hz2 : IsZero c w2 := ho2.keeps hz1 hcb
  have g0 : w2.cell? ⟨c, 0, none⟩ = some (.bool false) := cell_at hz2 0
  have g1 : w2.cell? ⟨c, 1, none⟩ = some (.slice none 0 0) := cell_at hz2 1
  have f0 : w2.frozen? ⟨c, 0, none⟩ = false := free_at hz2 0
  have f1 : w2.frozen? ⟨c, 1, none⟩ = false := free_at hz2 1
  clear k1
  have Z2 := Lib.hid hz2; clear hz2
  go_wp2_with fail
  go_ret3
  exact ⟨rfl, intScan_end0 hcb Z2.out hr2 (ho1.trans ho2)⟩
end Go.Proofs.YtpoepgnapneeaaaGreatDoor
