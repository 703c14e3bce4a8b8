/-
  Words for the walks: a block known whole; 'Only b w w'': nothing but block b has turned, and no block is new.
-/
import Derived.Test.YtpoepgnapneeaaaGreatDoorProg
import Derived.Handy
import Derived.WalkSpells
import Derived.WalkLawsBesides
import Derived.Lib.Hide
namespace Go.Proofs.YtpoepgnapneeaaaGreatDoor
open Go.RowKit

theorem cell_at {w : World} {b : Nat} {c : Array Value} {T : TypeId} {fz : Nat × Nat} (h : w.heap[b]? = some (.cells c T fz)) (o : Nat) : w.cell? ⟨b, o, none⟩ = c[o]? := by
  simp [World.cell?, h]
theorem free_at {w : World} {b : Nat} {c : Array Value} {T : TypeId} (h : w.heap[b]? = some (.cells c T (0, 0))) (o : Nat) : w.frozen? ⟨b, o, none⟩ = false := by
  simp [World.frozen?, h]
theorem heap_set {w : World} {b : Nat} {c : Array Value} {T : TypeId} {fz : Nat × Nat} (h : w.heap[b]? = some (.cells c T fz)) (o : Nat) (v : Value) :
    (w.setCell ⟨b, o, none⟩ v).heap[b]? = some (.cells (c.setIfInBounds o v) T fz) := by
  simp [World.setCell, Array.getElem?_modify, h]
theorem heap_lt {w : World} {b : Nat} {o : Obj} (h : w.heap[b]? = some o) : b < w.heap.size := by
  rcases Nat.lt_or_ge b w.heap.size with h' | h'
  · exact h'
  · rw [Array.getElem?_eq_none h'] at h; cases h
theorem heap_new (w : World) (o : Obj) : (w.alloc o).heap[w.heap.size]? = some o := by
  show (w.heap.push o)[w.heap.size]? = _
  simp
theorem heap_old {w : World} {b : Nat} {x : Obj} (h : w.heap[b]? = some x) (o : Obj) : (w.alloc o).heap[b]? = some x := by
  rw [Below.heap_alloc w o b (heap_lt h)]; exact h
theorem heap_other {w : World} {b : Nat} {x : Obj} (h : w.heap[b]? = some x) (a : Addr) (v : Value) (hb : b ≠ a.block) : (w.setCell a v).heap[b]? = some x := by
  rw [Below.heap_setCell w a v b hb]; exact h
theorem heap_below {B b : Nat} {w w' : World} {x : Obj} (hb : Below B w w') (h : w.heap[b]? = some x) (hlt : b < B) : w'.heap[b]? = some x := by
  rw [hb.block b hlt]; exact h

/-- Nothing but block b has turned; no block is new. -/
structure Only (b : Nat) (w w' : World) : Prop where
  os : w'.os = w.os
  tape : w'.tape = w.tape
  output : w'.output = w.output
  size : w'.heap.size = w.heap.size
  block : ∀ k, k ≠ b → w'.heap[k]? = w.heap[k]?

theorem Only.refl (b : Nat) (w : World) : Only b w w := ⟨rfl, rfl, rfl, rfl, fun _ _ => rfl⟩
theorem Only.trans {b : Nat} {x y z : World} (h : Only b x y) (k : Only b y z) : Only b x z :=
  ⟨k.os.trans h.os, k.tape.trans h.tape, k.output.trans h.output, k.size.trans h.size, fun i hi => (k.block i hi).trans (h.block i hi)⟩
theorem Only.drew {b : Nat} {x w : World} (h : Only b x w) : Only b x w.drew := ⟨h.os, h.tape, h.output, h.size, h.block⟩
theorem Only.drewN {b : Nat} {x w : World} (h : Only b x w) (n : Nat) : Only b x (w.drewN n) := ⟨h.os, h.tape, h.output, h.size, h.block⟩
theorem Only.setCell {b : Nat} {x w : World} (h : Only b x w) {a : Addr} (ha : a.block = b) (v : Value) : Only b x (w.setCell a v) :=
  h.trans ⟨rfl, rfl, rfl, by simp [World.setCell], fun k hk => Below.heap_setCell _ _ _ _ (by rw [ha]; exact hk)⟩
theorem Only.below {B b : Nat} {w w' : World} (h : Only b w w') (hb : B ≤ b) : Below B w w' := ⟨h.os, h.tape, h.output, by rw [h.size]; exact Nat.le_refl _, fun k hk => h.block k (by omega)⟩
theorem Only.keeps {b k : Nat} {w w' : World} {x : Obj} (h : Only b w w') (hk : w.heap[k]? = some x) (hne : k ≠ b) : w'.heap[k]? = some x := by
  rw [h.block k hne]; exact hk

theorem Only.cell {b : Nat} {w w' : World} (h : Only b w w') {a : Addr} (hne : a.block ≠ b) : w'.cell? a = w.cell? a := World.cell?_of_block (w := w) (h.block _ hne)

/-- Block b is a strings.Reader over s at place i. -/
def Rd (b : Nat) (s : ByteArray) (i : Nat) (w : World) : Prop := ∃ pr : Int, w.heap[b]? = some (.cells #[.string s, .int .i64 i, .int .i64 pr] 123 (0, 0))

end Go.Proofs.YtpoepgnapneeaaaGreatDoor
