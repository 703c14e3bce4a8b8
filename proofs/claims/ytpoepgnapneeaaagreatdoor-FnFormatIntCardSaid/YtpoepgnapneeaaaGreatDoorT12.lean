/-
  nat.itoa at one word: what its loop keeps, beside the program.
-/
import Derived.Test.YtpoepgnapneeaaaGreatDoorU
import Derived.Test.YtpoepgnapneeaaaGreatDoorPlain
import Derived.Laws.BitsAllLaws
import Derived.Deep.OwnRows
namespace Go.Proofs.YtpoepgnapneeaaaGreatDoor
open Go.RowKit

/-- A byte as a cell. -/
def byteCell (c : UInt8) : Value := .int .u8 (c.toNat : Nat)

/-- The loop's relation: block h holds a row of N cells; from place j on lie the signs behind those of v; n0 places ahead are kept free. -/
def LayRel (h b N n0 : Nat) (all : List UInt8) (w : World) (j v : Nat) (wr : World) : Prop :=
  ∃ (bs : List Value) (suf : List UInt8), wr.heap[h]? = some (.cells bs.toArray 5 (0, 0)) ∧ bs.length = N ∧ bs.drop j = suf.map byteCell ∧ Pl.lp b v ++ suf = all ∧ v < (b + 2) ^ (j - n0) ∧ n0 ≤ j ∧ j ≤ N ∧ Below w.heap.size w wr

/-- One round. -/
theorem LayRel.step {h b N n0 : Nat} {all : List UInt8} {w wr : World} {j v : Nat} (r : LayRel h b N n0 all w (j + 1) v wr) (h0 : v ≠ 0) (hn : n0 ≤ j) (hh : w.heap.size ≤ h) :
    LayRel h b N n0 all w j (v / (b + 2)) (wr.setCell ⟨h, j, none⟩ (byteCell (Pl.sg (v % (b + 2))))) := by
  obtain ⟨bs, suf, hb, hN, hd, hl, hv, _, hj, hw⟩ := r
  refine ⟨bs.set j (byteCell (Pl.sg (v % (b + 2)))), Pl.sg (v % (b + 2)) :: suf, ?_, by simpa using hN, ?_, Pl.lp_lay h0 hl, ?_, hn, by omega, hw.setCell (by simpa using hh) _⟩
  · have := heap_set hb j (byteCell (Pl.sg (v % (b + 2))))
    simpa using this
  · rw [Pl.drop_set _ _ _ (by omega), hd]; rfl
  · rw [show j + 1 - n0 = (j - n0) + 1 by omega] at hv
    exact Pl.lt_pow_step hv

theorem LayRel.room {h b N n0 : Nat} {all : List UInt8} {w wr : World} {j v : Nat} (r : LayRel h b N n0 all w j v wr) (h0 : v ≠ 0) : n0 + 1 ≤ j := by
  obtain ⟨bs, suf, hb, hN, hd, hl, hv, hn, hj, hw⟩ := r
  have := Pl.pow_room hv h0
  omega

theorem LayRel.cellOld {h b N n0 : Nat} {all : List UInt8} {w wr : World} {j v : Nat} (r : LayRel h b N n0 all w j v wr) (i : Nat) (hi : i < N) :
    (∃ x, wr.cell? ⟨h, i, none⟩ = some x) ∧ wr.frozen? ⟨h, i, none⟩ = false := by
  obtain ⟨bs, suf, hb, hN, _⟩ := r
  refine ⟨⟨bs[i], ?_⟩, free_at hb i⟩
  rw [cell_at hb i]; simp [List.getElem?_eq_getElem (show i < bs.length by omega)]

/-- What lies when the number is used up. -/
theorem LayRel.done {h b N n0 : Nat} {all : List UInt8} {w wr : World} {j : Nat} (r : LayRel h b N n0 all w j 0 wr) :
    N - j = all.length ∧ n0 ≤ j ∧ j ≤ N ∧ ∃ bs : List Value, wr.heap[h]? = some (.cells bs.toArray 5 (0, 0)) ∧ bs.length = N ∧ bs.drop j = all.map byteCell := by
  obtain ⟨bs, suf, hb, hN, hd, hl, hv, hn, hj, hw⟩ := r
  rw [Pl.lp_zero, List.nil_append] at hl
  subst hl
  refine ⟨?_, hn, hj, bs, hb, hN, hd⟩
  have : (bs.drop j).length = suf.length := by rw [hd, List.length_map]
  rw [List.length_drop] at this
  omega

theorem LayRel.below {h b N n0 : Nat} {all : List UInt8} {w wr : World} {j v : Nat} (r : LayRel h b N n0 all w j v wr) : Below w.heap.size w wr := by
  obtain ⟨bs, suf, hb, hN, hd, hl, hv, hn, hj, hw⟩ := r; exact hw

/-- The cells of a row from place j on. -/
theorem row_cells {w : World} {h j : Nat} {bs : List Value} {l : List UInt8} (hb : w.heap[h]? = some (.cells bs.toArray 5 (0, 0))) (hd : bs.drop j = l.map byteCell) (k : Nat) (hk : k < l.length) :
    w.cell? ⟨h, j + k, none⟩ = some (.int .u8 (l[k].toNat : Nat)) := by
  rw [cell_at hb]
  have : (bs.drop j)[k]? = some (byteCell l[k]) := by rw [hd]; simp [hk]
  rw [List.getElem?_drop] at this
  simpa [byteCell] using this

theorem and_mod (v s : Nat) (hv : v < 18446744073709551616) (hs : s ≤ 63) : bits .and .u64 (v : Int) ((2 ^ s - 1 : Nat) : Int) = ((v % 2 ^ s : Nat) : Int) := by
  have h2 : 2 ^ s ≤ 2 ^ 63 := Nat.pow_le_pow_right (by decide) hs
  rw [u64_and_nat v (2 ^ s - 1) hv (by omega), Nat.and_two_pow_sub_one_eq_mod]

/-- The first sixteen of math/big's signs. -/
def signs62 : ByteArray := { data := #[48, 49, 50, 51, 52, 53, 54, 55, 56, 57, 97, 98, 99, 100, 101, 102, 103, 104, 105, 106, 107, 108, 109, 110, 111, 112, 113, 114, 115, 116, 117, 118, 119, 120, 121, 122, 65, 66, 67, 68, 69, 70, 71, 72, 73, 74, 75, 76, 77, 78, 79, 80, 81, 82, 83, 84, 85, 86, 87, 88, 89, 90] }
end Go.Proofs.YtpoepgnapneeaaaGreatDoor
