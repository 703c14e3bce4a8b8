/-
  big.Int's Text at one word and at zero, bases 2, 8 and 16.
-/
import Derived.Test.YtpoepgnapneeaaaGreatDoorT10
import Derived.StillTailTactics
import Derived.Lib.SlBytesConst
namespace Go.Proofs.YtpoepgnapneeaaaGreatDoor
open Go.RowKit

def TextPost (l : List UInt8) (w : World) (e : Ending) (w' : World) : Prop := e = .returned (.string ⟨l.toArray⟩) ∧ Below w.heap.size w w'

set_option maxHeartbeats 400000 in
set_option maxRecDepth 100000 in
theorem text_word (c d u : Nat) (n : Bool) (R : Int) (l : List UInt8) (w : World) (hi : IsInt c d n u w)
    (hT : ∀ w2 : World, w2.heap = w.heap → Calls Tryz.prog 43 #[.slice (some ⟨d, 0, none⟩) 1 1, .bool n, .int .i64 R] w2 (ItoaPost l w2)) :
    Calls Tryz.prog 27 #[.pointer (some ⟨c, 0, none⟩), .int .i64 R] w (TextPost l w) := by
  have g0 : w.cell? ⟨c, 0, none⟩ = some (.bool n) := cell_at hi.1 0
  have g1 : w.cell? ⟨c, 1, none⟩ = some (.slice (some ⟨d, 0, none⟩) 1 1) := cell_at hi.1 1
  have C := Lib.hid (hT w.drew rfl); clear hT
  go_enter Tryz.func27, Tryz.ntmps27
  go_wp2_with fail
  go_still_tail 9, (by kernel_rfl)
  go_wp2_with fail
  refine C.out.mono ?_
  rintro e w1 ⟨j, rfl, hc, hb⟩
  have q := run_convert_bytes_back (P := Tryz.prog) w1 88 9 5 ⟨w.heap.size, j, none⟩ l.length l Tryz.underlying88 Tryz.underlying5 Tryz.underlying9 (fun k hk => by rw [Lib.add_plain]; exact hc k hk)
  have HB := Lib.hid hb; clear hb
  have HC := Lib.hid hc; clear hc
  go_wp2_with fail
  go_ret
  exact ⟨rfl, ((Below.refl w.heap.size w).drew).trans HB.out⟩

/-- The three cells of math/bits' table that the road reads. -/
def Tab (w : World) : Prop := w.cell? ⟨7, 1, none⟩ = some (.int .u8 1) ∧ w.cell? ⟨7, 7, none⟩ = some (.int .u8 3) ∧ w.cell? ⟨7, 15, none⟩ = some (.int .u8 4) ∧ 7 < w.heap.size

/-- The bases, and what Pl.digs takes for each. -/
def Radix (R : Int) (b : Nat) : Prop := (R = 2 ∧ b = 0) ∨ (R = 8 ∧ b = 6) ∨ (R = 16 ∧ b = 14)

/-- The signed number. -/
def sgn (n : Bool) (u : Nat) : Int := if n then -(u : Int) else u

theorem sdigs_sgn (b u : Nat) (n : Bool) (h : u ≠ 0) : Pl.sdigs b (sgn n u) = if n then 45 :: Pl.digs b u else Pl.digs b u := by
  cases n
  · exact Pl.sdigs_nonneg b u
  · exact Pl.sdigs_neg b u (by omega)

theorem itoa_any (R : Int) (b d u : Nat) (n : Bool) (hR : Radix R b) (w : World) (hu : u < 9007199254740992) (h0 : u ≠ 0) (hd : w.heap[d]? = some (.cells #[.int .u64 u] 131 (0, 0))) (ht : Tab w) :
    Calls Tryz.prog 43 #[.slice (some ⟨d, 0, none⟩) 1 1, .bool n, .int .i64 R] w (ItoaPost (Pl.sdigs b (sgn n u)) w) := by
  rw [sdigs_sgn b u n h0]
  obtain ⟨t1, t2, t3, t4⟩ := ht
  have hc : w.cell? ⟨d, 0, none⟩ = some (.int .u64 u) := cell_at hd 0
  have hl := heap_lt hd
  rcases hR with ⟨rfl, rfl⟩ | ⟨rfl, rfl⟩ | ⟨rfl, rfl⟩ <;> cases n
  · exact itoa_two_pos d u w hu h0 hc hl t1 t4
  · exact itoa_two_neg d u w hu h0 hc hl t1 t4
  · exact itoa_eight_pos d u w hu h0 hc hl t2 t4
  · exact itoa_eight_neg d u w hu h0 hc hl t2 t4
  · exact itoa_sixteen_pos d u w hu h0 hc hl t3 t4
  · exact itoa_sixteen_neg d u w hu h0 hc hl t3 t4

theorem Tab.heap {w w2 : World} (h : Tab w) (e : w2.heap = w.heap) : Tab w2 := by
  unfold Tab World.cell? at *; rw [e]; exact h

theorem text_any (R : Int) (b c d u : Nat) (n : Bool) (hR : Radix R b) (w : World) (hu : u < 9007199254740992) (h0 : u ≠ 0) (hi : IsInt c d n u w) (ht : Tab w) :
    Calls Tryz.prog 27 #[.pointer (some ⟨c, 0, none⟩), .int .i64 R] w (TextPost (Pl.sdigs b (sgn n u)) w) :=
  text_word c d u n R _ w hi fun w2 e => itoa_any R b d u n hR w2 hu h0 (by rw [e]; exact hi.2) (ht.heap e)

set_option maxHeartbeats 400000 in
set_option maxRecDepth 100000 in
theorem itoa_zero (R : Int) (hR1 : 2 ≤ R) (hR2 : R ≤ 62) (w : World) :
    Calls Tryz.prog 43 #[.slice none 0 0, .bool false, .int .i64 R] w (ItoaPost [48] w) := by
  have kc := fun (w : World) (C : Array Value) (n c : Nat) => Lib.run_convert_bytes_const (P := Tryz.prog) w 88 5 C n c Tryz.underlying88 Tryz.underlying5
  go_enter Tryz.func43, Tryz.ntmps43
  go_wp2
  go_ret
  refine ⟨0, rfl, fun k hk => ?_, (Below.refl _ _).alloc (Nat.le_refl _) _⟩
  obtain rfl : k = 0 := by simp at hk; omega
  exact cell_at (heap_new w _) 0

set_option maxHeartbeats 400000 in
set_option maxRecDepth 100000 in
theorem text_zero (c : Nat) (R : Int) (hR1 : 2 ≤ R) (hR2 : R ≤ 62) (w : World) (hi : IsZero c w) :
    Calls Tryz.prog 27 #[.pointer (some ⟨c, 0, none⟩), .int .i64 R] w (TextPost [48] w) := by
  have g0 : w.cell? ⟨c, 0, none⟩ = some (.bool false) := cell_at hi 0
  have g1 : w.cell? ⟨c, 1, none⟩ = some (.slice none 0 0) := cell_at hi 1
  have C := Lib.hid (itoa_zero R hR1 hR2 w.drew)
  go_enter Tryz.func27, Tryz.ntmps27
  go_wp2_with fail
  go_still_tail 9, (by kernel_rfl)
  go_wp2_with fail
  refine C.out.mono ?_
  rintro e w1 ⟨j, rfl, hc, hb⟩
  have q : (convert 88 9 (.slice (some ⟨w.heap.size, j, none⟩) 1 1)).run Tryz.prog w1 = .ok (.string ⟨[48].toArray⟩) w1 := run_convert_bytes_back (P := Tryz.prog) w1 88 9 5 ⟨w.heap.size, j, none⟩ 1 [48] Tryz.underlying88 Tryz.underlying5 Tryz.underlying9 (fun k hk => by rw [Lib.add_plain]; exact hc k hk)
  have HB := Lib.hid hb; clear hb
  have HC := Lib.hid hc; clear hc
  go_wp2_with fail
  go_ret
  exact ⟨rfl, ((Below.refl w.heap.size w).drew).trans HB.out⟩
end Go.Proofs.YtpoepgnapneeaaaGreatDoor
