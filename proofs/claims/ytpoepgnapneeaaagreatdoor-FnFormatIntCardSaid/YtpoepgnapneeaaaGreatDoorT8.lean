/-
  nat.bitLen, math/bits.TrailingZeros and nat.itoa at one word, bases 2, 8 and 16.
-/
import Derived.Test.YtpoepgnapneeaaaGreatDoorT7
import Derived.Test.YtpoepgnapneeaaaGreatDoorT2
import Derived.Test.YtpoepgnapneeaaaGreatDoorShelf
import Derived.Laws.BitsAllLaws
namespace Go.Proofs.YtpoepgnapneeaaaGreatDoor
open Go.RowKit

theorem or_half (a k : Nat) (ha : a < 18446744073709551616) : bits .or .u64 (a : Int) ((a : Int) / (k : Nat)) = ((a ||| a / k : Nat) : Int) := by
  rw [← Int.natCast_ediv]
  exact u64_or_nat a (a / k) ha (Nat.lt_of_le_of_lt (Nat.div_le_self _ _) ha)
theorem or_lt64 (a b : Nat) (ha : a < 18446744073709551616) (hb : b ≤ a) : a ||| b < 18446744073709551616 := by
  have : a ||| b < 2 ^ 64 := Nat.or_lt_two_pow (by simpa using ha) (by simp; omega)
  simpa using this

set_option maxHeartbeats 400000 in
set_option maxRecDepth 100000 in
theorem bitLen_word (d u : Nat) (w : World) (hu : u < 9007199254740992) (h0 : u ≠ 0) (h : w.cell? ⟨d, 0, none⟩ = some (.int .u64 u)) :
    Calls Tryz.prog 62 #[.slice (some ⟨d, 0, none⟩) 1 1] w fun e w' => e = .returned (.int .i64 (Lib.bitLen u)) ∧ w = w' := by
  obtain ⟨sl, slt, _⟩ := Pl.smear_long u (by omega) h0
  have hL := Lib.bitLen_le u 64 (Nat.le_refl _) (by omega)
  have l0 : u < 18446744073709551616 := by omega
  obtain ⟨x1, e1⟩ : ∃ x, x = u ||| u / 2 := ⟨_, rfl⟩
  have l1 : x1 < 18446744073709551616 := by rw [e1]; exact or_lt64 _ _ l0 (Nat.div_le_self _ _)
  obtain ⟨x2, e2⟩ : ∃ x, x = x1 ||| x1 / 4 := ⟨_, rfl⟩
  have l2 : x2 < 18446744073709551616 := by rw [e2]; exact or_lt64 _ _ l1 (Nat.div_le_self _ _)
  obtain ⟨x3, e3⟩ : ∃ x, x = x2 ||| x2 / 16 := ⟨_, rfl⟩
  have l3 : x3 < 18446744073709551616 := by rw [e3]; exact or_lt64 _ _ l2 (Nat.div_le_self _ _)
  obtain ⟨x4, e4⟩ : ∃ x, x = x3 ||| x3 / 256 := ⟨_, rfl⟩
  have l4 : x4 < 18446744073709551616 := by rw [e4]; exact or_lt64 _ _ l3 (Nat.div_le_self _ _)
  obtain ⟨x5, e5⟩ : ∃ x, x = x4 ||| x4 / 65536 := ⟨_, rfl⟩
  have l5 : x5 < 18446744073709551616 := by rw [e5]; exact or_lt64 _ _ l4 (Nat.div_le_self _ _)
  obtain ⟨x6, e6⟩ : ∃ x, x = x5 ||| x5 / 65536 / 65536 := ⟨_, rfl⟩
  have e : x6 = Pl.smear u := by rw [e6, e5, e4, e3, e2, e1]; rfl
  have r1 : bits .or .u64 (u : Int) ((u : Int) / 2) = x1 := by rw [e1]; exact or_half u 2 l0
  have r2 : bits .or .u64 (x1 : Int) ((x1 : Int) / 4) = x2 := by rw [e2]; exact or_half x1 4 l1
  have r3 : bits .or .u64 (x2 : Int) ((x2 : Int) / 16) = x3 := by rw [e3]; exact or_half x2 16 l2
  have r4 : bits .or .u64 (x3 : Int) ((x3 : Int) / 256) = x4 := by rw [e4]; exact or_half x3 256 l3
  have r5 : bits .or .u64 (x4 : Int) ((x4 : Int) / 65536) = x5 := by rw [e5]; exact or_half x4 65536 l4
  have r6 : bits .or .u64 (x5 : Int) ((x5 : Int) / 65536 / 65536) = x6 := by
    rw [e6]; have := u64_or_nat x5 (x5 / 65536 / 65536) l5 (by omega); simpa using this
  rw [← e] at sl slt
  have l6 := slt
  obtain ⟨B, hB⟩ : ∃ B, B = Lib.bitLen u := ⟨_, rfl⟩
  rw [← hB] at sl hL ⊢
  have C : ∀ w, Calls Tryz.prog 91 #[.int .u64 x6] w fun e w' => e = .returned (.int .i64 B) ∧ w = w' := fun w =>
    (Tryz.bits_Len x6 w (by omega) (by omega)).mono fun e w' ⟨he, hw⟩ => ⟨by rw [he, Int.toNat_natCast, sl], hw.symm⟩
  have HC := Lib.hid C; clear C
  clear sl slt e e1 e2 e3 e4 e5 e6 hB h0
  go_enter Tryz.func62, Tryz.ntmps62
  go_wp2_with (go_at_call 91; refine (HC.out _).mono ?_; rintro e w' ⟨rfl, rfl⟩)
  go_ret
  exact ⟨rfl, rfl⟩
end Go.Proofs.YtpoepgnapneeaaaGreatDoor
