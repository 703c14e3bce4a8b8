/-
  big.Int's SetString of a decimal numeral and Text in the bases 2, 8 and 16, at every whole number below 2^53.
-/
import Derived.Test.YtpoepgnapneeaaaGreatDoorT17
namespace Go.Proofs.YtpoepgnapneeaaaGreatDoor
open Go.RowKit

/-- Block c holds the big.Int n. -/
def IntVal (c : Nat) (n : Int) (w : World) : Prop := (n = 0 ∧ IsZero c w) ∨ ∃ d u sg, IsInt c d sg u w ∧ u ≠ 0 ∧ u < 9007199254740992 ∧ n = sgn sg u

def SetPost (c : Nat) (n : Int) (w : World) (e : Ending) (w' : World) : Prop :=
  e = .returned (.tuple #[.pointer (some ⟨c, 0, none⟩), .bool true]) ∧ IntVal c n w' ∧ Chg c w w'

theorem first_digit {s : ByteArray} {u : Nat} (hu : u < 9007199254740992) (hs : s.data.toList = Lib.decDigits u) : ∃ h : 0 < s.size, 48 ≤ s[0].toNat := by
  have hd := Pl.dec_len u hu
  have hz := size_is hs
  have h0 : 0 < s.size := by omega
  refine ⟨h0, ?_⟩
  rw [byte_is hs 0 h0 (by omega)]
  exact (Pl.dec_mem u _ (List.getElem_mem _)).1

theorem setString_any (a : Addr) (c : Nat) (n : Int) (w : World) (h0 : -9007199254740992 < n) (h1 : n < 9007199254740992) (hc : 0 < c)
    (hE : w.cell? ⟨0, 0, none⟩ = some (.iface 261 (.pointer (some a)))) (hz : IsZero c w) :
    Calls Tryz.prog 25 #[.pointer (some ⟨c, 0, none⟩), .string ⟨(Lib.itoa n).toArray⟩, .int .i64 10] w (SetPost c n w) := by
  by_cases hn : n < 0
  · obtain ⟨u, rfl⟩ : ∃ u : Nat, n = -(u : Int) := ⟨n.natAbs, by omega⟩
    have hs : (⟨(Lib.itoa (-(u : Int))).toArray⟩ : ByteArray).data.toList = 45 :: Lib.decDigits u := by rw [Lib.itoa_neg u (by omega)]
    generalize (⟨(Lib.itoa (-(u : Int))).toArray⟩ : ByteArray) = s at hs ⊢
    have hd := Pl.dec_len u (by omega)
    have hz2 := size_is hs
    rw [List.length_cons] at hz2
    have h00 : 0 < s.size := by omega
    have hm : s[0].toNat = 45 := by rw [byte_is hs 0 h00 (by simp)]; rfl
    exact (setString_pos c s 1 u true a w (by omega) (by omega) (by rw [hs]; rfl) (by omega) hc hE hz (fun b w hr => scanSign_minus b s w h00 (by omega) hm hr)).mono
      fun e w' ⟨he, ⟨d, _, hi⟩, hg⟩ => ⟨he, Or.inr ⟨d, u, true, hi, by omega, by omega, rfl⟩, hg⟩
  · obtain ⟨u, rfl⟩ : ∃ u : Nat, n = (u : Int) := ⟨n.toNat, by omega⟩
    have hs : (⟨(Lib.itoa (u : Int)).toArray⟩ : ByteArray).data.toList = Lib.decDigits u := by rw [Lib.itoa_nonneg u]
    generalize (⟨(Lib.itoa (u : Int)).toArray⟩ : ByteArray) = s at hs ⊢
    have hd := Pl.dec_len u (by omega)
    have hz2 := size_is hs
    obtain ⟨h00, hm⟩ := first_digit (by omega) hs
    by_cases hu : u = 0
    · subst hu
      exact (setString_zero c s a w (by rw [hs]; rfl) (by omega) hc hE hz (fun b w hr => scanSign_digit b s w h00 (by omega) hm hr)).mono
        fun e w' ⟨he, hi, hg⟩ => ⟨he, Or.inl ⟨rfl, hi⟩, hg⟩
    · exact (setString_pos c s 0 u false a w (by omega) hu (by rw [hs]; rfl) (by omega) hc hE hz (fun b w hr => scanSign_digit b s w h00 (by omega) hm hr)).mono
        fun e w' ⟨he, ⟨d, _, hi⟩, hg⟩ => ⟨he, Or.inr ⟨d, u, false, hi, hu, by omega, rfl⟩, hg⟩

theorem text_int (R : Int) (b c : Nat) (n : Int) (hR : Radix R b) (w : World) (hi : IntVal c n w) (ht : Tab w) :
    Calls Tryz.prog 27 #[.pointer (some ⟨c, 0, none⟩), .int .i64 R] w (TextPost (Pl.sdigs b n) w) := by
  rcases hi with ⟨rfl, hz⟩ | ⟨d, u, sg, hi, h0, hu, rfl⟩
  · have e : Pl.sdigs b 0 = [48] := by
      rw [show (0 : Int) = ((0 : Nat) : Int) from rfl, Pl.sdigs_nonneg, Pl.digs_small (by omega)]; rfl
    rw [e]
    rcases hR with ⟨rfl, rfl⟩ | ⟨rfl, rfl⟩ | ⟨rfl, rfl⟩
    · exact text_zero c 2 (by decide) (by decide) w hz
    · exact text_zero c 8 (by decide) (by decide) w hz
    · exact text_zero c 16 (by decide) (by decide) w hz
  · exact text_any R b c d u sg hR w hu h0 hi ht
end Go.Proofs.YtpoepgnapneeaaaGreatDoor
