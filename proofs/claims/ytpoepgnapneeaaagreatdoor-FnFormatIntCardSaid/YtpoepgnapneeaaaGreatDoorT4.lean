/-
  big.scanSign over a strings.Reader.
-/
import Derived.Test.YtpoepgnapneeaaaGreatDoorT3
namespace Go.Proofs.YtpoepgnapneeaaaGreatDoor
open Go.RowKit

set_option maxHeartbeats 400000 in
set_option maxRecDepth 100000 in
/-- A minus ahead. -/
theorem scanSign_minus (b : Nat) (s : ByteArray) (w : World) (h0 : 0 < s.size) (hs : s.size ≤ 1000) (hm : s[0].toNat = 45) (hr : Rd b s 0 w) :
    Calls Tryz.prog 89 #[.iface 84 (.pointer (some ⟨b, 0, none⟩))] w (RdPost b s 1 (.tuple #[.bool true, .nilIface]) w) := by
  have c := readByte_next b s 0 w h0 hs hr
  rw [hm] at c
  have C := Lib.hid c; clear c
  have H := Lib.hid hm; clear hm
  go_enter Tryz.func89, Tryz.ntmps89
  go_wp2_with (go_at_call 133; refine C.out.mono ?_; rintro e w' ⟨rfl, hr1, ho1⟩)
  go_ret2
  exact ⟨rfl, hr1, ho1⟩

set_option maxHeartbeats 400000 in
set_option maxRecDepth 100000 in
/-- A digit ahead. -/
theorem scanSign_digit (b : Nat) (s : ByteArray) (w : World) (h0 : 0 < s.size) (hs : s.size ≤ 1000) (hm : 48 ≤ s[0].toNat) (hr : Rd b s 0 w) :
    Calls Tryz.prog 89 #[.iface 84 (.pointer (some ⟨b, 0, none⟩))] w (RdPost b s 0 (.tuple #[.bool false, .nilIface]) w) := by
  have c := readByte_next b s 0 w h0 hs hr
  obtain ⟨x, hx⟩ : ∃ x : Int, x = s[0].toNat := ⟨_, rfl⟩
  rw [← hx] at c
  have t1 : (x == 45) = false := by rw [beq_eq_false_iff_ne]; omega
  have t2 : (x == 43) = false := by rw [beq_eq_false_iff_ne]; omega
  have C := Lib.hid c; clear c
  clear hx hm
  go_enter Tryz.func89, Tryz.ntmps89
  go_wp2_with (first | (go_at_call 133; refine C.out.mono ?_; rintro e w' ⟨rfl, hr1, ho1⟩) | (go_at_call 286; refine (unreadByte b s _ (by assumption)).mono ?_; rintro e w2 ⟨rfl, hr2, ho2⟩))
  go_ret2
  exact ⟨rfl, hr2, ho1.trans ho2⟩
end Go.Proofs.YtpoepgnapneeaaaGreatDoor
