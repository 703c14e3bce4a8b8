/-
  util.Atoi64 at a decimal numeral of fewer than 2^53, with and without a minus.
-/
import Derived.Test.YtpoepgnapneeaaaGreatDoorU
import Derived.Test.YtpoepgnapneeaaaGreatDoorPlain
import Derived.Laws.IdiomStrings
import Derived.Lib.Strings
namespace Go.Proofs.YtpoepgnapneeaaaGreatDoor
open Go.RowKit

def AtRel (u k : Nat) (v : Int) : Prop := v = (Pl.val ((Lib.decDigits u).take k) : Nat) ∧ k ≤ (Lib.decDigits u).length

def AtoiPost (n : Int) (w : World) (e : Ending) (w' : World) : Prop := e = .returned (.tuple #[.int .i64 n, .bool true]) ∧ Below w.heap.size w w'

/-- '[]byte(s)': the new row, in a world under one name. -/
theorem bytes_laid (s : ByteArray) (w : World) : ∃ (cap : Nat) (W : World), (convert 9 88 (.string s)).run Tryz.prog w = .ok (.slice (some ⟨w.heap.size, 0, none⟩) s.size cap) W ∧
    (∀ j (hj : j < s.size), W.cell? ⟨w.heap.size, j, none⟩ = some (.int .u8 (s[j].toNat : Nat))) ∧ Below w.heap.size w W := by
  refine ⟨_, _, run_bytes_of_string (P := Tryz.prog) w 9 88 5 s Tryz.underlying9 Tryz.underlying88 Tryz.underlying5, fun j hj => ?_, ((Below.refl _ _).drew).alloc (Nat.le_refl _) _⟩
  have h := World.cell?_alloc_mark w.drew (bytesRow s (grownCap w s.size 0 5)) 5 ((bytesRow s (grownCap w s.size 0 5)).size, (bytesRow s (grownCap w s.size 0 5)).size + 1) j
  rw [bytesRow_at s _ j hj] at h
  exact h

/-- A byte of the numeral. -/
theorem byte_is {s : ByteArray} {l : List UInt8} (h : s.data.toList = l) (j : Nat) (hj : j < s.size) (hl : j < l.length) : s[j] = l[j] := by
  subst h; rfl
theorem size_is {s : ByteArray} {l : List UInt8} (h : s.data.toList = l) : s.size = l.length := by rw [← h]; simp

set_option maxHeartbeats 1000000 in
set_option maxRecDepth 100000 in
theorem atoi_pos (s : ByteArray) (u : Nat) (w : World) (hu : u < 9007199254740992) (hs : s.data.toList = Lib.decDigits u) :
    Calls Tryz.prog 59 #[.string s] w (AtoiPost (u) w) := by
  have hd := Pl.dec_len u hu
  have hsz : s.size = (Lib.decDigits u).length := size_is hs
  skip
  have hz0 : 1 ≤ s.size := by omega
  have hz1 : s.size ≤ 16 := by omega
  have h00 : 0 < s.size := by omega
  have hm := Pl.dec_mem u _ (List.getElem_mem (show 0 < (Lib.decDigits u).length by omega))
  rw [← byte_is hs 0 h00 (by omega)] at hm
  have t1 : (((s[0].toNat : Nat) : Int) == 45) = false := by rw [beq_eq_false_iff_ne]; omega
  have t2 : (((s[0].toNat : Nat) : Int) == 43) = false := by rw [beq_eq_false_iff_ne]; omega
  have t3 : ((s.size : Int) == 0) = false := by rw [beq_eq_false_iff_ne]; omega
  clear hm
  have he := hs
  have hez := hsz
  obtain ⟨cap, W, hq, hc, hw⟩ := bytes_laid s w
  skip
  have HS := Lib.hid he; clear he hs
  have HZ := Lib.hid hez; clear hez
  have HD := Lib.hid hd; clear hd
  have HC := Lib.hid hc; clear hc
  have HW := Lib.hid hw; clear hw
  have HSZ := Lib.hid hsz; clear hsz
  go_enter Tryz.func59, Tryz.ntmps59
  go_wp2
  go_loop [6, 7, 36] (fun p n i => ∃ (k : Nat) (v : Int), p = .bool false ∧ n = .int .i64 v ∧ i = .int .i64 k ∧ AtRel u k v) (fun _ _ i => 17 - (intOf i).toNat)
  case atStart => exact ⟨0, 0, rfl, rfl, rfl, rfl, Nat.zero_le _⟩
  case round =>
    obtain ⟨k, v, rfl, rfl, rfl, hv, hk⟩ := hrel
    have hd := HD.out
    have hez := HZ.out
    have hszr := HSZ.out
    have hv1 : v < 10000000000000000 := by have := Pl.val_take_small u hu k; omega
    have hv0 : 0 ≤ v := by omega
    have hk16 : k ≤ 16 := by omega
    by_cases hlt : k < (Lib.decDigits u).length
    · have hlt' : k < s.size := by omega
      have hm := Pl.dec_mem u _ (List.getElem_mem hlt)
      have hvs := Pl.val_take_succ (Lib.decDigits u) k hlt
      have hc := HC.out k hlt'
      rw [byte_is HS.out k hlt' hlt] at hc
      obtain ⟨x, hx⟩ : ∃ x : Int, x = ((Lib.decDigits u)[k].toNat : Nat) := ⟨_, rfl⟩
      rw [← hx] at hc
      have hx0 : 48 ≤ x := by omega
      have hx1 : x ≤ 57 := by omega
      have HV : Hid (AtRel u (k + 1) (v * 10 + (x - 48))) := ⟨by omega, hlt⟩
      have t4 : (x == 46) = false := by rw [beq_eq_false_iff_ne]; omega
      have hki : (k : Int) < (s.size : Int) := by omega
      clear hv hvs hm hx hd hez hk hlt hlt' hszr
      go_wp2
      exact ⟨⟨k + 1, _, rfl, rfl, by go_num, HV.out⟩, by simp [intOf]; omega⟩
    · obtain rfl : k = (Lib.decDigits u).length := by omega
      rw [List.take_length, Pl.val_dec] at hv
      subst hv
      obtain ⟨k, hkk⟩ : ∃ k, k = (Lib.decDigits u).length := ⟨_, rfl⟩
      rw [← hkk] at hez hszr ⊢
      have hki : ¬ (k : Int) < (s.size : Int) := by omega
      have hu0 : (0 : Int) ≤ u := by omega
      clear hez hszr hd hk hlt hkk hv0 hv1 hk16
      go_wp2
      go_ret2
      exact ⟨rfl, HW.out⟩

set_option maxHeartbeats 1000000 in
set_option maxRecDepth 100000 in
theorem atoi_neg (s : ByteArray) (u : Nat) (w : World) (hu : u < 9007199254740992) (hs : s.data.toList = 45 :: Lib.decDigits u) :
    Calls Tryz.prog 59 #[.string s] w (AtoiPost (-(u : Int)) w) := by
  have hd := Pl.dec_len u hu
  have hsz : s.size = (45 :: Lib.decDigits u).length := size_is hs
  rw [List.length_cons] at hsz
  have hz0 : 2 ≤ s.size := by omega
  have hz1 : s.size ≤ 17 := by omega
  have h00 : 0 < s.size := by omega
  have hb0 := byte_is hs 0 h00 (by simp)
  have hb0' : ((s[0].toNat : Nat) : Int) = 45 := by rw [hb0]; rfl
  have t3 : (((s.size : Int) - 1) == 0) = false := by rw [beq_eq_false_iff_ne]; omega
  have he : (s.extract 1 s.size).data.toList = Lib.decDigits u := by
    have h := Lib.extract_data s 1 s.size
    rw [hs] at h
    rw [h, size_is hs]; simp
  have hez : (s.extract 1 s.size).size = (Lib.decDigits u).length := size_is he
  obtain ⟨cap, W, hq, hc, hw⟩ := bytes_laid (s.extract 1 s.size) w
  clear hb0
  have HS := Lib.hid he; clear he hs
  have HZ := Lib.hid hez; clear hez
  have HD := Lib.hid hd; clear hd
  have HC := Lib.hid hc; clear hc
  have HW := Lib.hid hw; clear hw
  have HSZ := Lib.hid hsz; clear hsz
  go_enter Tryz.func59, Tryz.ntmps59
  go_wp2
  go_loop [6, 7, 36] (fun p n i => ∃ (k : Nat) (v : Int), p = .bool false ∧ n = .int .i64 v ∧ i = .int .i64 k ∧ AtRel u k v) (fun _ _ i => 17 - (intOf i).toNat)
  case atStart => exact ⟨0, 0, rfl, rfl, rfl, rfl, Nat.zero_le _⟩
  case round =>
    obtain ⟨k, v, rfl, rfl, rfl, hv, hk⟩ := hrel
    have hd := HD.out
    have hez := HZ.out
    have hszr := HSZ.out
    have hv1 : v < 10000000000000000 := by have := Pl.val_take_small u hu k; omega
    have hv0 : 0 ≤ v := by omega
    have hk16 : k ≤ 16 := by omega
    by_cases hlt : k < (Lib.decDigits u).length
    · have hlt' : k < (s.extract 1 s.size).size := by omega
      have hm := Pl.dec_mem u _ (List.getElem_mem hlt)
      have hvs := Pl.val_take_succ (Lib.decDigits u) k hlt
      have hc := HC.out k hlt'
      rw [byte_is HS.out k hlt' hlt] at hc
      obtain ⟨x, hx⟩ : ∃ x : Int, x = ((Lib.decDigits u)[k].toNat : Nat) := ⟨_, rfl⟩
      rw [← hx] at hc
      have hx0 : 48 ≤ x := by omega
      have hx1 : x ≤ 57 := by omega
      have HV : Hid (AtRel u (k + 1) (v * 10 + (x - 48))) := ⟨by omega, hlt⟩
      have t4 : (x == 46) = false := by rw [beq_eq_false_iff_ne]; omega
      have hki : (k : Int) < (s.size : Int) - 1 := by omega
      clear hv hvs hm hx hd hez hk hlt hlt' hszr
      go_wp2
      exact ⟨⟨k + 1, _, rfl, rfl, by go_num, HV.out⟩, by simp [intOf]; omega⟩
    · obtain rfl : k = (Lib.decDigits u).length := by omega
      rw [List.take_length, Pl.val_dec] at hv
      subst hv
      obtain ⟨k, hkk⟩ : ∃ k, k = (Lib.decDigits u).length := ⟨_, rfl⟩
      rw [← hkk] at hez hszr ⊢
      have hki : ¬ (k : Int) < (s.size : Int) - 1 := by omega
      have hu0 : (0 : Int) ≤ u := by omega
      clear hez hszr hd hk hlt hkk hv0 hv1 hk16
      go_wp2
      go_ret2
      exact ⟨rfl, HW.out⟩
end Go.Proofs.YtpoepgnapneeaaaGreatDoor
