/-
  nat.scan in base 10 over a strings.Reader that stands before a decimal numeral.
-/
import Derived.Test.YtpoepgnapneeaaaGreatDoorT4
import Derived.Test.YtpoepgnapneeaaaGreatDoorPlain
import Derived.LaidEql
namespace Go.Proofs.YtpoepgnapneeaaaGreatDoor
open Go.RowKit

theorem comp261 : (Tryz.prog.info? 261).map (·.comparable) = some true := by kernel_rfl
theorem size263 : (Tryz.prog.info? 263).map (·.size) = some 1 := by kernel_rfl

theorem eof_eql (a : Addr) (w : World) : (binOp .eql 32 (.iface 261 (.pointer (some a))) (.iface 261 (.pointer (some a)))).run Tryz.prog w = .ok (.bool true) w := by
  obtain ⟨i, hi, hcmp⟩ := Option.map_eq_some_iff.1 comp261
  obtain ⟨j, hj, _⟩ := Option.map_eq_some_iff.1 size263
  exact run_eql_iface_ptr_same w a Tryz.underlying32 Tryz.underlying261 hi hcmp hj

/-- What nat.scan leaves. -/
def ScanPost (b : Nat) (s : ByteArray) (Z : World → Value) (N : World → World) (L : Nat) (w : World) (e : Ending) (w' : World) : Prop :=
  ∃ w1, e = .returned (.tuple #[Z w1, .int .i64 10, .int .i64 L, .nilIface]) ∧ Rd b s s.size w1 ∧ Only b w w1 ∧ N w1 = w'

/-- What a ReadByte at place p + k has given: the k-th byte of l, or io.EOF behind the last. -/
def Tail (b : Nat) (s : ByteArray) (p : Nat) (l : List UInt8) (ev : Value) (k : Nat) (ch err : Value) (wr : World) : Prop :=
  (∃ h : k < l.length, ch = .int .u8 (l[k].toNat : Nat) ∧ err = .nilIface ∧ Rd b s (p + k + 1) wr) ∨ (k = l.length ∧ ch = .int .u8 0 ∧ err = ev ∧ Rd b s s.size wr)

def TailPost (b : Nat) (s : ByteArray) (p : Nat) (l : List UInt8) (ev : Value) (k : Nat) (w : World) (e : Ending) (w' : World) : Prop :=
  ∃ ch err, e = .returned (.tuple #[ch, err]) ∧ Tail b s p l ev k ch err w' ∧ Only b w w'

theorem size_of_drop {s : ByteArray} {p : Nat} {l : List UInt8} (hl : s.data.toList.drop p = l) (h1 : 1 ≤ l.length) : s.size = p + l.length := by
  have h : (s.data.toList.drop p).length = l.length := by rw [hl]
  rw [List.length_drop] at h
  have e : s.data.toList.length = s.size := by simp
  omega

theorem read_tail (b : Nat) (s : ByteArray) (p : Nat) (l : List UInt8) (ev : Value) (k : Nat) (w : World) (hl : s.data.toList.drop p = l) (h1 : 1 ≤ l.length) (hk : k ≤ l.length) (hs : s.size ≤ 1000)
    (hr : Rd b s (p + k) w) (hE : w.cell? ⟨0, 0, none⟩ = some ev) :
    Calls Tryz.prog 133 #[.pointer (some ⟨b, 0, none⟩)] w (TailPost b s p l ev k w) := by
  have hsz := size_of_drop hl h1
  by_cases hlt : k < l.length
  · refine (readByte_next b s (p + k) w (by omega) hs hr).mono ?_
    rintro e w' ⟨rfl, hr', ho⟩
    refine ⟨_, _, rfl, Or.inl ⟨hlt, ?_, rfl, hr'⟩, ho⟩
    have : s[p + k] = l[k] := by subst hl; rw [List.getElem_drop]; rfl
    rw [this]
  · have e : k = l.length := by omega
    rw [show p + k = s.size by omega] at hr
    refine (readByte_end b s ev w hr hE).mono ?_
    rintro e' w' ⟨rfl, hr', ho⟩
    exact ⟨_, _, rfl, Or.inr ⟨e, rfl, rfl, hr'⟩, ho⟩

/-- The loop's relation, beside the slots. -/
def ScanRel (b : Nat) (s : ByteArray) (p : Nat) (l : List UInt8) (ev : Value) (w : World) (k : Nat) (v : Int) (ch err : Value) (wr : World) : Prop :=
  Only b w wr ∧ v = (Pl.val (l.take k) : Nat) ∧ k ≤ l.length ∧ Tail b s p l ev k ch err wr

set_option maxHeartbeats 400000 in
set_option maxRecDepth 100000 in
theorem scan_dec (b : Nat) (s : ByteArray) (p u : Nat) (a : Addr) (Z : World → Value) (N : World → World) (w : World) (hu : u < 9007199254740992)
    (hl : s.data.toList.drop p = Lib.decDigits u) (hs : s.size ≤ 1000) (hr : Rd b s p w)
    (hE : w.cell? ⟨0, 0, none⟩ = some (.iface 261 (.pointer (some a)))) (hb : 0 < b)
    (hM : ∀ (y : Int) (w : World), Calls Tryz.prog 116 #[.slice none 0 0, .slice none 0 0, .int .u64 y, .int .u64 u] w fun e w' => e = .returned (Z w) ∧ N w = w') :
    Calls Tryz.prog 90 #[.slice none 0 0, .iface 84 (.pointer (some ⟨b, 0, none⟩)), .int .i64 10, .bool false] w (ScanPost b s Z N (Lib.decDigits u).length w) := by
  have hd := Pl.dec_len u hu
  have c0 := read_tail b s p _ _ 0 w hl hd.1 (Nat.zero_le _) hs hr hE
  have C0 := Lib.hid c0; clear c0
  have HM := Lib.hid hM; clear hM
  have HL := Lib.hid hl; clear hl
  have HE := Lib.hid hE; clear hE
  have HD := Lib.hid hd; clear hd
  go_enter Tryz.func90, Tryz.ntmps90
  go_wp2_with (first | (go_at_call 133; refine C0.out.mono ?_; rintro e w1 ⟨ch, err, rfl, ht, ho⟩) | (go_at_call 67; refine (maxPow_ten _).mono ?_; rintro e w2 ⟨rfl, rfl⟩))
  go_loopw [0, 3, 10, 11, 13, 14, 15, 20, 21, 22] (fun z fr cn er pv iv ch di i dp wr => ∃ (k : Nat) (q v : Int), z = .slice none 0 0 ∧ fr = .bool false ∧ cn = .int .i64 k ∧ pv = .int .i32 q ∧ iv = .bool false ∧ di = .int .u64 v ∧ i = .int .i64 k ∧ dp = .int .i64 (-1) ∧ (q == 95) = false ∧ ScanRel b s p (Lib.decDigits u) (.iface 261 (.pointer (some a))) w k v ch er wr) (fun _ _ _ _ _ _ _ _ i _ _ => 17 - (intOf i).toNat)
  case atStart => exact ⟨0, 46, 0, rfl, rfl, rfl, rfl, rfl, rfl, rfl, rfl, by decide, ho, rfl, Nat.zero_le _, ht⟩
  case round =>
    obtain ⟨k, q, v, rfl, rfl, rfl, rfl, rfl, rfl, rfl, rfl, hq, ho, hv, hk, ht⟩ := hrel
    have hd := HD.out
    have hv1 : v < 10000000000000000 := by have := Pl.val_take_small u hu k; omega
    have hv0 : 0 ≤ v := by omega
    have hk16 : k ≤ 16 := by omega
    rcases ht with ⟨hlt, rfl, rfl, hr'⟩ | ⟨rfl, rfl, rfl, hr'⟩
    · have hm := Pl.dec_mem u _ (List.getElem_mem hlt)
      have hvs := Pl.val_take_succ (Lib.decDigits u) k hlt
      have c1 := read_tail b s p _ (.iface 261 (.pointer (some a))) (k + 1) wr HL.out hd.1 (by omega) hs hr' (by rw [← HE.out]; exact ho.cell (by simp; omega))
      obtain ⟨x, hx⟩ : ∃ x : Int, x = ((Lib.decDigits u)[k].toNat : Nat) := ⟨_, rfl⟩
      rw [← hx]
      have hx0 : 48 ≤ x := by omega
      have hx1 : x ≤ 57 := by omega
      have HV : Hid (x * 1 = x ∧ v * 10 + (x - 48) = (Pl.val ((Lib.decDigits u).take (k + 1)) : Nat)) := ⟨by omega, by omega⟩
      have t1 : (x == 46) = false := by rw [beq_eq_false_iff_ne]; omega
      have t2 : (x == 95) = false := by rw [beq_eq_false_iff_ne]; omega
      have C1 := Lib.hid c1
      clear c1 hv hvs hm hx hd
      go_wp2_with (go_at_call 133; refine C1.out.mono ?_; rintro e w1 ⟨ch, err, rfl, ht, ho1⟩)
      exact ⟨⟨k + 1, 48, _, rfl, rfl, by go_num, rfl, rfl, rfl, by go_num, rfl, by decide, ho.trans ho1, HV.out.2, hlt, ht⟩, by simp [intOf]; omega⟩
    · have hE1 : wr.cell? ⟨0, 0, none⟩ = some (.iface 261 (.pointer (some a))) := by rw [← HE.out]; exact ho.cell (by simp; omega)
      rw [List.take_length, Pl.val_dec] at hv
      subst hv
      have hq1 := eof_eql a
      obtain ⟨L, hL⟩ : ∃ L, L = (Lib.decDigits u).length := ⟨_, rfl⟩
      rw [← hL] at hd ⊢
      have hL1 := hd.1
      have hL2 := hd.2
      have hLb : ((L : Int) == 0) = false := by rw [beq_eq_false_iff_ne]; omega
      have HN := Lib.hid hL
      clear hd hk hL hv0 hv1 C0 HL HE HD
      go_wp2_with (first | (go_at_call 117; refine (pow_any _ L _ (by omega)).mono ?_; rintro e w1 ⟨⟨y, rfl⟩, rfl⟩) | (go_at_call 116; refine (HM.out _ _).mono ?_; rintro e w1 ⟨rfl, hN⟩))
      exact bodyPost_ret (v := .tuple #[Z wr, .int .i64 10, .int .i64 L, .nilIface]) (by simp [results, Tryz.results90, go_sem]) rfl ⟨wr, by rw [HN.out], hr', ho, hN⟩
end Go.Proofs.YtpoepgnapneeaaaGreatDoor
