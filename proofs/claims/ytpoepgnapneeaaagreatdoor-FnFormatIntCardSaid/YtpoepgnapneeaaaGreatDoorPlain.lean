/-
  The plain law behind FnFormatInt: digits in a base, the decimal numeral read back, the width that itoa lays. Condition: none beyond each lemma's own.
-/
import Derived.Lib.ItoaMem
namespace Go.Proofs.YtpoepgnapneeaaaGreatDoor
namespace Pl
open Go.Lib

/-- The sign of a digit below 16. -/
def sg (d : Nat) : UInt8 := if d < 10 then UInt8.ofNat (48 + d) else UInt8.ofNat (87 + d)

/-- The digits of u in base b + 2, the first ahead. -/
def digs (b : Nat) (u : Nat) : List UInt8 :=
  if _h : u < b + 2 then [sg u] else digs b (u / (b + 2)) ++ [sg (u % (b + 2))]
  termination_by u
  decreasing_by exact Nat.div_lt_self (by omega) (by omega)

theorem digs_small {b u : Nat} (h : u < b + 2) : digs b u = [sg u] := by rw [digs, dif_pos h]
theorem digs_big {b u : Nat} (h : ¬ u < b + 2) : digs b u = digs b (u / (b + 2)) ++ [sg (u % (b + 2))] := by rw [digs, dif_neg h]

theorem sg_ten {d : Nat} (h : d < 10) : sg d = UInt8.ofNat (48 + d) := by unfold sg; rw [if_pos h]

theorem digs_ten (u : Nat) : digs 8 u = decDigits u := by
  induction u using Nat.strongRecOn with
  | _ u ih =>
    by_cases h : u < 10
    · rw [digs_small (by omega), decDigits, dif_pos h, sg_ten h]
    · rw [digs_big (by omega), decDigits, dif_neg h, show 8 + 2 = 10 from rfl, ih (u / 10) (by omega), sg_ten (by omega)]

/-- A whole number in base b + 2. -/
def sdigs (b : Nat) (n : Int) : List UInt8 := if n < 0 then 45 :: digs b n.natAbs else digs b n.toNat

theorem sdigs_ten (n : Int) : sdigs 8 n = itoa n := by
  unfold sdigs itoa; rw [digs_ten, digs_ten]

theorem sdigs_neg (b u : Nat) (h : 1 ≤ u) : sdigs b (-(u : Int)) = 45 :: digs b u := by
  unfold sdigs; rw [if_pos (by omega)]; simp
theorem sdigs_nonneg (b u : Nat) : sdigs b (u : Int) = digs b u := by
  unfold sdigs; rw [if_neg (by omega)]; simp

/-! ### what is still to be laid -/

/-- The digits of u, none for 0. -/
def lp (b u : Nat) : List UInt8 := if u = 0 then [] else digs b u

theorem lp_zero (b : Nat) : lp b 0 = [] := by unfold lp; rw [if_pos rfl]
theorem lp_pos {b u : Nat} (h : u ≠ 0) : lp b u = digs b u := by unfold lp; rw [if_neg h]
theorem lp_step {b u : Nat} (h : u ≠ 0) : lp b u = lp b (u / (b + 2)) ++ [sg (u % (b + 2))] := by
  rw [lp_pos h]
  by_cases hs : u < b + 2
  · rw [digs_small hs, Nat.div_eq_of_lt hs, lp_zero, Nat.mod_eq_of_lt hs]; rfl
  · rw [digs_big hs, lp_pos]
    have : 1 ≤ u / (b + 2) := (Nat.le_div_iff_mul_le (by omega)).2 (by omega)
    omega

/-- One sign laid: what is left, and what lies. -/
theorem lp_lay {b u : Nat} {suf all : List UInt8} (h : u ≠ 0) (e : lp b u ++ suf = all) : lp b (u / (b + 2)) ++ (sg (u % (b + 2)) :: suf) = all := by
  rw [lp_step h, List.append_assoc] at e; exact e

theorem lt_pow_step {b u k : Nat} (h : u < (b + 2) ^ (k + 1)) : u / (b + 2) < (b + 2) ^ k := by
  rw [Nat.pow_succ] at h
  exact Nat.div_lt_of_lt_mul (by rw [Nat.mul_comm]; exact h)
theorem pow_room {b u k : Nat} (h : u < (b + 2) ^ k) (h0 : u ≠ 0) : 1 ≤ k := by
  rcases k with _ | k
  · simp at h; omega
  · omega

theorem digs_len (b k : Nat) : ∀ u, u < (b + 2) ^ (k + 1) → (digs b u).length ≤ k + 1 := by
  induction k with
  | zero => intro u h; rw [digs_small (by simpa using h)]; simp
  | succ k ih =>
    intro u h
    by_cases hs : u < b + 2
    · rw [digs_small hs]; simp
    · rw [digs_big hs, List.length_append]
      have := ih (u / (b + 2)) (lt_pow_step h)
      simp; omega
theorem digs_len53 (b u : Nat) (h : u < 9007199254740992) : (digs b u).length ≤ 53 :=
  digs_len b 52 u (Nat.lt_of_lt_of_le (show u < 2 ^ 53 by simpa using h) (Nat.pow_le_pow_left (by omega) 53))

/-! ### the row that is laid from its end -/

theorem drop_set {α : Type} (l : List α) (j : Nat) (v : α) (h : j < l.length) : (l.set j v).drop j = v :: l.drop (j + 1) := by
  rw [List.drop_eq_getElem_cons (by simpa using h), List.getElem_set_self, List.drop_set_of_lt (by omega)]

/-! ### reading the numeral back -/

def val (l : List UInt8) : Nat := l.foldl (fun a c => a * 10 + (c.toNat - 48)) 0
theorem val_snoc (l : List UInt8) (c : UInt8) : val (l ++ [c]) = val l * 10 + (c.toNat - 48) := by
  unfold val; rw [List.foldl_append]; rfl
theorem val_nil : val [] = 0 := rfl

theorem ofNat48 {d : Nat} (h : d < 10) : (UInt8.ofNat (48 + d)).toNat = 48 + d := by
  rw [UInt8.toNat_ofNat']; omega

theorem val_dec (u : Nat) : val (decDigits u) = u := by
  induction u using Nat.strongRecOn with
  | _ u ih =>
    by_cases h : u < 10
    · rw [decDigits, dif_pos h, show [UInt8.ofNat (48 + u)] = [] ++ [UInt8.ofNat (48 + u)] from rfl, val_snoc, val_nil, ofNat48 h]; omega
    · rw [decDigits, dif_neg h, val_snoc, ih (u / 10) (by omega), ofNat48 (by omega)]; omega

theorem dec_mem (u : Nat) : ∀ c ∈ decDigits u, 48 ≤ c.toNat ∧ c.toNat ≤ 57 := by
  induction u using Nat.strongRecOn with
  | _ u ih =>
    intro c hc
    by_cases h : u < 10
    · rw [decDigits, dif_pos h, List.mem_singleton] at hc
      rw [hc, ofNat48 h]; omega
    · rw [decDigits, dif_neg h, List.mem_append, List.mem_singleton] at hc
      rcases hc with hc | hc
      · exact ih (u / 10) (by omega) c hc
      · rw [hc, ofNat48 (by omega)]; omega

theorem nDigits_le (k u : Nat) (h : u < 10 ^ (k + 1)) : nDigits u ≤ k + 1 := by
  induction k generalizing u with
  | zero => rw [nDigits_small (by simpa using h)]; omega
  | succ k ih =>
    by_cases hs : u < 10
    · rw [nDigits_small hs]; omega
    · rw [nDigits_big hs]
      rw [Nat.pow_succ] at h
      have := ih (u / 10) (Nat.div_lt_of_lt_mul (by rw [Nat.mul_comm]; exact h))
      omega

theorem dec_len (u : Nat) (h : u < 9007199254740992) : 1 ≤ (decDigits u).length ∧ (decDigits u).length ≤ 16 := by
  rw [decDigits_length]
  exact ⟨nDigits_pos u, nDigits_le 15 u (Nat.lt_of_lt_of_le h (by decide))⟩

/-- A prefix's value has no more digits than the prefix. -/
theorem val_take_lt (l : List UInt8) (hl : ∀ c ∈ l, 48 ≤ c.toNat ∧ c.toNat ≤ 57) (k : Nat) : val (l.take k) < 10 ^ k := by
  induction k with
  | zero => simp [val_nil]
  | succ k ih =>
    by_cases hk : k < l.length
    · rw [List.take_succ_eq_append_getElem hk, val_snoc, Nat.pow_succ]
      have := hl l[k] (List.getElem_mem hk)
      omega
    · rw [List.take_of_length_le (by omega)]
      rw [List.take_of_length_le (by omega)] at ih
      rw [Nat.pow_succ]; omega

theorem val_take_small (u : Nat) (h : u < 9007199254740992) (k : Nat) : val ((decDigits u).take k) < 10000000000000000 := by
  have hl := (dec_len u h).2
  by_cases hk : k ≤ 16
  · exact Nat.lt_of_lt_of_le (val_take_lt _ (dec_mem u) k) (Nat.le_trans (Nat.pow_le_pow_right (by decide) hk) (by decide))
  · rw [List.take_of_length_le (by omega), val_dec]; omega

theorem val_take_succ (l : List UInt8) (k : Nat) (hk : k < l.length) : val (l.take (k + 1)) = val (l.take k) * 10 + (l[k].toNat - 48) := by
  rw [List.take_succ_eq_append_getElem hk, val_snoc]

/-! ### how many bits: the smeared number is as long -/

theorem bl_lt (x : Nat) (h : x < 18446744073709551616) (h0 : x ≠ 0) : 1 ≤ bitLen x ∧ 2 ^ (bitLen x - 1) ≤ x ∧ x < 2 ^ bitLen x := bitLenAux_bounds 64 x h h0

theorem bl_unique {x k : Nat} (h : x < 18446744073709551616) (h0 : x ≠ 0) (h1 : 2 ^ k ≤ x) (h2 : x < 2 ^ (k + 1)) : bitLen x = k + 1 := by
  obtain ⟨a, b, c⟩ := bl_lt x h h0
  have h3 : bitLen x - 1 < k + 1 := (Nat.pow_lt_pow_iff_right (by decide : 1 < 2)).1 (Nat.lt_of_le_of_lt b h2)
  have h4 : k < bitLen x := (Nat.pow_lt_pow_iff_right (by decide : 1 < 2)).1 (Nat.lt_of_le_of_lt h1 c)
  omega

/-- 'x | y', y no greater than x: as long as x. -/
theorem or_long {x y k : Nat} (h1 : 2 ^ k ≤ x) (h2 : x < 2 ^ (k + 1)) (h3 : y ≤ x) : 2 ^ k ≤ x ||| y ∧ x ||| y < 2 ^ (k + 1) :=
  ⟨Nat.le_trans h1 Nat.left_le_or, Nat.or_lt_two_pow h2 (Nat.lt_of_le_of_lt h3 h2)⟩

/-- nat.bitLen's smearing. -/
def smear (x : Nat) : Nat :=
  let a := x ||| x / 2
  let b := a ||| a / 4
  let c := b ||| b / 16
  let d := c ||| c / 256
  let e := d ||| d / 65536
  e ||| e / 65536 / 65536

theorem smear_long (x : Nat) (h : x < 18446744073709551616) (h0 : x ≠ 0) : bitLen (smear x) = bitLen x ∧ smear x < 18446744073709551616 ∧ smear x ≠ 0 := by
  obtain ⟨p, q, r⟩ := bl_lt x h h0
  obtain ⟨k, hk⟩ : ∃ k, bitLen x = k + 1 := ⟨bitLen x - 1, by omega⟩
  rw [hk] at q r
  simp only [Nat.add_sub_cancel] at q
  have hk63 : k + 1 ≤ 64 := by
    have := bitLen_le x 64 (Nat.le_refl _) h; omega
  have s1 := or_long q r (Nat.div_le_self x 2)
  have s2 := or_long s1.1 s1.2 (Nat.div_le_self _ 4)
  have s3 := or_long s2.1 s2.2 (Nat.div_le_self _ 16)
  have s4 := or_long s3.1 s3.2 (Nat.div_le_self _ 256)
  have s5 := or_long s4.1 s4.2 (Nat.div_le_self _ 65536)
  have s6 := or_long s5.1 s5.2 (Nat.le_trans (Nat.div_le_self _ 65536) (Nat.div_le_self _ 65536))
  have e : smear x = (((((x ||| x / 2) ||| (x ||| x / 2) / 4) ||| ((x ||| x / 2) ||| (x ||| x / 2) / 4) / 16) ||| (((x ||| x / 2) ||| (x ||| x / 2) / 4) ||| ((x ||| x / 2) ||| (x ||| x / 2) / 4) / 16) / 256) ||| ((((x ||| x / 2) ||| (x ||| x / 2) / 4) ||| ((x ||| x / 2) ||| (x ||| x / 2) / 4) / 16) ||| (((x ||| x / 2) ||| (x ||| x / 2) / 4) ||| ((x ||| x / 2) ||| (x ||| x / 2) / 4) / 16) / 256) / 65536) ||| (((((x ||| x / 2) ||| (x ||| x / 2) / 4) ||| ((x ||| x / 2) ||| (x ||| x / 2) / 4) / 16) ||| (((x ||| x / 2) ||| (x ||| x / 2) / 4) ||| ((x ||| x / 2) ||| (x ||| x / 2) / 4) / 16) / 256) ||| ((((x ||| x / 2) ||| (x ||| x / 2) / 4) ||| ((x ||| x / 2) ||| (x ||| x / 2) / 4) / 16) ||| (((x ||| x / 2) ||| (x ||| x / 2) / 4) ||| ((x ||| x / 2) ||| (x ||| x / 2) / 4) / 16) / 256) / 65536) / 65536 / 65536 := rfl
  rw [← e] at s6
  have hlt : smear x < 18446744073709551616 := Nat.lt_of_lt_of_le s6.2 (Nat.pow_le_pow_right (by decide) hk63)
  have hp : 1 ≤ 2 ^ k := Nat.one_le_two_pow
  refine ⟨by rw [hk]; exact bl_unique hlt (by omega) s6.1 s6.2, hlt, by omega⟩

/-- The width that itoa lays is enough. -/
theorem width (u s : Nat) (hs : 1 ≤ s) (h : u < 18446744073709551616) : u < (2 ^ s) ^ (bitLen u / s + 1) := by
  by_cases h0 : u = 0
  · subst h0; exact Nat.pow_pos (Nat.pow_pos (by decide))
  · obtain ⟨_, _, r⟩ := bl_lt u h h0
    rw [← Nat.pow_mul]
    refine Nat.lt_of_lt_of_le r (Nat.pow_le_pow_right (by decide) ?_)
    rw [Nat.mul_add, Nat.mul_one]
    have := Nat.div_add_mod (bitLen u) s
    have := Nat.mod_lt (bitLen u) (show s > 0 by omega)
    omega

end Pl
end Go.Proofs.YtpoepgnapneeaaaGreatDoor
