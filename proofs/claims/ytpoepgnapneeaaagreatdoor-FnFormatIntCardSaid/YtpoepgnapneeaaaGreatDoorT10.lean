/-
  nat.itoa at one word below 2^53, bases 2, 8 and 16, with and without a minus: the digits lie in a new row.
-/
import Derived.Test.YtpoepgnapneeaaaGreatDoorT8
import Derived.Test.YtpoepgnapneeaaaGreatDoorT9
import Derived.Test.YtpoepgnapneeaaaGreatDoorT11
import Derived.Test.YtpoepgnapneeaaaGreatDoorT12
namespace Go.Proofs.YtpoepgnapneeaaaGreatDoor
open Go.RowKit

theorem info5 : (Tryz.prog.info? 5).map (fun i => (i.zero, i.size, i.bytes)) = some (some (.int .u8 0), 1, 1) := by kernel_rfl

/-- What itoa leaves: a slice whose cells are the bytes l. -/
def ItoaPost (l : List UInt8) (w : World) (e : Ending) (w' : World) : Prop :=
  ∃ j, e = .returned (.slice (some ⟨w.heap.size, j, none⟩) l.length l.length) ∧ (∀ k (hk : k < l.length), w'.cell? ⟨w.heap.size, j + k, none⟩ = some (.int .u8 (l[k].toNat : Nat))) ∧ Below w.heap.size w w'

theorem lay_start (w : World) (b N n0 u : Nat) (hu : u ≠ 0) (h : u < (b + 2) ^ (N - n0)) (hn : n0 ≤ N) :
    LayRel w.heap.size b N n0 (Pl.digs b u) w N u (w.alloc (.cells (madeCells #[.int .u8 0] N) 5)) := by
  refine ⟨(madeCells #[.int .u8 0] N).toList, [], ?_, by simp [size_madeCells], ?_, by rw [Pl.lp_pos hu, List.append_nil], h, hn, Nat.le_refl _, (Below.refl _ _).alloc (Nat.le_refl _) _⟩
  · have := heap_new w (.cells (madeCells #[.int .u8 0] N) 5)
    simpa using this
  · rw [List.drop_of_length_le (by simp [size_madeCells])]; rfl

theorem signs_all : ∀ d : Fin 16, Pl.sg d.val = signs62[d.val]'(Nat.lt_of_lt_of_le d.isLt (by decide)) := by decide +kernel
theorem sign_at (d : Nat) (h : d < 16) : byteCell (Pl.sg d) = .int .u8 ((signs62[d]'(Nat.lt_of_lt_of_le h (by decide))).toNat : Nat) := by
  unfold byteCell
  rw [signs_all ⟨d, h⟩]

theorem itoa_end_neg {w wr : World} {j N : Nat} {bs : List Value} {l : List UInt8} (hb : wr.heap[w.heap.size]? = some (.cells bs.toArray 5 (0, 0))) (hd : bs.drop (j + 1) = l.map byteCell) (hn : N - (j + 1) = l.length) (hl : bs.length = N) (hj : j + 1 ≤ N) (hw : Below w.heap.size w wr) :
    ItoaPost (45 :: l) w (.returned (.slice (some ⟨w.heap.size, j, none⟩) (N - j) (N - j))) (wr.setCell ⟨w.heap.size, j, none⟩ (.int .u8 45)) := by
  have h1 := heap_set hb j (.int .u8 45)
  have h2 : (wr.setCell ⟨w.heap.size, j, none⟩ (.int .u8 45)).heap[w.heap.size]? = some (.cells (bs.set j (.int .u8 45)).toArray 5 (0, 0)) := by simpa using h1
  refine ⟨j, ?_, fun i hi => row_cells h2 ?_ i hi, hw.setCell (Nat.le_refl _) _⟩
  · rw [show N - j = (45 :: l).length by simp; omega]
  · rw [Pl.drop_set _ _ _ (by omega), hd]; rfl

theorem digs_pos (b u : Nat) : 1 ≤ (Pl.digs b u).length := by
  by_cases h : u < b + 2
  · rw [Pl.digs_small h]; simp
  · rw [Pl.digs_big h]; simp

set_option maxHeartbeats 1000000 in
set_option maxRecDepth 100000 in
theorem itoa_two_pos (d u : Nat) (w : World) (hu : u < 9007199254740992) (h0 : u ≠ 0) (hd : w.cell? ⟨d, 0, none⟩ = some (.int .u64 u)) (hdl : d < w.heap.size)
    (ht : w.cell? ⟨7, 1, none⟩ = some (.int .u8 1)) (h7 : 7 < w.heap.size) :
    Calls Tryz.prog 43 #[.slice (some ⟨d, 0, none⟩) 1 1, .bool false, .int .i64 2] w (ItoaPost (Pl.digs 0 u) w) := by
  have hwid := Pl.width u 1 (by decide) (by omega)
  obtain ⟨B, hB⟩ : ∃ B, B = Lib.bitLen u := ⟨_, rfl⟩
  have hB53 := Lib.bitLen_le u 53 (by omega) (by omega)
  have cB := bitLen_word d u w hu h0 hd
  rw [← hB] at hB53 cB hwid
  obtain ⟨r, hr1, hr2⟩ := width_two B hB53
  obtain ⟨M, hM⟩ : ∃ M, M = B / 1 := ⟨_, rfl⟩
  rw [← hM] at hr2 hwid
  have hM53 : M ≤ 53 := by rw [hM]; exact Nat.le_trans (Nat.div_le_self _ _) hB53
  have q1 := fun w => run_float_arith (P := Tryz.prog) w .quo 128 .f64 _ _ _ hr1
  have q2 := fun w => run_convert_float_int (P := Tryz.prog) w 128 3 .f64 .i64 r M (by kernel_rfl) Tryz.underlying3 hr2
  have CB := Lib.hid cB; clear cB
  clear hr1 hr2 hM hB
  have f2 : floatOfInt FloatKind.f64 2 = 4611686018427387904 := by decide +kernel
  have a1 : bits BinOp.and IntKind.u64 2 (IntKind.u64.wrap (-2)) = 2 := by decide +kernel
  have hmk0 := run_make_row' (P := Tryz.prog) 88 5 (.int .u8 0) 1 Tryz.underlying88 info5 rfl .i64 .i64 (M + 1) (by omega) (by omega)
  have hmk : ∀ w, (Instr.makeSlice 88 (.int .i64 ((M : Int) + 1)) (.int .i64 ((M : Int) + 1))).run Tryz.prog w = .ok (.slice (some ⟨w.heap.size, 0, none⟩) (M + 1) (M + 1)) (w.alloc (.cells (madeCells #[.int .u8 0] (M + 1)) 5)) := fun w => by
    have h := hmk0 w
    rw [show ((M + 1 : Nat) : Int) = (M : Int) + 1 by omega] at h
    exact h
  clear hmk0
  have cT := Lib.hid (tz_two (w.alloc (.cells (madeCells #[.int .u8 0] (M + 1)) 5)) (by rw [World.cell?_alloc_past _ _ _ h7]; exact ht))
  go_enter Tryz.func43, Tryz.ntmps43
  go_wp2_with (first | (go_at_call 62; refine CB.out.mono ?_; rintro e w' ⟨rfl, rfl⟩) | (go_at_call 63; refine (log2_two _).mono ?_; rintro e w' ⟨rfl, rfl⟩))
  go_wp2_with (go_at_call 64; refine cT.out.mono ?_; rintro e w' ⟨rfl, rfl⟩)
  go_rounds 1
  go_loopw [7, 12] (fun i v wr => ∃ j x : Nat, i = .int .i64 j ∧ v = .int .u64 x ∧ x < 9007199254740992 ∧ LayRel w.heap.size 0 (M + 1) 0 (Pl.digs 0 u) w j x wr) (fun i _ _ => (intOf i).toNat)
  case atStart => exact ⟨M + 1, u, by go_num, rfl, hu, lay_start w 0 (M + 1) 0 u h0 (by simpa using hwid) (by omega)⟩
  case round =>
    obtain ⟨j, x, rfl, rfl, hx, hL⟩ := hrel
    by_cases hz : x = 0
    · subst hz
      obtain ⟨hlen, hn0, hjN, bs, hb, hbl, hbd⟩ := hL.done
      have hw := hL.below
      have h1 := digs_pos 0 u
      have hjM : j < M + 1 := by omega
      have HN := Lib.hid hlen; clear hlen
      have HB := Lib.hid hb; clear hb
      have HD := Lib.hid hbd; clear hbd
      clear hL h1
      go_wp2_with fail
      go_ret
      exact ⟨j, by rw [HN.out]; rfl, fun i hi => row_cells HB.out HD.out i hi, hw⟩
    · have hroom := hL.room hz
      obtain ⟨j, rfl⟩ : ∃ i, j = i + 1 := ⟨j - 1, by omega⟩
      have hjN : j + 1 ≤ M + 1 := by obtain ⟨_, _, _, _, _, _, _, _, h, _⟩ := hL; exact h
      obtain ⟨⟨y0, hc⟩, hf⟩ := hL.cellOld j (by omega)
      have hne : ((x : Int) != 0) = true := by rw [bne_iff_ne]; omega
      have hst := hL.step hz (by omega) (Nat.le_refl _)
      obtain ⟨dd, hdd⟩ : ∃ dd, dd = x % (0 + 2) := ⟨_, rfl⟩
      rw [← hdd] at hst
      have hdlt : dd < 2 := by omega
      have hand : bits .and .u64 (x : Int) 1 = (dd : Int) := by rw [hdd]; exact and_mod x 1 (by omega) (by decide)
      have HL := Lib.hid hL; clear hL
      have HS := Lib.hid hst; clear hst
      clear hdd
      go_wp2_with fail
      refine ⟨⟨j, x / 2, rfl, by simp, by omega, ?_⟩, by simp [intOf]⟩
      have h := HS.out
      rw [sign_at dd (by omega)] at h
      exact h

set_option maxHeartbeats 1000000 in
set_option maxRecDepth 100000 in
theorem itoa_two_neg (d u : Nat) (w : World) (hu : u < 9007199254740992) (h0 : u ≠ 0) (hd : w.cell? ⟨d, 0, none⟩ = some (.int .u64 u)) (hdl : d < w.heap.size)
    (ht : w.cell? ⟨7, 1, none⟩ = some (.int .u8 1)) (h7 : 7 < w.heap.size) :
    Calls Tryz.prog 43 #[.slice (some ⟨d, 0, none⟩) 1 1, .bool true, .int .i64 2] w (ItoaPost (45 :: Pl.digs 0 u) w) := by
  have hwid := Pl.width u 1 (by decide) (by omega)
  obtain ⟨B, hB⟩ : ∃ B, B = Lib.bitLen u := ⟨_, rfl⟩
  have hB53 := Lib.bitLen_le u 53 (by omega) (by omega)
  have cB := bitLen_word d u w hu h0 hd
  rw [← hB] at hB53 cB hwid
  obtain ⟨r, hr1, hr2⟩ := width_two B hB53
  obtain ⟨M, hM⟩ : ∃ M, M = B / 1 := ⟨_, rfl⟩
  rw [← hM] at hr2 hwid
  have hM53 : M ≤ 53 := by rw [hM]; exact Nat.le_trans (Nat.div_le_self _ _) hB53
  have q1 := fun w => run_float_arith (P := Tryz.prog) w .quo 128 .f64 _ _ _ hr1
  have q2 := fun w => run_convert_float_int (P := Tryz.prog) w 128 3 .f64 .i64 r M (by kernel_rfl) Tryz.underlying3 hr2
  have CB := Lib.hid cB; clear cB
  clear hr1 hr2 hM hB
  have f2 : floatOfInt FloatKind.f64 2 = 4611686018427387904 := by decide +kernel
  have a1 : bits BinOp.and IntKind.u64 2 (IntKind.u64.wrap (-2)) = 2 := by decide +kernel
  have hmk0 := run_make_row' (P := Tryz.prog) 88 5 (.int .u8 0) 1 Tryz.underlying88 info5 rfl .i64 .i64 (M + 2) (by omega) (by omega)
  have hmk : ∀ w, (Instr.makeSlice 88 (.int .i64 ((M : Int) + 1 + 1)) (.int .i64 ((M : Int) + 1 + 1))).run Tryz.prog w = .ok (.slice (some ⟨w.heap.size, 0, none⟩) (M + 2) (M + 2)) (w.alloc (.cells (madeCells #[.int .u8 0] (M + 2)) 5)) := fun w => by
    have h := hmk0 w
    rw [show ((M + 2 : Nat) : Int) = (M : Int) + 1 + 1 by omega] at h
    exact h
  clear hmk0
  have cT := Lib.hid (tz_two (w.alloc (.cells (madeCells #[.int .u8 0] (M + 2)) 5)) (by rw [World.cell?_alloc_past _ _ _ h7]; exact ht))
  go_enter Tryz.func43, Tryz.ntmps43
  go_wp2_with (first | (go_at_call 62; refine CB.out.mono ?_; rintro e w' ⟨rfl, rfl⟩) | (go_at_call 63; refine (log2_two _).mono ?_; rintro e w' ⟨rfl, rfl⟩))
  go_wp2_with (go_at_call 64; refine cT.out.mono ?_; rintro e w' ⟨rfl, rfl⟩)
  go_rounds 1
  go_loopw [7, 12] (fun i v wr => ∃ j x : Nat, i = .int .i64 j ∧ v = .int .u64 x ∧ x < 9007199254740992 ∧ LayRel w.heap.size 0 (M + 2) 1 (Pl.digs 0 u) w j x wr) (fun i _ _ => (intOf i).toNat)
  case atStart => exact ⟨M + 2, u, by go_num, rfl, hu, lay_start w 0 (M + 2) 1 u h0 (by simpa using hwid) (by omega)⟩
  case round =>
    obtain ⟨j, x, rfl, rfl, hx, hL⟩ := hrel
    by_cases hz : x = 0
    · subst hz
      obtain ⟨hlen, hn0, hjN, bs, hb, hbl, hbd⟩ := hL.done
      have hw := hL.below
      have h1 := digs_pos 0 u
      have hjM : j < M + 2 := by omega
      obtain ⟨j, rfl⟩ : ∃ i, j = i + 1 := ⟨j - 1, by omega⟩
      have hf := free_at hb j
      have hc : wr.cell? ⟨w.heap.size, j, none⟩ = some (bs[j]'(by omega)) := by rw [cell_at hb]; simp [List.getElem?_eq_getElem (show j < bs.length by omega)]
      have HN := Lib.hid hlen; clear hlen
      have HB := Lib.hid hb; clear hb
      have HD := Lib.hid hbd; clear hbd
      clear hL h1
      go_wp2_with fail
      go_ret
      exact itoa_end_neg HB.out HD.out HN.out hbl hjN hw
    · have hroom := hL.room hz
      obtain ⟨j, rfl⟩ : ∃ i, j = i + 1 := ⟨j - 1, by omega⟩
      have hjN : j + 1 ≤ M + 2 := by obtain ⟨_, _, _, _, _, _, _, _, h, _⟩ := hL; exact h
      obtain ⟨⟨y0, hc⟩, hf⟩ := hL.cellOld j (by omega)
      have hne : ((x : Int) != 0) = true := by rw [bne_iff_ne]; omega
      have hst := hL.step hz (by omega) (Nat.le_refl _)
      obtain ⟨dd, hdd⟩ : ∃ dd, dd = x % (0 + 2) := ⟨_, rfl⟩
      rw [← hdd] at hst
      have hdlt : dd < 2 := by omega
      have hand : bits .and .u64 (x : Int) 1 = (dd : Int) := by rw [hdd]; exact and_mod x 1 (by omega) (by decide)
      have HL := Lib.hid hL; clear hL
      have HS := Lib.hid hst; clear hst
      clear hdd
      go_wp2_with fail
      refine ⟨⟨j, x / 2, rfl, by simp, by omega, ?_⟩, by simp [intOf]⟩
      have h := HS.out
      rw [sign_at dd (by omega)] at h
      exact h

set_option maxHeartbeats 1000000 in
set_option maxRecDepth 100000 in
theorem itoa_eight_pos (d u : Nat) (w : World) (hu : u < 9007199254740992) (h0 : u ≠ 0) (hd : w.cell? ⟨d, 0, none⟩ = some (.int .u64 u)) (hdl : d < w.heap.size)
    (ht : w.cell? ⟨7, 7, none⟩ = some (.int .u8 3)) (h7 : 7 < w.heap.size) :
    Calls Tryz.prog 43 #[.slice (some ⟨d, 0, none⟩) 1 1, .bool false, .int .i64 8] w (ItoaPost (Pl.digs 6 u) w) := by
  have hwid := Pl.width u 3 (by decide) (by omega)
  obtain ⟨B, hB⟩ : ∃ B, B = Lib.bitLen u := ⟨_, rfl⟩
  have hB53 := Lib.bitLen_le u 53 (by omega) (by omega)
  have cB := bitLen_word d u w hu h0 hd
  rw [← hB] at hB53 cB hwid
  obtain ⟨r, hr1, hr2⟩ := width_eight B hB53
  obtain ⟨M, hM⟩ : ∃ M, M = B / 3 := ⟨_, rfl⟩
  rw [← hM] at hr2 hwid
  have hM53 : M ≤ 53 := by rw [hM]; exact Nat.le_trans (Nat.div_le_self _ _) hB53
  have q1 := fun w => run_float_arith (P := Tryz.prog) w .quo 128 .f64 _ _ _ hr1
  have q2 := fun w => run_convert_float_int (P := Tryz.prog) w 128 3 .f64 .i64 r M (by kernel_rfl) Tryz.underlying3 hr2
  have CB := Lib.hid cB; clear cB
  clear hr1 hr2 hM hB
  have f2 : floatOfInt FloatKind.f64 8 = 4620693217682128896 := by decide +kernel
  have a1 : bits BinOp.and IntKind.u64 8 (IntKind.u64.wrap (-8)) = 8 := by decide +kernel
  have hmk0 := run_make_row' (P := Tryz.prog) 88 5 (.int .u8 0) 1 Tryz.underlying88 info5 rfl .i64 .i64 (M + 1) (by omega) (by omega)
  have hmk : ∀ w, (Instr.makeSlice 88 (.int .i64 ((M : Int) + 1)) (.int .i64 ((M : Int) + 1))).run Tryz.prog w = .ok (.slice (some ⟨w.heap.size, 0, none⟩) (M + 1) (M + 1)) (w.alloc (.cells (madeCells #[.int .u8 0] (M + 1)) 5)) := fun w => by
    have h := hmk0 w
    rw [show ((M + 1 : Nat) : Int) = (M : Int) + 1 by omega] at h
    exact h
  clear hmk0
  have cT := Lib.hid (tz_eight (w.alloc (.cells (madeCells #[.int .u8 0] (M + 1)) 5)) (by rw [World.cell?_alloc_past _ _ _ h7]; exact ht))
  go_enter Tryz.func43, Tryz.ntmps43
  go_wp2_with (first | (go_at_call 62; refine CB.out.mono ?_; rintro e w' ⟨rfl, rfl⟩) | (go_at_call 63; refine (log2_eight _).mono ?_; rintro e w' ⟨rfl, rfl⟩))
  go_wp2_with (go_at_call 64; refine cT.out.mono ?_; rintro e w' ⟨rfl, rfl⟩)
  go_rounds 1
  go_loopw [7, 12] (fun i v wr => ∃ j x : Nat, i = .int .i64 j ∧ v = .int .u64 x ∧ x < 9007199254740992 ∧ LayRel w.heap.size 6 (M + 1) 0 (Pl.digs 6 u) w j x wr) (fun i _ _ => (intOf i).toNat)
  case atStart => exact ⟨M + 1, u, by go_num, rfl, hu, lay_start w 6 (M + 1) 0 u h0 (by simpa using hwid) (by omega)⟩
  case round =>
    obtain ⟨j, x, rfl, rfl, hx, hL⟩ := hrel
    by_cases hz : x = 0
    · subst hz
      obtain ⟨hlen, hn0, hjN, bs, hb, hbl, hbd⟩ := hL.done
      have hw := hL.below
      have h1 := digs_pos 6 u
      have hjM : j < M + 1 := by omega
      have HN := Lib.hid hlen; clear hlen
      have HB := Lib.hid hb; clear hb
      have HD := Lib.hid hbd; clear hbd
      clear hL h1
      go_wp2_with fail
      go_ret
      exact ⟨j, by rw [HN.out]; rfl, fun i hi => row_cells HB.out HD.out i hi, hw⟩
    · have hroom := hL.room hz
      obtain ⟨j, rfl⟩ : ∃ i, j = i + 1 := ⟨j - 1, by omega⟩
      have hjN : j + 1 ≤ M + 1 := by obtain ⟨_, _, _, _, _, _, _, _, h, _⟩ := hL; exact h
      obtain ⟨⟨y0, hc⟩, hf⟩ := hL.cellOld j (by omega)
      have hne : ((x : Int) != 0) = true := by rw [bne_iff_ne]; omega
      have hst := hL.step hz (by omega) (Nat.le_refl _)
      obtain ⟨dd, hdd⟩ : ∃ dd, dd = x % (6 + 2) := ⟨_, rfl⟩
      rw [← hdd] at hst
      have hdlt : dd < 8 := by omega
      have hand : bits .and .u64 (x : Int) 7 = (dd : Int) := by rw [hdd]; exact and_mod x 3 (by omega) (by decide)
      have HL := Lib.hid hL; clear hL
      have HS := Lib.hid hst; clear hst
      clear hdd
      go_wp2_with fail
      refine ⟨⟨j, x / 8, rfl, by simp, by omega, ?_⟩, by simp [intOf]⟩
      have h := HS.out
      rw [sign_at dd (by omega)] at h
      exact h

set_option maxHeartbeats 1000000 in
set_option maxRecDepth 100000 in
theorem itoa_eight_neg (d u : Nat) (w : World) (hu : u < 9007199254740992) (h0 : u ≠ 0) (hd : w.cell? ⟨d, 0, none⟩ = some (.int .u64 u)) (hdl : d < w.heap.size)
    (ht : w.cell? ⟨7, 7, none⟩ = some (.int .u8 3)) (h7 : 7 < w.heap.size) :
    Calls Tryz.prog 43 #[.slice (some ⟨d, 0, none⟩) 1 1, .bool true, .int .i64 8] w (ItoaPost (45 :: Pl.digs 6 u) w) := by
  have hwid := Pl.width u 3 (by decide) (by omega)
  obtain ⟨B, hB⟩ : ∃ B, B = Lib.bitLen u := ⟨_, rfl⟩
  have hB53 := Lib.bitLen_le u 53 (by omega) (by omega)
  have cB := bitLen_word d u w hu h0 hd
  rw [← hB] at hB53 cB hwid
  obtain ⟨r, hr1, hr2⟩ := width_eight B hB53
  obtain ⟨M, hM⟩ : ∃ M, M = B / 3 := ⟨_, rfl⟩
  rw [← hM] at hr2 hwid
  have hM53 : M ≤ 53 := by rw [hM]; exact Nat.le_trans (Nat.div_le_self _ _) hB53
  have q1 := fun w => run_float_arith (P := Tryz.prog) w .quo 128 .f64 _ _ _ hr1
  have q2 := fun w => run_convert_float_int (P := Tryz.prog) w 128 3 .f64 .i64 r M (by kernel_rfl) Tryz.underlying3 hr2
  have CB := Lib.hid cB; clear cB
  clear hr1 hr2 hM hB
  have f2 : floatOfInt FloatKind.f64 8 = 4620693217682128896 := by decide +kernel
  have a1 : bits BinOp.and IntKind.u64 8 (IntKind.u64.wrap (-8)) = 8 := by decide +kernel
  have hmk0 := run_make_row' (P := Tryz.prog) 88 5 (.int .u8 0) 1 Tryz.underlying88 info5 rfl .i64 .i64 (M + 2) (by omega) (by omega)
  have hmk : ∀ w, (Instr.makeSlice 88 (.int .i64 ((M : Int) + 1 + 1)) (.int .i64 ((M : Int) + 1 + 1))).run Tryz.prog w = .ok (.slice (some ⟨w.heap.size, 0, none⟩) (M + 2) (M + 2)) (w.alloc (.cells (madeCells #[.int .u8 0] (M + 2)) 5)) := fun w => by
    have h := hmk0 w
    rw [show ((M + 2 : Nat) : Int) = (M : Int) + 1 + 1 by omega] at h
    exact h
  clear hmk0
  have cT := Lib.hid (tz_eight (w.alloc (.cells (madeCells #[.int .u8 0] (M + 2)) 5)) (by rw [World.cell?_alloc_past _ _ _ h7]; exact ht))
  go_enter Tryz.func43, Tryz.ntmps43
  go_wp2_with (first | (go_at_call 62; refine CB.out.mono ?_; rintro e w' ⟨rfl, rfl⟩) | (go_at_call 63; refine (log2_eight _).mono ?_; rintro e w' ⟨rfl, rfl⟩))
  go_wp2_with (go_at_call 64; refine cT.out.mono ?_; rintro e w' ⟨rfl, rfl⟩)
  go_rounds 1
  go_loopw [7, 12] (fun i v wr => ∃ j x : Nat, i = .int .i64 j ∧ v = .int .u64 x ∧ x < 9007199254740992 ∧ LayRel w.heap.size 6 (M + 2) 1 (Pl.digs 6 u) w j x wr) (fun i _ _ => (intOf i).toNat)
  case atStart => exact ⟨M + 2, u, by go_num, rfl, hu, lay_start w 6 (M + 2) 1 u h0 (by simpa using hwid) (by omega)⟩
  case round =>
    obtain ⟨j, x, rfl, rfl, hx, hL⟩ := hrel
    by_cases hz : x = 0
    · subst hz
      obtain ⟨hlen, hn0, hjN, bs, hb, hbl, hbd⟩ := hL.done
      have hw := hL.below
      have h1 := digs_pos 6 u
      have hjM : j < M + 2 := by omega
      obtain ⟨j, rfl⟩ : ∃ i, j = i + 1 := ⟨j - 1, by omega⟩
      have hf := free_at hb j
      have hc : wr.cell? ⟨w.heap.size, j, none⟩ = some (bs[j]'(by omega)) := by rw [cell_at hb]; simp [List.getElem?_eq_getElem (show j < bs.length by omega)]
      have HN := Lib.hid hlen; clear hlen
      have HB := Lib.hid hb; clear hb
      have HD := Lib.hid hbd; clear hbd
      clear hL h1
      go_wp2_with fail
      go_ret
      exact itoa_end_neg HB.out HD.out HN.out hbl hjN hw
    · have hroom := hL.room hz
      obtain ⟨j, rfl⟩ : ∃ i, j = i + 1 := ⟨j - 1, by omega⟩
      have hjN : j + 1 ≤ M + 2 := by obtain ⟨_, _, _, _, _, _, _, _, h, _⟩ := hL; exact h
      obtain ⟨⟨y0, hc⟩, hf⟩ := hL.cellOld j (by omega)
      have hne : ((x : Int) != 0) = true := by rw [bne_iff_ne]; omega
      have hst := hL.step hz (by omega) (Nat.le_refl _)
      obtain ⟨dd, hdd⟩ : ∃ dd, dd = x % (6 + 2) := ⟨_, rfl⟩
      rw [← hdd] at hst
      have hdlt : dd < 8 := by omega
      have hand : bits .and .u64 (x : Int) 7 = (dd : Int) := by rw [hdd]; exact and_mod x 3 (by omega) (by decide)
      have HL := Lib.hid hL; clear hL
      have HS := Lib.hid hst; clear hst
      clear hdd
      go_wp2_with fail
      refine ⟨⟨j, x / 8, rfl, by simp, by omega, ?_⟩, by simp [intOf]⟩
      have h := HS.out
      rw [sign_at dd (by omega)] at h
      exact h

set_option maxHeartbeats 1000000 in
set_option maxRecDepth 100000 in
theorem itoa_sixteen_pos (d u : Nat) (w : World) (hu : u < 9007199254740992) (h0 : u ≠ 0) (hd : w.cell? ⟨d, 0, none⟩ = some (.int .u64 u)) (hdl : d < w.heap.size)
    (ht : w.cell? ⟨7, 15, none⟩ = some (.int .u8 4)) (h7 : 7 < w.heap.size) :
    Calls Tryz.prog 43 #[.slice (some ⟨d, 0, none⟩) 1 1, .bool false, .int .i64 16] w (ItoaPost (Pl.digs 14 u) w) := by
  have hwid := Pl.width u 4 (by decide) (by omega)
  obtain ⟨B, hB⟩ : ∃ B, B = Lib.bitLen u := ⟨_, rfl⟩
  have hB53 := Lib.bitLen_le u 53 (by omega) (by omega)
  have cB := bitLen_word d u w hu h0 hd
  rw [← hB] at hB53 cB hwid
  obtain ⟨r, hr1, hr2⟩ := width_sixteen B hB53
  obtain ⟨M, hM⟩ : ∃ M, M = B / 4 := ⟨_, rfl⟩
  rw [← hM] at hr2 hwid
  have hM53 : M ≤ 53 := by rw [hM]; exact Nat.le_trans (Nat.div_le_self _ _) hB53
  have q1 := fun w => run_float_arith (P := Tryz.prog) w .quo 128 .f64 _ _ _ hr1
  have q2 := fun w => run_convert_float_int (P := Tryz.prog) w 128 3 .f64 .i64 r M (by kernel_rfl) Tryz.underlying3 hr2
  have CB := Lib.hid cB; clear cB
  clear hr1 hr2 hM hB
  have f2 : floatOfInt FloatKind.f64 16 = 4625196817309499392 := by decide +kernel
  have a1 : bits BinOp.and IntKind.u64 16 (IntKind.u64.wrap (-16)) = 16 := by decide +kernel
  have hmk0 := run_make_row' (P := Tryz.prog) 88 5 (.int .u8 0) 1 Tryz.underlying88 info5 rfl .i64 .i64 (M + 1) (by omega) (by omega)
  have hmk : ∀ w, (Instr.makeSlice 88 (.int .i64 ((M : Int) + 1)) (.int .i64 ((M : Int) + 1))).run Tryz.prog w = .ok (.slice (some ⟨w.heap.size, 0, none⟩) (M + 1) (M + 1)) (w.alloc (.cells (madeCells #[.int .u8 0] (M + 1)) 5)) := fun w => by
    have h := hmk0 w
    rw [show ((M + 1 : Nat) : Int) = (M : Int) + 1 by omega] at h
    exact h
  clear hmk0
  have cT := Lib.hid (tz_sixteen (w.alloc (.cells (madeCells #[.int .u8 0] (M + 1)) 5)) (by rw [World.cell?_alloc_past _ _ _ h7]; exact ht))
  go_enter Tryz.func43, Tryz.ntmps43
  go_wp2_with (first | (go_at_call 62; refine CB.out.mono ?_; rintro e w' ⟨rfl, rfl⟩) | (go_at_call 63; refine (log2_sixteen _).mono ?_; rintro e w' ⟨rfl, rfl⟩))
  go_wp2_with (go_at_call 64; refine cT.out.mono ?_; rintro e w' ⟨rfl, rfl⟩)
  go_rounds 1
  go_loopw [7, 12] (fun i v wr => ∃ j x : Nat, i = .int .i64 j ∧ v = .int .u64 x ∧ x < 9007199254740992 ∧ LayRel w.heap.size 14 (M + 1) 0 (Pl.digs 14 u) w j x wr) (fun i _ _ => (intOf i).toNat)
  case atStart => exact ⟨M + 1, u, by go_num, rfl, hu, lay_start w 14 (M + 1) 0 u h0 (by simpa using hwid) (by omega)⟩
  case round =>
    obtain ⟨j, x, rfl, rfl, hx, hL⟩ := hrel
    by_cases hz : x = 0
    · subst hz
      obtain ⟨hlen, hn0, hjN, bs, hb, hbl, hbd⟩ := hL.done
      have hw := hL.below
      have h1 := digs_pos 14 u
      have hjM : j < M + 1 := by omega
      have HN := Lib.hid hlen; clear hlen
      have HB := Lib.hid hb; clear hb
      have HD := Lib.hid hbd; clear hbd
      clear hL h1
      go_wp2_with fail
      go_ret
      exact ⟨j, by rw [HN.out]; rfl, fun i hi => row_cells HB.out HD.out i hi, hw⟩
    · have hroom := hL.room hz
      obtain ⟨j, rfl⟩ : ∃ i, j = i + 1 := ⟨j - 1, by omega⟩
      have hjN : j + 1 ≤ M + 1 := by obtain ⟨_, _, _, _, _, _, _, _, h, _⟩ := hL; exact h
      obtain ⟨⟨y0, hc⟩, hf⟩ := hL.cellOld j (by omega)
      have hne : ((x : Int) != 0) = true := by rw [bne_iff_ne]; omega
      have hst := hL.step hz (by omega) (Nat.le_refl _)
      obtain ⟨dd, hdd⟩ : ∃ dd, dd = x % (14 + 2) := ⟨_, rfl⟩
      rw [← hdd] at hst
      have hdlt : dd < 16 := by omega
      have hand : bits .and .u64 (x : Int) 15 = (dd : Int) := by rw [hdd]; exact and_mod x 4 (by omega) (by decide)
      have HL := Lib.hid hL; clear hL
      have HS := Lib.hid hst; clear hst
      clear hdd
      go_wp2_with fail
      refine ⟨⟨j, x / 16, rfl, by simp, by omega, ?_⟩, by simp [intOf]⟩
      have h := HS.out
      rw [sign_at dd (by omega)] at h
      exact h

set_option maxHeartbeats 1000000 in
set_option maxRecDepth 100000 in
theorem itoa_sixteen_neg (d u : Nat) (w : World) (hu : u < 9007199254740992) (h0 : u ≠ 0) (hd : w.cell? ⟨d, 0, none⟩ = some (.int .u64 u)) (hdl : d < w.heap.size)
    (ht : w.cell? ⟨7, 15, none⟩ = some (.int .u8 4)) (h7 : 7 < w.heap.size) :
    Calls Tryz.prog 43 #[.slice (some ⟨d, 0, none⟩) 1 1, .bool true, .int .i64 16] w (ItoaPost (45 :: Pl.digs 14 u) w) := by
  have hwid := Pl.width u 4 (by decide) (by omega)
  obtain ⟨B, hB⟩ : ∃ B, B = Lib.bitLen u := ⟨_, rfl⟩
  have hB53 := Lib.bitLen_le u 53 (by omega) (by omega)
  have cB := bitLen_word d u w hu h0 hd
  rw [← hB] at hB53 cB hwid
  obtain ⟨r, hr1, hr2⟩ := width_sixteen B hB53
  obtain ⟨M, hM⟩ : ∃ M, M = B / 4 := ⟨_, rfl⟩
  rw [← hM] at hr2 hwid
  have hM53 : M ≤ 53 := by rw [hM]; exact Nat.le_trans (Nat.div_le_self _ _) hB53
  have q1 := fun w => run_float_arith (P := Tryz.prog) w .quo 128 .f64 _ _ _ hr1
  have q2 := fun w => run_convert_float_int (P := Tryz.prog) w 128 3 .f64 .i64 r M (by kernel_rfl) Tryz.underlying3 hr2
  have CB := Lib.hid cB; clear cB
  clear hr1 hr2 hM hB
  have f2 : floatOfInt FloatKind.f64 16 = 4625196817309499392 := by decide +kernel
  have a1 : bits BinOp.and IntKind.u64 16 (IntKind.u64.wrap (-16)) = 16 := by decide +kernel
  have hmk0 := run_make_row' (P := Tryz.prog) 88 5 (.int .u8 0) 1 Tryz.underlying88 info5 rfl .i64 .i64 (M + 2) (by omega) (by omega)
  have hmk : ∀ w, (Instr.makeSlice 88 (.int .i64 ((M : Int) + 1 + 1)) (.int .i64 ((M : Int) + 1 + 1))).run Tryz.prog w = .ok (.slice (some ⟨w.heap.size, 0, none⟩) (M + 2) (M + 2)) (w.alloc (.cells (madeCells #[.int .u8 0] (M + 2)) 5)) := fun w => by
    have h := hmk0 w
    rw [show ((M + 2 : Nat) : Int) = (M : Int) + 1 + 1 by omega] at h
    exact h
  clear hmk0
  have cT := Lib.hid (tz_sixteen (w.alloc (.cells (madeCells #[.int .u8 0] (M + 2)) 5)) (by rw [World.cell?_alloc_past _ _ _ h7]; exact ht))
  go_enter Tryz.func43, Tryz.ntmps43
  go_wp2_with (first | (go_at_call 62; refine CB.out.mono ?_; rintro e w' ⟨rfl, rfl⟩) | (go_at_call 63; refine (log2_sixteen _).mono ?_; rintro e w' ⟨rfl, rfl⟩))
  go_wp2_with (go_at_call 64; refine cT.out.mono ?_; rintro e w' ⟨rfl, rfl⟩)
  go_rounds 1
  go_loopw [7, 12] (fun i v wr => ∃ j x : Nat, i = .int .i64 j ∧ v = .int .u64 x ∧ x < 9007199254740992 ∧ LayRel w.heap.size 14 (M + 2) 1 (Pl.digs 14 u) w j x wr) (fun i _ _ => (intOf i).toNat)
  case atStart => exact ⟨M + 2, u, by go_num, rfl, hu, lay_start w 14 (M + 2) 1 u h0 (by simpa using hwid) (by omega)⟩
  case round =>
    obtain ⟨j, x, rfl, rfl, hx, hL⟩ := hrel
    by_cases hz : x = 0
    · subst hz
      obtain ⟨hlen, hn0, hjN, bs, hb, hbl, hbd⟩ := hL.done
      have hw := hL.below
      have h1 := digs_pos 14 u
      have hjM : j < M + 2 := by omega
      obtain ⟨j, rfl⟩ : ∃ i, j = i + 1 := ⟨j - 1, by omega⟩
      have hf := free_at hb j
      have hc : wr.cell? ⟨w.heap.size, j, none⟩ = some (bs[j]'(by omega)) := by rw [cell_at hb]; simp [List.getElem?_eq_getElem (show j < bs.length by omega)]
      have HN := Lib.hid hlen; clear hlen
      have HB := Lib.hid hb; clear hb
      have HD := Lib.hid hbd; clear hbd
      clear hL h1
      go_wp2_with fail
      go_ret
      exact itoa_end_neg HB.out HD.out HN.out hbl hjN hw
    · have hroom := hL.room hz
      obtain ⟨j, rfl⟩ : ∃ i, j = i + 1 := ⟨j - 1, by omega⟩
      have hjN : j + 1 ≤ M + 2 := by obtain ⟨_, _, _, _, _, _, _, _, h, _⟩ := hL; exact h
      obtain ⟨⟨y0, hc⟩, hf⟩ := hL.cellOld j (by omega)
      have hne : ((x : Int) != 0) = true := by rw [bne_iff_ne]; omega
      have hst := hL.step hz (by omega) (Nat.le_refl _)
      obtain ⟨dd, hdd⟩ : ∃ dd, dd = x % (14 + 2) := ⟨_, rfl⟩
      rw [← hdd] at hst
      have hdlt : dd < 16 := by omega
      have hand : bits .and .u64 (x : Int) 15 = (dd : Int) := by rw [hdd]; exact and_mod x 4 (by omega) (by decide)
      have HL := Lib.hid hL; clear hL
      have HS := Lib.hid hst; clear hst
      clear hdd
      go_wp2_with fail
      refine ⟨⟨j, x / 16, rfl, by simp, by omega, ?_⟩, by simp [intOf]⟩
      have h := HS.out
      rw [sign_at dd (by omega)] at h
      exact h
end Go.Proofs.YtpoepgnapneeaaaGreatDoor
