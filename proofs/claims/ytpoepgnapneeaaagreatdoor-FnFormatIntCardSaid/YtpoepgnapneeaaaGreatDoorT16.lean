/-
  spec.Digits at the bases 2, 8, 10 and 16.
-/
import Derived.Test.YtpoepgnapneeaaaGreatDoorU
import Derived.Test.YtpoepgnapneeaaaGreatDoorPlain
import Derived.Deep.QuietTactic
import Derived.BigQuiet
import Derived.Deep.DeepFit
namespace Go.Proofs.YtpoepgnapneeaaaGreatDoor
open Go.RowKit

def DigPost (l : List UInt8) (w : World) (e : Ending) (w' : World) : Prop := e = .returned (.string ⟨l.toArray⟩) ∧ ∃ k, w' = w.drewN k

def signs16 : ByteArray := { data := #[48, 49, 50, 51, 52, 53, 54, 55, 56, 57, 97, 98, 99, 100, 101, 102] }
theorem sign_cut : ∀ d : Fin 16, signs16.extract d.val (d.val + 1) = ⟨#[Pl.sg d.val]⟩ := by decide +kernel
theorem sign_cut' (d : Nat) (h : d < 16) : signs16.extract d (d + 1) = ⟨[Pl.sg d].toArray⟩ := sign_cut ⟨d, h⟩

theorem joined (l m : List UInt8) : (⟨l.toArray⟩ : ByteArray) ++ ⟨m.toArray⟩ = ⟨(l ++ m).toArray⟩ := by
  apply ByteArray.ext; simp
theorem digits_end {l r : List UInt8} {d : Nat} (hc : signs16.extract d (d + 1) = ⟨[Pl.sg d].toArray⟩) (hr : r = l ++ [Pl.sg d]) :
    Ending.returned (.string ((⟨l.toArray⟩ : ByteArray) ++ signs16.extract d (d + 1))) = .returned (.string ⟨r.toArray⟩) := by
  rw [hc, joined, hr]

set_option maxHeartbeats 1000000 in
set_option maxRecDepth 100000 in
theorem digits_two (u : Nat) : ∀ w : World, u < 9007199254740992 → Calls Tryz.prog 7 #[.int .i64 u, .int .i64 2] w (DigPost (Pl.digs 0 u) w) := by
  induction u using Nat.strongRecOn with
  | _ u ih =>
    intro w hu
    by_cases hlt : u < 2
    · have hcut := sign_cut' u (by omega)
      have hfin := Lib.hid (Pl.digs_small (b := 0) hlt)
      clear ih
      go_enter Tryz.func7, Tryz.ntmps7
      go_wp2_with fail
      go_ret
      exact ⟨by rw [hfin.out]; exact congrArg (fun s => Ending.returned (.string s)) hcut, 0, rfl⟩
    · have c : ∀ w : World, Calls Tryz.prog 7 #[.int .i64 (u / 2 : Nat), .int .i64 2] w fun e w' => e = .returned (.string ⟨(Pl.digs 0 (u / 2)).toArray⟩) ∧ ∃ k, w' = w.drewN k := fun w => ih (u / 2) (by omega) w (by omega)
      have hfin := Lib.hid (Pl.digs_big (b := 0) hlt)
      obtain ⟨q, hq⟩ : ∃ q, q = u / 2 := ⟨_, rfl⟩
      obtain ⟨d, hd⟩ : ∃ d, d = u % 2 := ⟨_, rfl⟩
      rw [← hq] at c
      have hq1 : (u : Int) / 2 = (q : Int) := by rw [hq]; omega
      have hd1 : (u : Int) % 2 = (d : Int) := by rw [hd]; omega
      have hd2 : IntKind.i64.wrap ((d : Int) + 1) = (d : Int) + 1 := IntWalk.i64_in _ (by omega)
      have hd3 : 0 ≤ (d : Int) + 1 := by omega
      have hd4 : ((d : Int) + 1).toNat = d + 1 := by omega
      have hdl : (d : Int) < 2 := by omega
      have hlen := Pl.digs_len53 0 q (by omega)
      have hno : ¬ 9223372036854775807 < (Pl.digs 0 q).length + (min (d + 1) 16 - d) := by omega
      have hcut := Lib.hid (sign_cut' d (by omega))
      have C := Lib.hid c; clear c ih
      have HQ := Lib.hid hq; clear hq
      have HD := Lib.hid hd; clear hd
      go_enter Tryz.func7, Tryz.ntmps7
      go_wp2_with fail
      refine wp_region_quiet_lit (by kernel_rfl) (by kernel_rfl) ?_
      iterate 4 (go_big_quiet_step (fail))
      go_big_quiet_want
      go_big_quiet_op
      apply Exists.intro
      refine ⟨fun n => ?_, ?_⟩
      · have h := C.out (w.drewN n)
        have h2 := Calls.quiet_of h
        with_reducible exact h2
      go_big_quiet_on
      repeat (go_big_quiet_step (fail))
      refine wpQuiet_nil ?_
      intro _ hw'
      obtain ⟨nq, hw''⟩ := hw'
      subst hw''
      go_wp2_with fail
      go_ret
      exact ⟨digits_end hcut.out (by rw [hfin.out, HQ.out, HD.out]), nq, rfl⟩

set_option maxHeartbeats 1000000 in
set_option maxRecDepth 100000 in
theorem digits_two_neg (u : Nat) (w : World) (hu : u < 9007199254740992) (h1 : 1 ≤ u) : Calls Tryz.prog 7 #[.int .i64 (-(u : Int)), .int .i64 2] w (DigPost (45 :: Pl.digs 0 u) w) := by
  have C := Lib.hid (digits_two u w hu)
  have hlen := Pl.digs_len53 0 u hu
  have hno : ¬ 9223372036854775807 < 1 + (Pl.digs 0 u).length := by omega
  go_enter Tryz.func7, Tryz.ntmps7
  go_wp2_with fail
  refine C.out.mono ?_
  rintro e w' ⟨rfl, k, rfl⟩
  go_wp2_with fail
  go_ret
  exact ⟨congrArg (fun s => Ending.returned (.string s)) (joined [45] (Pl.digs 0 u)), k, rfl⟩

set_option maxHeartbeats 1000000 in
set_option maxRecDepth 100000 in
theorem digits_eight (u : Nat) : ∀ w : World, u < 9007199254740992 → Calls Tryz.prog 7 #[.int .i64 u, .int .i64 8] w (DigPost (Pl.digs 6 u) w) := by
  induction u using Nat.strongRecOn with
  | _ u ih =>
    intro w hu
    by_cases hlt : u < 8
    · have hcut := sign_cut' u (by omega)
      have hfin := Lib.hid (Pl.digs_small (b := 6) hlt)
      clear ih
      go_enter Tryz.func7, Tryz.ntmps7
      go_wp2_with fail
      go_ret
      exact ⟨by rw [hfin.out]; exact congrArg (fun s => Ending.returned (.string s)) hcut, 0, rfl⟩
    · have c : ∀ w : World, Calls Tryz.prog 7 #[.int .i64 (u / 8 : Nat), .int .i64 8] w fun e w' => e = .returned (.string ⟨(Pl.digs 6 (u / 8)).toArray⟩) ∧ ∃ k, w' = w.drewN k := fun w => ih (u / 8) (by omega) w (by omega)
      have hfin := Lib.hid (Pl.digs_big (b := 6) hlt)
      obtain ⟨q, hq⟩ : ∃ q, q = u / 8 := ⟨_, rfl⟩
      obtain ⟨d, hd⟩ : ∃ d, d = u % 8 := ⟨_, rfl⟩
      rw [← hq] at c
      have hq1 : (u : Int) / 8 = (q : Int) := by rw [hq]; omega
      have hd1 : (u : Int) % 8 = (d : Int) := by rw [hd]; omega
      have hd2 : IntKind.i64.wrap ((d : Int) + 1) = (d : Int) + 1 := IntWalk.i64_in _ (by omega)
      have hd3 : 0 ≤ (d : Int) + 1 := by omega
      have hd4 : ((d : Int) + 1).toNat = d + 1 := by omega
      have hdl : (d : Int) < 8 := by omega
      have hlen := Pl.digs_len53 6 q (by omega)
      have hno : ¬ 9223372036854775807 < (Pl.digs 6 q).length + (min (d + 1) 16 - d) := by omega
      have hcut := Lib.hid (sign_cut' d (by omega))
      have C := Lib.hid c; clear c ih
      have HQ := Lib.hid hq; clear hq
      have HD := Lib.hid hd; clear hd
      go_enter Tryz.func7, Tryz.ntmps7
      go_wp2_with fail
      refine wp_region_quiet_lit (by kernel_rfl) (by kernel_rfl) ?_
      iterate 4 (go_big_quiet_step (fail))
      go_big_quiet_want
      go_big_quiet_op
      apply Exists.intro
      refine ⟨fun n => ?_, ?_⟩
      · have h := C.out (w.drewN n)
        have h2 := Calls.quiet_of h
        with_reducible exact h2
      go_big_quiet_on
      repeat (go_big_quiet_step (fail))
      refine wpQuiet_nil ?_
      intro _ hw'
      obtain ⟨nq, hw''⟩ := hw'
      subst hw''
      go_wp2_with fail
      go_ret
      exact ⟨digits_end hcut.out (by rw [hfin.out, HQ.out, HD.out]), nq, rfl⟩

set_option maxHeartbeats 1000000 in
set_option maxRecDepth 100000 in
theorem digits_eight_neg (u : Nat) (w : World) (hu : u < 9007199254740992) (h1 : 1 ≤ u) : Calls Tryz.prog 7 #[.int .i64 (-(u : Int)), .int .i64 8] w (DigPost (45 :: Pl.digs 6 u) w) := by
  have C := Lib.hid (digits_eight u w hu)
  have hlen := Pl.digs_len53 6 u hu
  have hno : ¬ 9223372036854775807 < 1 + (Pl.digs 6 u).length := by omega
  go_enter Tryz.func7, Tryz.ntmps7
  go_wp2_with fail
  refine C.out.mono ?_
  rintro e w' ⟨rfl, k, rfl⟩
  go_wp2_with fail
  go_ret
  exact ⟨congrArg (fun s => Ending.returned (.string s)) (joined [45] (Pl.digs 6 u)), k, rfl⟩

set_option maxHeartbeats 1000000 in
set_option maxRecDepth 100000 in
theorem digits_ten (u : Nat) : ∀ w : World, u < 9007199254740992 → Calls Tryz.prog 7 #[.int .i64 u, .int .i64 10] w (DigPost (Pl.digs 8 u) w) := by
  induction u using Nat.strongRecOn with
  | _ u ih =>
    intro w hu
    by_cases hlt : u < 10
    · have hcut := sign_cut' u (by omega)
      have hfin := Lib.hid (Pl.digs_small (b := 8) hlt)
      clear ih
      go_enter Tryz.func7, Tryz.ntmps7
      go_wp2_with fail
      go_ret
      exact ⟨by rw [hfin.out]; exact congrArg (fun s => Ending.returned (.string s)) hcut, 0, rfl⟩
    · have c : ∀ w : World, Calls Tryz.prog 7 #[.int .i64 (u / 10 : Nat), .int .i64 10] w fun e w' => e = .returned (.string ⟨(Pl.digs 8 (u / 10)).toArray⟩) ∧ ∃ k, w' = w.drewN k := fun w => ih (u / 10) (by omega) w (by omega)
      have hfin := Lib.hid (Pl.digs_big (b := 8) hlt)
      obtain ⟨q, hq⟩ : ∃ q, q = u / 10 := ⟨_, rfl⟩
      obtain ⟨d, hd⟩ : ∃ d, d = u % 10 := ⟨_, rfl⟩
      rw [← hq] at c
      have hq1 : (u : Int) / 10 = (q : Int) := by rw [hq]; omega
      have hd1 : (u : Int) % 10 = (d : Int) := by rw [hd]; omega
      have hd2 : IntKind.i64.wrap ((d : Int) + 1) = (d : Int) + 1 := IntWalk.i64_in _ (by omega)
      have hd3 : 0 ≤ (d : Int) + 1 := by omega
      have hd4 : ((d : Int) + 1).toNat = d + 1 := by omega
      have hdl : (d : Int) < 10 := by omega
      have hlen := Pl.digs_len53 8 q (by omega)
      have hno : ¬ 9223372036854775807 < (Pl.digs 8 q).length + (min (d + 1) 16 - d) := by omega
      have hcut := Lib.hid (sign_cut' d (by omega))
      have C := Lib.hid c; clear c ih
      have HQ := Lib.hid hq; clear hq
      have HD := Lib.hid hd; clear hd
      go_enter Tryz.func7, Tryz.ntmps7
      go_wp2_with fail
      refine wp_region_quiet_lit (by kernel_rfl) (by kernel_rfl) ?_
      iterate 4 (go_big_quiet_step (fail))
      go_big_quiet_want
      go_big_quiet_op
      apply Exists.intro
      refine ⟨fun n => ?_, ?_⟩
      · have h := C.out (w.drewN n)
        have h2 := Calls.quiet_of h
        with_reducible exact h2
      go_big_quiet_on
      repeat (go_big_quiet_step (fail))
      refine wpQuiet_nil ?_
      intro _ hw'
      obtain ⟨nq, hw''⟩ := hw'
      subst hw''
      go_wp2_with fail
      go_ret
      exact ⟨digits_end hcut.out (by rw [hfin.out, HQ.out, HD.out]), nq, rfl⟩

set_option maxHeartbeats 1000000 in
set_option maxRecDepth 100000 in
theorem digits_ten_neg (u : Nat) (w : World) (hu : u < 9007199254740992) (h1 : 1 ≤ u) : Calls Tryz.prog 7 #[.int .i64 (-(u : Int)), .int .i64 10] w (DigPost (45 :: Pl.digs 8 u) w) := by
  have C := Lib.hid (digits_ten u w hu)
  have hlen := Pl.digs_len53 8 u hu
  have hno : ¬ 9223372036854775807 < 1 + (Pl.digs 8 u).length := by omega
  go_enter Tryz.func7, Tryz.ntmps7
  go_wp2_with fail
  refine C.out.mono ?_
  rintro e w' ⟨rfl, k, rfl⟩
  go_wp2_with fail
  go_ret
  exact ⟨congrArg (fun s => Ending.returned (.string s)) (joined [45] (Pl.digs 8 u)), k, rfl⟩

set_option maxHeartbeats 1000000 in
set_option maxRecDepth 100000 in
theorem digits_sixteen (u : Nat) : ∀ w : World, u < 9007199254740992 → Calls Tryz.prog 7 #[.int .i64 u, .int .i64 16] w (DigPost (Pl.digs 14 u) w) := by
  induction u using Nat.strongRecOn with
  | _ u ih =>
    intro w hu
    by_cases hlt : u < 16
    · have hcut := sign_cut' u (by omega)
      have hfin := Lib.hid (Pl.digs_small (b := 14) hlt)
      clear ih
      go_enter Tryz.func7, Tryz.ntmps7
      go_wp2_with fail
      go_ret
      exact ⟨by rw [hfin.out]; exact congrArg (fun s => Ending.returned (.string s)) hcut, 0, rfl⟩
    · have c : ∀ w : World, Calls Tryz.prog 7 #[.int .i64 (u / 16 : Nat), .int .i64 16] w fun e w' => e = .returned (.string ⟨(Pl.digs 14 (u / 16)).toArray⟩) ∧ ∃ k, w' = w.drewN k := fun w => ih (u / 16) (by omega) w (by omega)
      have hfin := Lib.hid (Pl.digs_big (b := 14) hlt)
      obtain ⟨q, hq⟩ : ∃ q, q = u / 16 := ⟨_, rfl⟩
      obtain ⟨d, hd⟩ : ∃ d, d = u % 16 := ⟨_, rfl⟩
      rw [← hq] at c
      have hq1 : (u : Int) / 16 = (q : Int) := by rw [hq]; omega
      have hd1 : (u : Int) % 16 = (d : Int) := by rw [hd]; omega
      have hd2 : IntKind.i64.wrap ((d : Int) + 1) = (d : Int) + 1 := IntWalk.i64_in _ (by omega)
      have hd3 : 0 ≤ (d : Int) + 1 := by omega
      have hd4 : ((d : Int) + 1).toNat = d + 1 := by omega
      have hdl : (d : Int) < 16 := by omega
      have hlen := Pl.digs_len53 14 q (by omega)
      have hno : ¬ 9223372036854775807 < (Pl.digs 14 q).length + (min (d + 1) 16 - d) := by omega
      have hcut := Lib.hid (sign_cut' d (by omega))
      have C := Lib.hid c; clear c ih
      have HQ := Lib.hid hq; clear hq
      have HD := Lib.hid hd; clear hd
      go_enter Tryz.func7, Tryz.ntmps7
      go_wp2_with fail
      refine wp_region_quiet_lit (by kernel_rfl) (by kernel_rfl) ?_
      iterate 4 (go_big_quiet_step (fail))
      go_big_quiet_want
      go_big_quiet_op
      apply Exists.intro
      refine ⟨fun n => ?_, ?_⟩
      · have h := C.out (w.drewN n)
        have h2 := Calls.quiet_of h
        with_reducible exact h2
      go_big_quiet_on
      repeat (go_big_quiet_step (fail))
      refine wpQuiet_nil ?_
      intro _ hw'
      obtain ⟨nq, hw''⟩ := hw'
      subst hw''
      go_wp2_with fail
      go_ret
      exact ⟨digits_end hcut.out (by rw [hfin.out, HQ.out, HD.out]), nq, rfl⟩

set_option maxHeartbeats 1000000 in
set_option maxRecDepth 100000 in
theorem digits_sixteen_neg (u : Nat) (w : World) (hu : u < 9007199254740992) (h1 : 1 ≤ u) : Calls Tryz.prog 7 #[.int .i64 (-(u : Int)), .int .i64 16] w (DigPost (45 :: Pl.digs 14 u) w) := by
  have C := Lib.hid (digits_sixteen u w hu)
  have hlen := Pl.digs_len53 14 u hu
  have hno : ¬ 9223372036854775807 < 1 + (Pl.digs 14 u).length := by omega
  go_enter Tryz.func7, Tryz.ntmps7
  go_wp2_with fail
  refine C.out.mono ?_
  rintro e w' ⟨rfl, k, rfl⟩
  go_wp2_with fail
  go_ret
  exact ⟨congrArg (fun s => Ending.returned (.string s)) (joined [45] (Pl.digs 14 u)), k, rfl⟩

/-- The bases, and what Pl.digs takes for each; 10 among them. -/
def Base (R : Int) (b : Nat) : Prop := (R = 2 ∧ b = 0) ∨ (R = 8 ∧ b = 6) ∨ (R = 10 ∧ b = 8) ∨ (R = 16 ∧ b = 14)

theorem digits_any (R : Int) (b : Nat) (hR : Base R b) (n : Int) (h0 : -9007199254740992 < n) (h1 : n < 9007199254740992) (w : World) :
    Calls Tryz.prog 7 #[.int .i64 n, .int .i64 R] w (DigPost (Pl.sdigs b n) w) := by
  by_cases hn : n < 0
  · obtain ⟨u, rfl⟩ : ∃ u : Nat, n = -(u : Int) := ⟨n.natAbs, by omega⟩
    rw [Pl.sdigs_neg b u (by omega)]
    rcases hR with ⟨rfl, rfl⟩ | ⟨rfl, rfl⟩ | ⟨rfl, rfl⟩ | ⟨rfl, rfl⟩
    · exact digits_two_neg u w (by omega) (by omega)
    · exact digits_eight_neg u w (by omega) (by omega)
    · exact digits_ten_neg u w (by omega) (by omega)
    · exact digits_sixteen_neg u w (by omega) (by omega)
  · obtain ⟨u, rfl⟩ : ∃ u : Nat, n = (u : Int) := ⟨n.toNat, by omega⟩
    rw [Pl.sdigs_nonneg b u]
    rcases hR with ⟨rfl, rfl⟩ | ⟨rfl, rfl⟩ | ⟨rfl, rfl⟩ | ⟨rfl, rfl⟩
    · exact digits_two u w (by omega)
    · exact digits_eight u w (by omega)
    · exact digits_ten u w (by omega)
    · exact digits_sixteen u w (by omega)
end Go.Proofs.YtpoepgnapneeaaaGreatDoor
