/-
  impl.FormatInt at every whole number below 2^53 and the bases 2, 8, 10 and 16.
-/
import Derived.Test.YtpoepgnapneeaaaGreatDoorT19
import Derived.Test.YtpoepgnapneeaaaGreatDoorT16
namespace Go.Proofs.YtpoepgnapneeaaaGreatDoor
open Go.RowKit

theorem itoa_two_is : (⟨(Lib.itoa 2).toArray⟩ : ByteArray) = { data := #[50] } := by
  rw [show (2 : Int) = ((2 : Nat) : Int) from rfl, Lib.itoa_nonneg, Lib.decDigits_one (by decide)]; rfl
theorem itoa_eight_is : (⟨(Lib.itoa 8).toArray⟩ : ByteArray) = { data := #[56] } := by
  rw [show (8 : Int) = ((8 : Nat) : Int) from rfl, Lib.itoa_nonneg, Lib.decDigits_one (by decide)]; rfl
theorem itoa_ten_is : (⟨(Lib.itoa 10).toArray⟩ : ByteArray) = { data := #[49, 48] } := by
  rw [show (10 : Int) = ((10 : Nat) : Int) from rfl, Lib.itoa_nonneg, Lib.decDigits_two (by decide) (by decide)]; rfl
theorem itoa_sixteen_is : (⟨(Lib.itoa 16).toArray⟩ : ByteArray) = { data := #[49, 54] } := by
  rw [show (16 : Int) = ((16 : Nat) : Int) from rfl, Lib.itoa_nonneg, Lib.decDigits_two (by decide) (by decide)]; rfl

theorem builtin_any (R : Int) (b : Nat) (hR : Base R b) (a : Addr) (rb sb t0 t1 : Nat) (n : Int) (w : World) (h0 : -9007199254740992 < n) (h1 : n < 9007199254740992) (hE : Env a w)
    (hr : IsVar rb w) (hp : IsPair sb t0 t1 w) (ht0 : IsTerm t0 (.iface 51 (.string ⟨(Lib.itoa n).toArray⟩)) w) (ht1 : IsTerm t1 (.iface 51 (.string ⟨(Lib.itoa R).toArray⟩)) w) :
    Calls Tryz.prog 15 #[.agg #[.nilIface], .slice (some ⟨sb, 0, none⟩) 2 2, .func (.func 19) #[] #[.pointer (some ⟨rb, 0, none⟩)]] w (BuiltPost rb (Pl.sdigs b n) w) := by
  rcases hR with ⟨rfl, rfl⟩ | ⟨rfl, rfl⟩ | ⟨rfl, rfl⟩ | ⟨rfl, rfl⟩
  · exact builtin_two a rb sb t0 t1 n w h0 h1 hE hr hp ht0 (by rw [← itoa_two_is]; exact ht1)
  · exact builtin_eight a rb sb t0 t1 n w h0 h1 hE hr hp ht0 (by rw [← itoa_eight_is]; exact ht1)
  · rw [Pl.sdigs_ten]; exact builtin_ten a rb sb t0 t1 n w h0 h1 hE hr hp ht0 (by rw [← itoa_ten_is]; exact ht1)
  · exact builtin_sixteen a rb sb t0 t1 n w h0 h1 hE hr hp ht0 (by rw [← itoa_sixteen_is]; exact ht1)

set_option maxHeartbeats 400000 in
set_option maxRecDepth 100000 in
theorem formatInt_calls (R : Int) (b : Nat) (hR : Base R b) (a : Addr) (n : Int) (w : World) (h0 : -9007199254740992 < n) (h1 : n < 9007199254740992) (hE : Env a w) :
    Calls Tryz.prog 5 #[.int .i64 n, .int .i64 R] w fun e w' => e = .returned (.tuple #[.string ⟨(Pl.sdigs b n).toArray⟩, .bool true]) ∧ Below w.heap.size w w' := by
  have hRb : 2 ≤ R ∧ R ≤ 16 := by unfold Base at hR; omega
  have hmf : ∀ (fn : Fn) (first cap : Array Value) (w : World), (Instr.makeFunc fn first cap).run Tryz.prog w = .ok (.func fn first cap) w := fun _ _ _ _ => rfl
  go_enter Tryz.func5, Tryz.ntmps5
  go_wp2_with fail
  refine (num_calls n (by omega) (by omega) w hE.pow).mono ?_
  rintro e w1 ⟨t0, rfl, hts0, htt0, hb1⟩
  have hE1 := hE.below hb1 hE.size
  go_wp2_with fail
  refine (num_calls R (by omega) (by omega) w1 hE1.pow).mono ?_
  rintro e w2 ⟨t1, rfl, hts1, htt1, hb2⟩
  have hw2 : Below w.heap.size w w2 := hb1.trans (hb2.mono hb1.size)
  have hE2 := hE.below hw2 hE.size
  have hT0 : IsTerm t0 (.iface 51 (.string ⟨(Lib.itoa n).toArray⟩)) w2 := heap_below hb2 htt0 (heap_lt htt0)
  go_wp2_with (first | (go_at_call 10; go_in) | (go_at_call 14; go_in))
  have hP : IsPair w2.heap.size t0 t1 ((w2.alloc (.cells #[.pointer (some ⟨t0, 0, none⟩), .pointer (some ⟨t1, 0, none⟩)] 30)).alloc (.cells #[.pointer none] 30)) :=
    heap_old (heap_new w2 _) _
  have hV : IsVar (w2.heap.size + 1) ((w2.alloc (.cells #[.pointer (some ⟨t0, 0, none⟩), .pointer (some ⟨t1, 0, none⟩)] 30)).alloc (.cells #[.pointer none] 30)) := by
    have h := heap_new (w2.alloc (.cells #[.pointer (some ⟨t0, 0, none⟩), .pointer (some ⟨t1, 0, none⟩)] 30)) (.cells #[.pointer none] 30)
    rw [World.size_alloc] at h
    exact h
  have hA : Below w2.heap.size w2 ((w2.alloc (.cells #[.pointer (some ⟨t0, 0, none⟩), .pointer (some ⟨t1, 0, none⟩)] 30)).alloc (.cells #[.pointer none] 30)) :=
    ((Below.refl _ _).alloc (Nat.le_refl _) _).alloc (by simp) _
  have hw3 : Below w.heap.size w ((w2.alloc (.cells #[.pointer (some ⟨t0, 0, none⟩), .pointer (some ⟨t1, 0, none⟩)] 30)).alloc (.cells #[.pointer none] 30)) := hw2.trans (hA.mono hw2.size)
  refine (builtin_any R b hR a (w2.heap.size + 1) w2.heap.size t0 t1 n _ h0 h1 (hE.below hw3 hE.size) hV hP (heap_below hA hT0 (heap_lt hT0)) (heap_below hA htt1 (heap_lt htt1))).mono ?_
  rintro e w4 ⟨rfl, ⟨t, hts, hset, htt⟩, hg⟩
  have hw4 : Below w.heap.size w w4 := hw3.trans (hg.below (by have := hw2.size; omega) (by have := hw2.size; simp; omega))
  have k0 : w4.cell? ⟨w2.heap.size + 1, 0, none⟩ = some (.pointer (some ⟨t, 0, none⟩)) := cell_at hset 0
  go_wp2_with (go_at_call 9; refine (isString_calls t _ w4 htt).mono ?_; rintro e w' ⟨rfl, rfl⟩)
  go_ret2
  exact ⟨rfl, hw4⟩
end Go.Proofs.YtpoepgnapneeaaaGreatDoor
