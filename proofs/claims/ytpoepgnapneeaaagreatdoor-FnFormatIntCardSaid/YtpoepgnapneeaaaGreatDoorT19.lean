/-
  builtinFormatInt in the bases 2, 8 and 16.
-/
import Derived.Test.YtpoepgnapneeaaaGreatDoorT18
namespace Go.Proofs.YtpoepgnapneeaaaGreatDoor
open Go.RowKit

set_option maxHeartbeats 400000 in
set_option maxRecDepth 100000 in
theorem builtin_two (a : Addr) (rb sb t0 t1 : Nat) (n : Int) (w : World) (h0 : -9007199254740992 < n) (h1 : n < 9007199254740992) (hE : Env a w)
    (hr : IsVar rb w) (hp : IsPair sb t0 t1 w) (ht0 : IsTerm t0 (.iface 51 (.string ⟨(Lib.itoa n).toArray⟩)) w) (ht1 : IsTerm t1 (.iface 51 (.string { data := #[50] })) w) :
    Calls Tryz.prog 15 #[.agg #[.nilIface], .slice (some ⟨sb, 0, none⟩) 2 2, .func (.func 19) #[] #[.pointer (some ⟨rb, 0, none⟩)]] w (BuiltPost rb (Pl.sdigs 0 n) w) := by
  have c0 : w.cell? ⟨sb, 0, none⟩ = some (.pointer (some ⟨t0, 0, none⟩)) := cell_at hp 0
  have c1 : w.cell? ⟨sb, 1, none⟩ = some (.pointer (some ⟨t1, 0, none⟩)) := cell_at hp 1
  have l0 := heap_lt hp
  have l1 := heap_lt ht0
  have l2 := heap_lt ht1
  have d0 : w.cell? ⟨t0, 0, none⟩ = some (.iface 51 (.string ⟨(Lib.itoa n).toArray⟩)) := cell_at ht0 0
  have d1 : w.cell? ⟨t1, 0, none⟩ = some (.iface 51 (.string { data := #[50] })) := cell_at ht1 0
  go_enter Tryz.func15, Tryz.ntmps15
  go_wp2_with (first | (go_at_call 20; refine (numberOperand _ _ _).mono ?_; rintro e w' ⟨rfl, rfl⟩))
  have hz0 : IsZero (w.heap.size + 1) ((w.alloc (.cells #[.nilIface] 49)).alloc (.cells #[.bool false, .slice none 0 0] 63)) := by
    have h := heap_new (w.alloc (.cells #[.nilIface] 49)) (.cells #[.bool false, .slice none 0 0] 63)
    rw [World.size_alloc] at h
    exact h
  have hw0 : Below w.heap.size w ((w.alloc (.cells #[.nilIface] 49)).alloc (.cells #[.bool false, .slice none 0 0] 63)) :=
    ((Below.refl _ _).alloc (Nat.le_refl _) _).alloc (by simp) _
  have hE0 := hE.below hw0 hE.size
  refine (setString_any a (w.heap.size + 1) n _ h0 h1 (by omega) hE0.eof hz0).mono ?_
  rintro e w1 ⟨rfl, hi1, hg1⟩
  have hw1 : Below w.heap.size w w1 := hw0.trans (hg1.below (by omega) (by simp; omega))
  have hE1 := hE.below hw1 hE.size
  go_wp2_with fail
  refine (text_int 2 0 (w.heap.size + 1) n (by unfold Radix; omega) w1 hi1 hE1.tab).mono ?_
  rintro e w2 ⟨rfl, hb2⟩
  have hw2 : Below w.heap.size w w2 := hw1.trans (hb2.mono hw1.size)
  go_wp2_with fail
  refine (internedString _ _).mono ?_
  rintro e w3 ⟨t, rfl, hts, htt, hb3⟩
  have hw3 : Below w.heap.size w w3 := hw2.trans (hb3.mono hw2.size)
  have hr3 : IsVar rb w3 := heap_below hw3 hr (heap_lt hr)
  have k0 : w3.cell? ⟨rb, 0, none⟩ = some (.pointer none) := cell_at hr3 0
  have kf : w3.frozen? ⟨rb, 0, none⟩ = false := free_at hr3 0
  go_wp2
  go_ret
  exact ⟨rfl, built_end hr3 hw3 (heap_lt hr) (Nat.le_trans hw2.size hts) htt⟩

set_option maxHeartbeats 400000 in
set_option maxRecDepth 100000 in
theorem builtin_eight (a : Addr) (rb sb t0 t1 : Nat) (n : Int) (w : World) (h0 : -9007199254740992 < n) (h1 : n < 9007199254740992) (hE : Env a w)
    (hr : IsVar rb w) (hp : IsPair sb t0 t1 w) (ht0 : IsTerm t0 (.iface 51 (.string ⟨(Lib.itoa n).toArray⟩)) w) (ht1 : IsTerm t1 (.iface 51 (.string { data := #[56] })) w) :
    Calls Tryz.prog 15 #[.agg #[.nilIface], .slice (some ⟨sb, 0, none⟩) 2 2, .func (.func 19) #[] #[.pointer (some ⟨rb, 0, none⟩)]] w (BuiltPost rb (Pl.sdigs 6 n) w) := by
  have c0 : w.cell? ⟨sb, 0, none⟩ = some (.pointer (some ⟨t0, 0, none⟩)) := cell_at hp 0
  have c1 : w.cell? ⟨sb, 1, none⟩ = some (.pointer (some ⟨t1, 0, none⟩)) := cell_at hp 1
  have l0 := heap_lt hp
  have l1 := heap_lt ht0
  have l2 := heap_lt ht1
  have d0 : w.cell? ⟨t0, 0, none⟩ = some (.iface 51 (.string ⟨(Lib.itoa n).toArray⟩)) := cell_at ht0 0
  have d1 : w.cell? ⟨t1, 0, none⟩ = some (.iface 51 (.string { data := #[56] })) := cell_at ht1 0
  go_enter Tryz.func15, Tryz.ntmps15
  go_wp2_with (first | (go_at_call 20; refine (numberOperand _ _ _).mono ?_; rintro e w' ⟨rfl, rfl⟩))
  have hz0 : IsZero (w.heap.size + 1) ((w.alloc (.cells #[.nilIface] 49)).alloc (.cells #[.bool false, .slice none 0 0] 63)) := by
    have h := heap_new (w.alloc (.cells #[.nilIface] 49)) (.cells #[.bool false, .slice none 0 0] 63)
    rw [World.size_alloc] at h
    exact h
  have hw0 : Below w.heap.size w ((w.alloc (.cells #[.nilIface] 49)).alloc (.cells #[.bool false, .slice none 0 0] 63)) :=
    ((Below.refl _ _).alloc (Nat.le_refl _) _).alloc (by simp) _
  have hE0 := hE.below hw0 hE.size
  refine (setString_any a (w.heap.size + 1) n _ h0 h1 (by omega) hE0.eof hz0).mono ?_
  rintro e w1 ⟨rfl, hi1, hg1⟩
  have hw1 : Below w.heap.size w w1 := hw0.trans (hg1.below (by omega) (by simp; omega))
  have hE1 := hE.below hw1 hE.size
  go_wp2_with fail
  refine (text_int 8 6 (w.heap.size + 1) n (by unfold Radix; omega) w1 hi1 hE1.tab).mono ?_
  rintro e w2 ⟨rfl, hb2⟩
  have hw2 : Below w.heap.size w w2 := hw1.trans (hb2.mono hw1.size)
  go_wp2_with fail
  refine (internedString _ _).mono ?_
  rintro e w3 ⟨t, rfl, hts, htt, hb3⟩
  have hw3 : Below w.heap.size w w3 := hw2.trans (hb3.mono hw2.size)
  have hr3 : IsVar rb w3 := heap_below hw3 hr (heap_lt hr)
  have k0 : w3.cell? ⟨rb, 0, none⟩ = some (.pointer none) := cell_at hr3 0
  have kf : w3.frozen? ⟨rb, 0, none⟩ = false := free_at hr3 0
  go_wp2
  go_ret
  exact ⟨rfl, built_end hr3 hw3 (heap_lt hr) (Nat.le_trans hw2.size hts) htt⟩

set_option maxHeartbeats 400000 in
set_option maxRecDepth 100000 in
theorem builtin_sixteen (a : Addr) (rb sb t0 t1 : Nat) (n : Int) (w : World) (h0 : -9007199254740992 < n) (h1 : n < 9007199254740992) (hE : Env a w)
    (hr : IsVar rb w) (hp : IsPair sb t0 t1 w) (ht0 : IsTerm t0 (.iface 51 (.string ⟨(Lib.itoa n).toArray⟩)) w) (ht1 : IsTerm t1 (.iface 51 (.string { data := #[49, 54] })) w) :
    Calls Tryz.prog 15 #[.agg #[.nilIface], .slice (some ⟨sb, 0, none⟩) 2 2, .func (.func 19) #[] #[.pointer (some ⟨rb, 0, none⟩)]] w (BuiltPost rb (Pl.sdigs 14 n) w) := by
  have c0 : w.cell? ⟨sb, 0, none⟩ = some (.pointer (some ⟨t0, 0, none⟩)) := cell_at hp 0
  have c1 : w.cell? ⟨sb, 1, none⟩ = some (.pointer (some ⟨t1, 0, none⟩)) := cell_at hp 1
  have l0 := heap_lt hp
  have l1 := heap_lt ht0
  have l2 := heap_lt ht1
  have d0 : w.cell? ⟨t0, 0, none⟩ = some (.iface 51 (.string ⟨(Lib.itoa n).toArray⟩)) := cell_at ht0 0
  have d1 : w.cell? ⟨t1, 0, none⟩ = some (.iface 51 (.string { data := #[49, 54] })) := cell_at ht1 0
  go_enter Tryz.func15, Tryz.ntmps15
  go_wp2_with (first | (go_at_call 20; refine (numberOperand _ _ _).mono ?_; rintro e w' ⟨rfl, rfl⟩))
  have hz0 : IsZero (w.heap.size + 1) ((w.alloc (.cells #[.nilIface] 49)).alloc (.cells #[.bool false, .slice none 0 0] 63)) := by
    have h := heap_new (w.alloc (.cells #[.nilIface] 49)) (.cells #[.bool false, .slice none 0 0] 63)
    rw [World.size_alloc] at h
    exact h
  have hw0 : Below w.heap.size w ((w.alloc (.cells #[.nilIface] 49)).alloc (.cells #[.bool false, .slice none 0 0] 63)) :=
    ((Below.refl _ _).alloc (Nat.le_refl _) _).alloc (by simp) _
  have hE0 := hE.below hw0 hE.size
  refine (setString_any a (w.heap.size + 1) n _ h0 h1 (by omega) hE0.eof hz0).mono ?_
  rintro e w1 ⟨rfl, hi1, hg1⟩
  have hw1 : Below w.heap.size w w1 := hw0.trans (hg1.below (by omega) (by simp; omega))
  have hE1 := hE.below hw1 hE.size
  go_wp2_with fail
  refine (text_int 16 14 (w.heap.size + 1) n (by unfold Radix; omega) w1 hi1 hE1.tab).mono ?_
  rintro e w2 ⟨rfl, hb2⟩
  have hw2 : Below w.heap.size w w2 := hw1.trans (hb2.mono hw1.size)
  go_wp2_with fail
  refine (internedString _ _).mono ?_
  rintro e w3 ⟨t, rfl, hts, htt, hb3⟩
  have hw3 : Below w.heap.size w w3 := hw2.trans (hb3.mono hw2.size)
  have hr3 : IsVar rb w3 := heap_below hw3 hr (heap_lt hr)
  have k0 : w3.cell? ⟨rb, 0, none⟩ = some (.pointer none) := cell_at hr3 0
  have kf : w3.frozen? ⟨rb, 0, none⟩ = false := free_at hr3 0
  go_wp2
  go_ret
  exact ⟨rfl, built_end hr3 hw3 (heap_lt hr) (Nat.le_trans hw2.size hts) htt⟩
end Go.Proofs.YtpoepgnapneeaaaGreatDoor
