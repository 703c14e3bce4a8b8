/-
  The statements' alive: the upper case of one letter.
-/
import Derived.Test.YtpoepgnapneeaaaGreatDoorT20
namespace Go.Proofs.YtpoepgnapneeaaaGreatDoor
open Go.RowKit

theorem upper_a (w : World) : Calls Tryz.prog 33 #[.string { data := #[97] }] w fun e w' => e = .returned (.string { data := #[65] }) ∧ Below w.heap.size w w' :=
  (Tryz.strings_ToUpper_ascii { data := #[97] } w (by decide) (fun j b hj => by
    rcases j with _ | j
    · simp at hj; subst hj; decide
    · simp at hj)).mono fun _ _ ⟨he, hb⟩ => ⟨he, hb⟩

set_option maxHeartbeats 400000 in
set_option maxRecDepth 100000 in
theorem builtinUpper_a (rb sb t0 : Nat) (w : World) (hr : IsVar rb w) (hp : w.heap[sb]? = some (.cells #[.pointer (some ⟨t0, 0, none⟩)] 30 (0, 0))) (ht0 : IsTerm t0 (.iface 37 (.string { data := #[97] })) w) :
    Calls Tryz.prog 17 #[.agg #[.nilIface], .slice (some ⟨sb, 0, none⟩) 1 1, .func (.func 19) #[] #[.pointer (some ⟨rb, 0, none⟩)]] w (BuiltPost rb [65] w) := by
  have c0 : w.cell? ⟨sb, 0, none⟩ = some (.pointer (some ⟨t0, 0, none⟩)) := cell_at hp 0
  have l0 := heap_lt hp
  have l1 := heap_lt ht0
  have d0 : w.cell? ⟨t0, 0, none⟩ = some (.iface 37 (.string { data := #[97] })) := cell_at ht0 0
  go_enter Tryz.func17, Tryz.ntmps17
  go_wp2_with (go_at_call 32; refine (stringOperand _ _ _).mono ?_; rintro e w' ⟨rfl, rfl⟩)
  refine (upper_a _).mono ?_
  rintro e w2 ⟨rfl, hb2⟩
  have hw2 : Below w.heap.size w w2 := ((Below.refl _ _).alloc (Nat.le_refl _) _).trans (hb2.mono (by simp))
  go_wp2_with fail
  refine (internedString _ _).mono ?_
  rintro e w3 ⟨t, rfl, hts, htt, hb3⟩
  have hw3 : Below w.heap.size w w3 := hw2.trans (hb3.mono hw2.size)
  have hr3 : IsVar rb w3 := heap_below hw3 hr (heap_lt hr)
  have k0 : w3.cell? ⟨rb, 0, none⟩ = some (.pointer none) := cell_at hr3 0
  have kf : w3.frozen? ⟨rb, 0, none⟩ = false := free_at hr3 0
  go_wp2
  go_ret
  exact ⟨rfl, built_end hr3 hw3 (heap_lt hr) (Nat.le_trans hw2.size hts) htt⟩

set_option maxHeartbeats 400000 in
set_option maxRecDepth 100000 in
theorem alive_calls (w : World) : Calls Tryz.prog 4 #[] w fun e w' => e = .returned (.bool true) ∧ Below w.heap.size w w' := by
  have hmf : ∀ (fn : Fn) (first cap : Array Value) (w : World), (Instr.makeFunc fn first cap).run Tryz.prog w = .ok (.func fn first cap) w := fun _ _ _ _ => rfl
  go_enter Tryz.func4, Tryz.ntmps4
  go_wp2_with (go_at_call 8; go_in)
  refine (str_calls _ w).mono ?_
  rintro e w1 ⟨t0, rfl, hts0, htt0, hb1⟩
  go_wp2_with (first | (go_at_call 12; go_in) | (go_at_call 14; go_in))
  have hP : ((w1.alloc (.cells #[.pointer (some ⟨t0, 0, none⟩)] 30)).alloc (.cells #[.pointer none] 30)).heap[w1.heap.size]? = some (.cells #[.pointer (some ⟨t0, 0, none⟩)] 30 (0, 0)) :=
    heap_old (heap_new w1 _) _
  have hV : IsVar (w1.heap.size + 1) ((w1.alloc (.cells #[.pointer (some ⟨t0, 0, none⟩)] 30)).alloc (.cells #[.pointer none] 30)) := by
    have h := heap_new (w1.alloc (.cells #[.pointer (some ⟨t0, 0, none⟩)] 30)) (.cells #[.pointer none] 30)
    rw [World.size_alloc] at h
    exact h
  have hA : Below w1.heap.size w1 ((w1.alloc (.cells #[.pointer (some ⟨t0, 0, none⟩)] 30)).alloc (.cells #[.pointer none] 30)) :=
    ((Below.refl _ _).alloc (Nat.le_refl _) _).alloc (by simp) _
  have hw2 : Below w.heap.size w ((w1.alloc (.cells #[.pointer (some ⟨t0, 0, none⟩)] 30)).alloc (.cells #[.pointer none] 30)) := hb1.trans (hA.mono hb1.size)
  refine (builtinUpper_a (w1.heap.size + 1) w1.heap.size t0 _ hV hP (heap_below hA htt0 (heap_lt htt0))).mono ?_
  rintro e w3 ⟨rfl, ⟨t, hts, hset, htt⟩, hg⟩
  have hw3 : Below w.heap.size w w3 := hw2.trans (hg.below (by have := hb1.size; omega) (by have := hb1.size; simp; omega))
  have k0 : w3.cell? ⟨w1.heap.size + 1, 0, none⟩ = some (.pointer (some ⟨t, 0, none⟩)) := cell_at hset 0
  go_wp2_with (go_at_call 9; refine (isString_calls t _ w3 htt).mono ?_; rintro e w' ⟨rfl, rfl⟩)
  go_ret
  exact ⟨rfl, hw3⟩
end Go.Proofs.YtpoepgnapneeaaaGreatDoor
