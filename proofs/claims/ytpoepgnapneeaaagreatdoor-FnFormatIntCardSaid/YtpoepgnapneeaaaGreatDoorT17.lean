/-
  builtinFormatInt in base 10.
-/
import Derived.Test.YtpoepgnapneeaaaGreatDoorT13
import Derived.Test.YtpoepgnapneeaaaGreatDoorT14
import Derived.Test.YtpoepgnapneeaaaGreatDoorT15
namespace Go.Proofs.YtpoepgnapneeaaaGreatDoor
open Go.RowKit

/-- The package variables that the road reads. -/
structure Env (a : Addr) (w : World) : Prop where
  eof : w.cell? ⟨0, 0, none⟩ = some (.iface 261 (.pointer (some a)))
  tab : Tab w
  pow : Lib.TabIs Tryz.prog w "internal/strconv.uint64pow10" .u64 Lib.pow10Tab
  size : 19 ≤ w.heap.size

theorem g13 : Tryz.prog.globalNamed "internal/strconv.uint64pow10" = some 13 := by kernel_rfl

theorem Env.keeps {a : Addr} {w w' : World} (h : Env a w) (hb : ∀ k, k < 19 → w'.heap[k]? = w.heap[k]?) (hs : w.heap.size ≤ w'.heap.size) : Env a w' := by
  obtain ⟨h1, ⟨t1, t2, t3, t4⟩, h3, h4⟩ := h
  refine ⟨?_, ⟨?_, ?_, ?_, by omega⟩, ?_, by omega⟩
  · rw [← h1]; exact World.cell?_of_block (hb 0 (by decide))
  · rw [← t1]; exact World.cell?_of_block (hb 7 (by decide))
  · rw [← t2]; exact World.cell?_of_block (hb 7 (by decide))
  · rw [← t3]; exact World.cell?_of_block (hb 7 (by decide))
  · unfold Lib.TabIs World.var? at h3 ⊢
    rw [g13] at h3 ⊢
    simp only [Option.bind_some] at h3 ⊢
    rw [hb 13 (by decide)]; exact h3

theorem Env.below {a : Addr} {B : Nat} {w w' : World} (h : Env a w) (hb : Below B w w') (hB : 19 ≤ B) : Env a w' :=
  h.keeps (fun k hk => hb.block k (by omega)) hb.size
theorem Env.chg {a : Addr} {c : Nat} {w w' : World} (h : Env a w) (hb : Chg c w w') (hc : 19 ≤ c) : Env a w' :=
  h.keeps (fun k hk => hb.block k (by have := h.size; omega) (by omega)) hb.size

/-- Block b is the captured variable r, nil. -/
def IsVar (b : Nat) (w : World) : Prop := w.heap[b]? = some (.cells #[.pointer none] 30 (0, 0))
/-- Block b is the captured variable r, a pointer to block t. -/
def IsSet (b t : Nat) (w : World) : Prop := w.heap[b]? = some (.cells #[.pointer (some ⟨t, 0, none⟩)] 30 (0, 0))
/-- Block b is the row of operands, pointers to the blocks t0 and t1. -/
def IsPair (b t0 t1 : Nat) (w : World) : Prop := w.heap[b]? = some (.cells #[.pointer (some ⟨t0, 0, none⟩), .pointer (some ⟨t1, 0, none⟩)] 30 (0, 0))

/-- What a built-in function leaves: nil; in r a term that holds the string l. -/
def BuiltPost (rb : Nat) (l : List UInt8) (w : World) (e : Ending) (w' : World) : Prop :=
  e = .returned .nilIface ∧ (∃ t, w.heap.size ≤ t ∧ IsSet rb t w' ∧ IsTerm t (.iface 37 (.string ⟨l.toArray⟩)) w') ∧ Chg rb w w'

theorem Chg.ofBelow {c : Nat} {w w' : World} (h : Below w.heap.size w w') : Chg c w w' := ⟨h.os, h.tape, h.output, h.size, fun k hk _ => h.block k hk⟩

theorem built_end {rb t : Nat} {v : Value} {w w2 : World} (hr : IsVar rb w2) (hw : Below w.heap.size w w2) (hrb : rb < w.heap.size) (ht : w.heap.size ≤ t) (htt : IsTerm t v w2) :
    (∃ t', w.heap.size ≤ t' ∧ IsSet rb t' (w2.setCell ⟨rb, 0, none⟩ (.pointer (some ⟨t, 0, none⟩))) ∧ IsTerm t' v (w2.setCell ⟨rb, 0, none⟩ (.pointer (some ⟨t, 0, none⟩)))) ∧ Chg rb w (w2.setCell ⟨rb, 0, none⟩ (.pointer (some ⟨t, 0, none⟩))) := by
  refine ⟨⟨t, ht, ?_, heap_other htt _ _ (by show t ≠ rb; omega)⟩, (Chg.ofBelow hw).setCell (a := ⟨rb, 0, none⟩) rfl _⟩
  have := heap_set hr 0 (.pointer (some ⟨t, 0, none⟩))
  unfold IsSet
  simpa using this

set_option maxHeartbeats 400000 in
set_option maxRecDepth 100000 in
theorem numInt (n : Int) (h0 : -9007199254740992 < n) (h1 : n < 9007199254740992) (w : World) :
    Calls Tryz.prog 22 #[.string ⟨(Lib.itoa n).toArray⟩] w (AtoiPost n w) := by
  have C : ∀ w, Calls Tryz.prog 59 #[.string ⟨(Lib.itoa n).toArray⟩] w (AtoiPost n w) := fun w => by
    by_cases hn : n < 0
    · obtain ⟨u, rfl⟩ : ∃ u : Nat, n = -(u : Int) := ⟨n.natAbs, by omega⟩
      exact atoi_neg _ u w (by omega) (by rw [Lib.itoa_neg u (by omega)])
    · obtain ⟨u, rfl⟩ : ∃ u : Nat, n = (u : Int) := ⟨n.toNat, by omega⟩
      exact atoi_pos _ u w (by omega) (by rw [Lib.itoa_nonneg u])
  have C := Lib.hid C
  go_enter Tryz.func22, Tryz.ntmps22
  go_wp2_with (first | (go_at_call 59; refine (C.out _).mono ?_; rintro e w1 ⟨rfl, hb⟩) | go_in)
  go_ret2
  exact ⟨rfl, hb⟩

set_option maxHeartbeats 400000 in
set_option maxRecDepth 100000 in
theorem builtin_ten (a : Addr) (rb sb t0 t1 : Nat) (n : Int) (w : World) (h0 : -9007199254740992 < n) (h1 : n < 9007199254740992) (hE : Env a w)
    (hr : IsVar rb w) (hp : IsPair sb t0 t1 w) (ht0 : IsTerm t0 (.iface 51 (.string ⟨(Lib.itoa n).toArray⟩)) w) (ht1 : IsTerm t1 (.iface 51 (.string { data := #[49, 48] })) w) :
    Calls Tryz.prog 15 #[.agg #[.nilIface], .slice (some ⟨sb, 0, none⟩) 2 2, .func (.func 19) #[] #[.pointer (some ⟨rb, 0, none⟩)]] w (BuiltPost rb (Lib.itoa n) w) := by
  have c0 : w.cell? ⟨sb, 0, none⟩ = some (.pointer (some ⟨t0, 0, none⟩)) := cell_at hp 0
  have c1 : w.cell? ⟨sb, 1, none⟩ = some (.pointer (some ⟨t1, 0, none⟩)) := cell_at hp 1
  have l0 := heap_lt hp
  have l1 := heap_lt ht0
  have l2 := heap_lt ht1
  have d0 : w.cell? ⟨t0, 0, none⟩ = some (.iface 51 (.string ⟨(Lib.itoa n).toArray⟩)) := cell_at ht0 0
  have d1 : w.cell? ⟨t1, 0, none⟩ = some (.iface 51 (.string { data := #[49, 48] })) := cell_at ht1 0
  go_enter Tryz.func15, Tryz.ntmps15
  go_wp2_with (first | (go_at_call 20; refine (numberOperand _ _ _).mono ?_; rintro e w' ⟨rfl, rfl⟩) | (go_at_call 21; go_in))
  refine (numInt n h0 h1 _).mono ?_
  rintro e w1 ⟨rfl, hb1⟩
  have hw1 : Below w.heap.size w w1 := ((Below.refl _ _).alloc (Nat.le_refl _) _).trans (hb1.mono (by simp))
  have hE1 : Env a w1 := hE.below hw1 hE.size
  go_wp2_with fail
  refine (intString_calls n (by omega) (by omega) w1 hE1.pow).mono ?_
  rintro e w2 ⟨t, rfl, hts, htt, hb2⟩
  have hw2 : Below w.heap.size w w2 := hw1.trans (hb2.mono hw1.size)
  have hr2 : IsVar rb w2 := heap_below hw2 hr (heap_lt hr)
  have k0 : w2.cell? ⟨rb, 0, none⟩ = some (.pointer none) := cell_at hr2 0
  have kf : w2.frozen? ⟨rb, 0, none⟩ = false := free_at hr2 0
  go_wp2
  go_ret
  exact ⟨rfl, built_end hr2 hw2 (heap_lt hr) (Nat.le_trans hw1.size hts) htt⟩
end Go.Proofs.YtpoepgnapneeaaaGreatDoor
