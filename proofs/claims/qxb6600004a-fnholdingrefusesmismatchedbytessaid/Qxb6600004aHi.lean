import Derived.Test.Qxb6600004aHh
namespace Go.Proofs.Qxb6600004a
open Go.RowKit
attribute [local go_sem] stC stC_one ldC ldC_two run_St57H

theorem Own57.below {g : Nat} {w w' : World} (h : Own57 g w) (hb : Below w.heap.size w w') : Own57 g w' := by
  obtain ⟨old, h, hs⟩ := h
  exact ⟨old, h.below hb h.lt, hs⟩
theorem Own57.got {g : Nat} {w : World} (h : Own57 g w) (c : Array Value) : Has g c 57 (w.setRow g c) := by
  obtain ⟨old, h, _⟩ := h
  exact h.set c

set_option maxRecDepth 100000 in
set_option maxHeartbeats 800000 in
theorem hlrun_some (b1 b6 b8 : Bool) (a2 a3 : Option Addr) (n2 c2 n3 c3 : Nat) (s4 s7 uk un : ByteArray) (i5 sz : Int) (w : World)
    (hr2 : ByteRow w a2 n2) (hr3 : ByteRow w a3 n3) (hn2 : n2 ≤ 1048576) (hn3 : n3 ≤ 1048576) :
    Calls Try.prog 32 #[.agg #[.bool false, .bool b1, .slice a2 n2 c2, .slice a3 n3 c3, .string s4, .int .i64 i5, .bool b6, .string s7, .bool b8], .string uk, .string un, .int .i64 sz] w
      fun e w' => ∃ d0 d1 t0 t1, d0.isNone = a2.isNone ∧ e = .returned (.agg (outC (holdF b1 d0 n2 n2 d1 n3 n3 s4 i5 b6 s7 b8 uk un sz) t0 t1)) ∧ t0.isNone = (holdF b1 d0 n2 n2 d1 n3 n3 s4 i5 b6 s7 b8 uk un sz).s0.isNone ∧ t1.isNone = (holdF b1 d0 n2 n2 d1 n3 n3 s4 i5 b6 s7 b8 uk un sz).s1.isNone ∧ Below w.heap.size w w' := by
  go_enter Try.func32, Try.ntmps32
  go_wp2_with fail
  refine (run42_some b1 a2 n2 c2 a3 n3 c3 s4 i5 b6 s7 b8 uk un sz _ ((hr2.alloc _).alloc _) ((hr3.alloc _).alloc _) hn2 hn3).mono ?_
  rintro e w1 ⟨d0, d1, t0, t1, hd0, rfl, ht0, ht1, hbel⟩
  have ho : Own57 (w.heap.size + 1) w1 := Own57.below ⟨_, heap_alloc2_new w _ _, rfl, rfl⟩ hbel
  have hw1 : Below w.heap.size w w1 := (((Below.refl _ _).alloc (Nat.le_refl _) _).alloc (by simp) _).trans (hbel.mono (by simp; omega))
  clear hbel
  have HG : Hid (∀ c : Array Value, Has (w.heap.size + 1) c 57 (w1.setRow (w.heap.size + 1) c) ∧ Below w.heap.size w (w1.setRow (w.heap.size + 1) c)) := fun c => ⟨ho.got c, below_setRow' hw1 (by omega) c⟩
  clear hw1
  have HX : Hid (∃ x, x.isNone = a2.isNone ∧ holdF b1 x n2 n2 d1 n3 n3 s4 i5 b6 s7 b8 uk un sz = holdF b1 d0 n2 n2 d1 n3 n3 s4 i5 b6 s7 b8 uk un sz) := ⟨d0, hd0, rfl⟩
  clear hd0
  generalize holdF b1 d0 n2 n2 d1 n3 n3 s4 i5 b6 s7 b8 uk un sz = H at *
  go_wp2
  obtain ⟨x, hx, hH⟩ := HX.out
  refine bodyPost_ret (v := .agg (outC H t0 t1)) ?_ rfl ⟨x, d1, t0, t1, hx, by rw [hH], by rw [hH]; exact ht0, by rw [hH]; exact ht1, (HG.out _).2⟩
  exact results_cell_row Try.results32 _ _ (w.heap.size + 1) 57 _ (0, 0) _ rfl (HG.out _).1 Try.underlying57 rfl Try.size57

set_option maxRecDepth 100000 in
set_option maxHeartbeats 800000 in
theorem hlrun_nil (b1 b6 b8 : Bool) (a2 a3 : Option Addr) (n2 c2 n3 c3 : Nat) (s4 s7 uk un : ByteArray) (i5 sz : Int) (w : World) :
    Calls Try.prog 32 #[.agg #[.bool true, .bool b1, .slice a2 n2 c2, .slice a3 n3 c3, .string s4, .int .i64 i5, .bool b6, .string s7, .bool b8], .string uk, .string un, .int .i64 sz] w
      fun e w' => ∃ t0 t1, e = .returned (.agg (outC (holdNil uk un) t0 t1)) ∧ t0.isNone = true ∧ t1.isNone = true ∧ Below w.heap.size w w' := by
  go_enter Try.func32, Try.ntmps32
  go_wp2_with fail
  refine (run42_nil b1 a2 n2 c2 a3 n3 c3 s4 i5 b6 s7 b8 uk un sz _).mono ?_
  rintro e w1 ⟨t0, t1, rfl, ht0, ht1, hbel⟩
  have ho : Own57 (w.heap.size + 1) w1 := Own57.below ⟨_, heap_alloc2_new w _ _, rfl, rfl⟩ hbel
  have hw1 : Below w.heap.size w w1 := (((Below.refl _ _).alloc (Nat.le_refl _) _).alloc (by simp) _).trans (hbel.mono (by simp; omega))
  clear hbel
  have HG : Hid (∀ c : Array Value, Has (w.heap.size + 1) c 57 (w1.setRow (w.heap.size + 1) c) ∧ Below w.heap.size w (w1.setRow (w.heap.size + 1) c)) := fun c => ⟨ho.got c, below_setRow' hw1 (by omega) c⟩
  clear hw1
  have HX : Hid (∃ x y, x = uk ∧ y = un ∧ holdNil x y = holdNil uk un) := ⟨uk, un, rfl, rfl, rfl⟩
  generalize holdNil uk un = H at *
  go_wp2
  obtain ⟨x, y, hx, hy, hH⟩ := HX.out
  subst hx hy
  refine bodyPost_ret (v := .agg (outC H t0 t1)) ?_ rfl ⟨t0, t1, by rw [hH], ht0, ht1, (HG.out _).2⟩
  exact results_cell_row Try.results32 _ _ (w.heap.size + 1) 57 _ (0, 0) _ rfl (HG.out _).1 Try.underlying57 rfl Try.size57

end Go.Proofs.Qxb6600004a
