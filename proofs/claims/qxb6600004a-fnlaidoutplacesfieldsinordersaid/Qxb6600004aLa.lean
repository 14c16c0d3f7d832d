import Derived.Test.Qxb6600004aProg
import Derived.WalkKit
import Derived.WalkSpells
import Derived.WalkLawsBesides
import Derived.Deep.RegionHeld3
import Derived.Deep.DrawnRows
import Derived.Deep.WholeRow
import Derived.Deep.Cut
import Derived.BigQuiet
import Derived.BigRegion
namespace Go.Proofs.Qxb6600004a
open Go.RowKit

namespace LO
/-- roundUp -/
def ru (n a : Int) : Int := (n + a - 1) / a * a
theorem ru_ge {n a : Int} (ha : 1 ≤ a) : n ≤ ru n a := by
  unfold ru
  have h1 := Int.emod_add_mul_ediv (n + a - 1) a
  have h2 := Int.emod_lt_of_pos (n + a - 1) (show 0 < a by omega)
  have h3 : a * ((n + a - 1) / a) = (n + a - 1) / a * a := Int.mul_comm _ _
  omega
theorem ru_le {n a : Int} (ha : 1 ≤ a) : ru n a ≤ n + a - 1 := Int.ediv_mul_le _ (by omega)
theorem ru_mod {n a : Int} : ru n a % a = 0 := by unfold ru; exact Int.mul_emod_left _ _
theorem ru_one (n : Int) : ru n 1 = n := by unfold ru; omega
theorem ru_zero {a : Int} (ha : 1 ≤ a) : ru 0 a = 0 := by
  unfold ru
  rw [show (0 : Int) + a - 1 = a - 1 by omega, Int.ediv_eq_zero_of_lt (by omega) (by omega)]
  omega

/-- Block g holds just these cells, and none is frozen. -/
def Has (g : Nat) (cs : Array Value) (t : TypeId) (w : World) : Prop := w.heap[g]? = some (.cells cs t (0, 0))
theorem Has.drew {g : Nat} {cs : Array Value} {t : TypeId} {w : World} (h : Has g cs t w) : Has g cs t w.drew := h
theorem Has.lt {g : Nat} {cs : Array Value} {t : TypeId} {w : World} (h : Has g cs t w) : g < w.heap.size := (Array.getElem?_eq_some_iff.1 h).1
theorem Has.alloc {g : Nat} {cs : Array Value} {t : TypeId} {w : World} (h : Has g cs t w) (o : Obj) : Has g cs t (w.alloc o) := (Below.heap_alloc w o g h.lt).trans h
theorem Has.new (cs : Array Value) (t : TypeId) (w : World) : Has w.heap.size cs t (w.alloc (.cells cs t)) := heap_alloc_last w _
theorem Has.below {B g : Nat} {cs : Array Value} {t : TypeId} {w w' : World} (h : Has g cs t w) (hb : Below B w w') (hg : g < B) : Has g cs t w' := (hb.block g hg).trans h
theorem Has.cell {g : Nat} {cs : Array Value} {t : TypeId} {w : World} (h : Has g cs t w) (j : Nat) : w.cell? ⟨g, j, none⟩ = cs[j]? := cell_of_row w g j cs t (0, 0) h
theorem Has.free {g : Nat} {cs : Array Value} {t : TypeId} {w : World} (h : Has g cs t w) (j : Nat) : w.frozen? ⟨g, j, none⟩ = false := frozen_of_row w g j cs t h
theorem Has.setCell {g : Nat} {cs : Array Value} {t : TypeId} {w : World} (h : Has g cs t w) (j : Nat) (v : Value) : Has g (cs.setIfInBounds j v) t (w.setCell ⟨g, j, none⟩ v) := by
  rw [setCell_eq_setRow w g j cs t (0, 0) v h]
  exact setRow_heap w g cs _ t (0, 0) h
theorem Has.other {g : Nat} {cs : Array Value} {t : TypeId} {w : World} (h : Has g cs t w) {k j : Nat} (hk : g ≠ k) (v : Value) : Has g cs t (w.setCell ⟨k, j, none⟩ v) := (Below.heap_setCell w ⟨k, j, none⟩ v g hk).trans h

/-- The three captured variables. -/
structure Cap (be ba bl : Nat) (e al : Int) (le : Bool) (w : World) : Prop where
  he : Has be #[.int .i64 e] 3 w
  ha : Has ba #[.int .i64 al] 3 w
  hl : Has bl #[.bool le] 4 w
  n1 : be ≠ ba
  n2 : be ≠ bl
  n3 : ba ≠ bl

/-- All but the captured variables is as it was. -/
structure Kp (be ba bl : Nat) (w w' : World) : Prop where
  os : w'.os = w.os
  tape : w'.tape = w.tape
  output : w'.output = w.output
  size : w.heap.size ≤ w'.heap.size
  block : ∀ k, k < w.heap.size → k ≠ be → k ≠ ba → k ≠ bl → w'.heap[k]? = w.heap[k]?

theorem Has.set1 {g : Nat} {u : Value} {t : TypeId} {w : World} (h : Has g #[u] t w) (v : Value) : Has g #[v] t (w.setCell ⟨g, 0, none⟩ v) := by
  have := h.setCell 0 v
  simpa using this
theorem place_world {be ba bl : Nat} {e al : Int} {le : Bool} {w : World} (hc : Cap be ba bl e al le w) (o : Obj) (v1 v2 : Int) (v3 : Bool) :
    Cap be ba bl v1 v2 v3 ((((w.setCell ⟨be, 0, none⟩ (.int .i64 v1)).setCell ⟨ba, 0, none⟩ (.int .i64 v2)).setCell ⟨bl, 0, none⟩ (.bool v3)).alloc o).drew ∧
    Kp be ba bl w ((((w.setCell ⟨be, 0, none⟩ (.int .i64 v1)).setCell ⟨ba, 0, none⟩ (.int .i64 v2)).setCell ⟨bl, 0, none⟩ (.bool v3)).alloc o).drew := by
  refine ⟨⟨?_, ?_, ?_, hc.n1, hc.n2, hc.n3⟩, ⟨rfl, rfl, rfl, ?_, ?_⟩⟩
  · exact ((((hc.he.set1 _).other hc.n1 _).other hc.n2 _).alloc _).drew
  · exact ((((hc.ha.other (Ne.symm hc.n1) _).set1 _).other hc.n3 _).alloc _).drew
  · exact ((((hc.hl.other (Ne.symm hc.n2) _).other (Ne.symm hc.n3) _).set1 _).alloc _).drew
  · simp
  · intro k hk k1 k2 k3
    show ((((w.setCell _ _).setCell _ _).setCell _ _).alloc _).heap[k]? = _
    rw [Below.heap_alloc _ _ k (by simpa using hk), Below.heap_setCell _ _ _ k k3, Below.heap_setCell _ _ _ k k2, Below.heap_setCell _ _ _ k k1]

/-- Go's max, as the walk writes it. -/
def mx (a b : Int) : Int := if a < b then b else a

end LO
open LO

/-! ### The guards -/
set_option maxHeartbeats 400000 in
theorem zz11_yes (o t : Int) (a1 a2 : Option Addr) (n1 c1 n2 c2 : Nat) (w : World) (h : n1 + n2 ≤ 1048576) :
    Calls Try.prog 11 #[.int .i64 o, .slice a1 n1 c1, .slice a2 n2 c2, .int .i64 t] w fun e w' => e = .returned (.bool true) ∧ w = w' := by
  go_enter Try.func11, Try.ntmps11
  go_wp2
  go_ret
  exact ⟨rfl, rfl⟩
set_option maxHeartbeats 400000 in
theorem zz11_no (o t : Int) (a1 a2 : Option Addr) (n1 c1 n2 c2 : Nat) (w : World) (h : ¬ n1 + n2 ≤ 1048576) :
    Calls Try.prog 11 #[.int .i64 o, .slice a1 n1 c1, .slice a2 n2 c2, .int .i64 t] w fun e w' => e = .returned (.bool false) ∧ w = w' := by
  go_enter Try.func11, Try.ntmps11
  go_wp2
  all_goals (go_ret; exact ⟨rfl, rfl⟩)
set_option maxHeartbeats 400000 in
theorem zz19_yes (o t : Int) (a1 a2 : Option Addr) (n1 c1 n2 c2 : Nat) (w : World) (h : n1 + n2 ≤ 1048576) :
    Calls Try.prog 19 #[.int .i64 o, .slice a1 n1 c1, .slice a2 n2 c2, .int .i64 t] w fun e w' => e = .returned (.bool true) ∧ w = w' := by
  go_enter Try.func19, Try.ntmps19
  go_wp2
  go_ret
  exact ⟨rfl, rfl⟩
set_option maxHeartbeats 400000 in
theorem zz19_no (o t : Int) (a1 a2 : Option Addr) (n1 c1 n2 c2 : Nat) (w : World) (h : ¬ n1 + n2 ≤ 1048576) :
    Calls Try.prog 19 #[.int .i64 o, .slice a1 n1 c1, .slice a2 n2 c2, .int .i64 t] w fun e w' => e = .returned (.bool false) ∧ w = w' := by
  go_enter Try.func19, Try.ntmps19
  go_wp2
  all_goals (go_ret; exact ⟨rfl, rfl⟩)
set_option maxHeartbeats 400000 in
theorem big12_no (a1 a2 : Option Addr) (n1 c1 n2 c2 : Nat) (w : World) (h1 : n1 ≤ 4096) (h2 : n2 ≤ 4096) (h3 : 16 * n1 + 24 * n2 ≤ 1048576) :
    Calls Try.prog 12 #[.slice a1 n1 c1, .slice a2 n2 c2] w fun e w' => e = .returned (.bool false) ∧ w = w' := by
  have d1 : decide ((4096 : Int) < (n1 : Int)) = false := decide_eq_false (by omega)
  have d2 : decide ((4096 : Int) < (n2 : Int)) = false := decide_eq_false (by omega)
  have d3 : decide ((1048576 : Int) < 16 * (n1 : Int) + 24 * (n2 : Int)) = false := decide_eq_false (by omega)
  go_enter Try.func12, Try.ntmps12
  go_wp2
  go_ret
  exact ⟨rfl, rfl⟩
set_option maxHeartbeats 400000 in
theorem big12_yes (a1 a2 : Option Addr) (n1 c1 n2 c2 : Nat) (w : World) (h0 : n1 + n2 ≤ 1048576) (h : ¬ (n1 ≤ 4096 ∧ n2 ≤ 4096 ∧ 16 * n1 + 24 * n2 ≤ 1048576)) :
    Calls Try.prog 12 #[.slice a1 n1 c1, .slice a2 n2 c2] w fun e w' => e = .returned (.bool true) ∧ w = w' := by
  by_cases h1 : n1 ≤ 4096
  · have d1 : decide ((4096 : Int) < (n1 : Int)) = false := decide_eq_false (by omega)
    by_cases h2 : n2 ≤ 4096
    · have d2 : decide ((4096 : Int) < (n2 : Int)) = false := decide_eq_false (by omega)
      have d3 : decide ((1048576 : Int) < 16 * (n1 : Int) + 24 * (n2 : Int)) = true := decide_eq_true (by omega)
      go_enter Try.func12, Try.ntmps12
      go_wp2
      go_ret
      exact ⟨rfl, rfl⟩
    · have d2 : decide ((4096 : Int) < (n2 : Int)) = true := decide_eq_true (by omega)
      go_enter Try.func12, Try.ntmps12
      go_wp2
      go_ret
      exact ⟨rfl, rfl⟩
  · have d1 : decide ((4096 : Int) < (n1 : Int)) = true := decide_eq_true (by omega)
    go_enter Try.func12, Try.ntmps12
    go_wp2
    go_ret
    exact ⟨rfl, rfl⟩

/-! ### roundUp and the closure -/
set_option maxHeartbeats 400000 in
theorem ru52 (n a : Int) (w : World) (h0 : 0 ≤ n) (h1 : n ≤ 2147483648) (h2 : 1 ≤ a) (h3 : a ≤ 2147483648) :
    Calls Try.prog 52 #[.int .i64 n, .int .i64 a] w fun e w' => e = .returned (.int .i64 (ru n a)) ∧ w = w' := by
  have hq : (n + a - 1) / a * a ≤ n + a - 1 := Int.ediv_mul_le _ (by omega)
  have hq0 : 0 ≤ (n + a - 1) / a := Int.ediv_nonneg (by omega) (by omega)
  have hq1 : 0 ≤ (n + a - 1) / a * a := Int.mul_nonneg hq0 (by omega)
  go_enter Try.func52, Try.ntmps52
  go_wp2
  go_ret
  exact ⟨rfl, rfl⟩

set_option maxHeartbeats 400000 in
theorem place51 (sz a e al : Int) (le : Bool) (be ba bl : Nat) (w : World) (hc : Cap be ba bl e al le w)
    (h0 : 0 ≤ e) (h1 : e ≤ 1073741824) (h2 : 1 ≤ a) (h3 : a ≤ 1073741824) (h4 : 0 ≤ sz) (h5 : sz ≤ 1073741824) :
    Calls Try.prog 51 #[.agg #[.int .i64 sz, .int .i64 a], .pointer (some ⟨be, 0, none⟩), .pointer (some ⟨ba, 0, none⟩), .pointer (some ⟨bl, 0, none⟩)] w
      fun x w' => x = .returned (.int .i64 (ru e a)) ∧ Cap be ba bl (ru e a + sz) (mx al a) (sz == 0) w' ∧ Kp be ba bl w w' := by
  have r1 := ru_ge (n := e) h2
  have r2 := ru_le (n := e) h2
  have hbe := hc.he.cell 0
  have hba := hc.ha.cell 0
  have hbl := hc.hl.cell 0
  simp only [List.getElem?_toArray, List.getElem?_cons_zero] at hbe hba hbl
  have fe := hc.he.free 0
  have fa := hc.ha.free 0
  have fl := hc.hl.free 0
  have le1 := hc.he.lt
  have le2 := hc.ha.lt
  have le3 := hc.hl.lt
  have n1 := hc.n1
  have n2 := hc.n2
  have n3 := hc.n3
  have HC : Hid (Cap be ba bl e al le w) := hc
  clear hc
  go_enter Try.func51, Try.ntmps51
  go_wp2_with (go_at_call 52; refine (ru52 e a _ (by omega) (by omega) (by omega) (by omega)).mono ?_; rintro x w' ⟨rfl, rfl⟩)
  go_region
  rw [show (if al < a then a else al) = mx al a from rfl]
  obtain ⟨m, hm⟩ : ∃ m, m = mx al a := ⟨_, rfl⟩
  rw [← hm]
  have HM : Hid (m = mx al a) := hm
  clear hm
  go_wp2
  go_ret
  have := place_world HC.out (.cells #[.int .i64 sz, .int .i64 a] 92) (ru e a + sz) m (sz == 0)
  exact ⟨rfl, by rw [← HM.out]; exact this.1, this.2⟩

end Go.Proofs.Qxb6600004a
