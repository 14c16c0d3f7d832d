import Derived.Test.Qxb6600004aProg
import Derived.WalkKit
import Derived.WalkSpells
import Derived.WalkLawsBesides
namespace Go.Proofs.Qxb6600004a
open Go.RowKit

/-- A slice of bytes as the walk wants it: it is empty, or it leads to 'n' cells that hold bytes. -/
def ByteRow (w : World) (a : Option Addr) (n : Nat) : Prop :=
  n = 0 ∨ ∃ b off, ∃ f : Nat → Int, a = some ⟨b, off, none⟩ ∧ b < w.heap.size ∧ ∀ i, i < n → w.cell? ⟨b, off + i, none⟩ = some (.int .u8 (f i))

set_option maxHeartbeats 400000 in
theorem zz36_yes (b0 b1 b6 b8 : Bool) (a2 a3 : Option Addr) (n2 c2 n3 c3 : Nat) (s4 s7 uk un : ByteArray) (i5 sz : Int) (w : World)
    (h : n2 + n3 + s4.size + s7.size + uk.size + un.size ≤ 1048576) :
    Calls Try.prog 36 #[.agg #[.bool b0, .bool b1, .slice a2 n2 c2, .slice a3 n3 c3, .string s4, .int .i64 i5, .bool b6, .string s7, .bool b8], .string uk, .string un, .int .i64 sz] w
      fun e w' => e = .returned (.bool true) ∧ Below w.heap.size w w' := by
  go_enter Try.func36, Try.ntmps36
  go_wp2
  go_ret
  exact ⟨rfl, (Below.refl _ _).alloc (Nat.le_refl _) _⟩

set_option maxHeartbeats 400000 in
theorem zz36_no (b0 b1 b6 b8 : Bool) (a2 a3 : Option Addr) (n2 c2 n3 c3 : Nat) (s4 s7 uk un : ByteArray) (i5 sz : Int) (w : World)
    (h : ¬ n2 + n3 + s4.size + s7.size + uk.size + un.size ≤ 1048576) :
    Calls Try.prog 36 #[.agg #[.bool b0, .bool b1, .slice a2 n2 c2, .slice a3 n3 c3, .string s4, .int .i64 i5, .bool b6, .string s7, .bool b8], .string uk, .string un, .int .i64 sz] w
      fun e w' => e = .returned (.bool false) ∧ Below w.heap.size w w' := by
  go_enter Try.func36, Try.ntmps36
  go_wp2
  all_goals
    go_ret
    exact ⟨rfl, (Below.refl _ _).alloc (Nat.le_refl _) _⟩

set_option maxHeartbeats 400000 in
theorem zz35_yes (b0 b1 b6 b8 : Bool) (a2 a3 : Option Addr) (n2 c2 n3 c3 : Nat) (s4 s7 uk un : ByteArray) (i5 sz : Int) (w : World)
    (h : n2 + n3 + s4.size + s7.size + uk.size + un.size ≤ 1048576) :
    Calls Try.prog 35 #[.agg #[.bool b0, .bool b1, .slice a2 n2 c2, .slice a3 n3 c3, .string s4, .int .i64 i5, .bool b6, .string s7, .bool b8], .string uk, .string un, .int .i64 sz] w
      fun e w' => e = .returned (.bool true) ∧ Below w.heap.size w w' := by
  go_enter Try.func35, Try.ntmps35
  go_wp2
  go_ret
  exact ⟨rfl, (Below.refl _ _).alloc (Nat.le_refl _) _⟩

set_option maxHeartbeats 400000 in
theorem zz35_no (b0 b1 b6 b8 : Bool) (a2 a3 : Option Addr) (n2 c2 n3 c3 : Nat) (s4 s7 uk un : ByteArray) (i5 sz : Int) (w : World)
    (h : ¬ n2 + n3 + s4.size + s7.size + uk.size + un.size ≤ 1048576) :
    Calls Try.prog 35 #[.agg #[.bool b0, .bool b1, .slice a2 n2 c2, .slice a3 n3 c3, .string s4, .int .i64 i5, .bool b6, .string s7, .bool b8], .string uk, .string un, .int .i64 sz] w
      fun e w' => e = .returned (.bool false) ∧ Below w.heap.size w w' := by
  go_enter Try.func35, Try.ntmps35
  go_wp2
  all_goals
    go_ret
    exact ⟨rfl, (Below.refl _ _).alloc (Nat.le_refl _) _⟩

set_option maxHeartbeats 400000 in
theorem small30 (b0 b1 b6 b8 : Bool) (a2 a3 : Option Addr) (n2 c2 n3 c3 : Nat) (s4 s7 uk un : ByteArray) (i5 : Int) (w : World)
    (h : n2 + n3 + s4.size + s7.size + uk.size + un.size ≤ 1048576) :
    Calls Try.prog 30 #[.agg #[.bool b0, .bool b1, .slice a2 n2 c2, .slice a3 n3 c3, .string s4, .int .i64 i5, .bool b6, .string s7, .bool b8], .string uk, .string un] w
      fun e w' => e = .returned (.bool false) ∧ Below w.heap.size w w' := by
  have d1 : decide ((1048576 : Int) < (n2 : Int)) = false := decide_eq_false (by omega)
  have d2 : decide ((1048576 : Int) < (n3 : Int)) = false := decide_eq_false (by omega)
  have d3 : decide ((1048576 : Int) < (s4.size : Int)) = false := decide_eq_false (by omega)
  have d4 : decide ((1048576 : Int) < (s7.size : Int)) = false := decide_eq_false (by omega)
  have d5 : decide ((1048576 : Int) < (uk.size : Int)) = false := decide_eq_false (by omega)
  have d6 : decide ((1048576 : Int) < (un.size : Int)) = false := decide_eq_false (by omega)
  go_enter Try.func30, Try.ntmps30
  go_wp2
  go_ret
  refine ⟨?_, (Below.refl _ _).alloc (Nat.le_refl _) _⟩
  simp
  omega

end Go.Proofs.Qxb6600004a
