import Derived.Test.Qxb6600004aHj
namespace Go.Proofs.Qxb6600004a
open Go.RowKit

set_option maxHeartbeats 400000 in
theorem same33 (w : World) : Calls Try.prog 33 #[.slice none 0 0, .slice none 0 0] w fun e w' => e = .returned (.bool true) ∧ w = w' := by
  have q50 : ∀ (w : World) (a : Option Addr) (n c n' c' : Nat), (binOp .eql 50 (.slice a n c) (.slice none n' c')).run Try.prog w = .ok (.bool a.isNone) w := fun w a n c n' c' => Lib.run_eql_slice_nil w _ _ a n c n' c' Try.underlying50
  go_enter Try.func33, Try.ntmps33
  go_wp2
  refine wp_loop_rounds 1 ?_
  rw [rounds_succ]
  go_wp2
  go_ret
  exact ⟨rfl, rfl⟩

/-- A refused holding, as plain data. -/
abbrev refC (uk un : ByteArray) (wd : Bool) : Array Value := outC ⟨uk, un, uk, un, ⟨#[]⟩, ⟨#[]⟩, wd, none, 0, 0, none, 0, 0, ⟨#[]⟩, 0⟩ none none

set_option maxRecDepth 100000 in
set_option maxHeartbeats 800000 in
theorem same34 (uk un : ByteArray) (wd : Bool) (w : World) :
    Calls Try.prog 34 #[.agg (refC uk un wd), .agg (refC uk un wd)] w fun e w' => e = .returned (.bool true) ∧ Below w.heap.size w w' := by
  go_enter Try.func34, Try.ntmps34
  go_wp2_with (go_at_call 33; refine (same33 _).mono ?_; rintro e w' ⟨rfl, rfl⟩)
  go_ret
  exact ⟨by simp, ((Below.refl _ _).alloc (Nat.le_refl _) _).alloc (by simp) _⟩

end Go.Proofs.Qxb6600004a
