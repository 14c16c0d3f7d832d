import Derived.Test.Qxb6600004aLg
namespace Go.Proofs.Qxb6600004a
open Go.RowKit
open LO

set_option maxRecDepth 100000 in
set_option maxHeartbeats 1000000 in
theorem law5_no (o t : Int) (nb nf c1 c2 : Nat) (a1 a2 : Option Addr) (w : World) (h0 : ¬ nb + nf ≤ 1048576) :
    Calls Try.prog 5 #[.int .i64 o, .slice a1 nb c1, .slice a2 nf c2, .int .i64 t] w fun e w' => e = .returned (.bool true) ∧ Below w.heap.size w w' := by
  go_enter Try.func5, Try.ntmps5
  go_wp2_with fail
  refine (zz19_no o t a1 a2 nb c1 nf c2 w h0).mono ?_
  rintro e w' ⟨rfl, rfl⟩
  go_wp2
  go_ret
  exact ⟨rfl, Below.refl _ _⟩
set_option maxRecDepth 100000 in
set_option maxHeartbeats 1000000 in
theorem law5_big (o t : Int) (nb nf c1 c2 : Nat) (a1 a2 : Option Addr) (w : World) (h0 : nb + nf ≤ 1048576) (h : ¬ (nb ≤ 4096 ∧ nf ≤ 4096 ∧ 16 * nb + 24 * nf ≤ 1048576)) :
    Calls Try.prog 5 #[.int .i64 o, .slice a1 nb c1, .slice a2 nf c2, .int .i64 t] w fun e w' => e = .returned (.bool true) ∧ Below w.heap.size w w' := by
  go_enter Try.func5, Try.ntmps5
  go_wp2_with fail
  refine (zz19_yes o t a1 a2 nb c1 nf c2 w h0).mono ?_
  rintro e w' ⟨rfl, rfl⟩
  go_wp2_with fail
  refine (big12_yes a1 a2 nb c1 nf c2 w h0 h).mono ?_
  rintro e w' ⟨rfl, rfl⟩
  go_wp2
  go_ret
  exact ⟨rfl, Below.refl _ _⟩

theorem law5 (o t : Int) (nb nf c1 c2 : Nat) (a1 a2 : Option Addr) (bS bA fS fA fP : Nat → Int) (w : World)
    (z1 : a1 = none → nb = 0) (z2 : a2 = none → nf = 0) (r1 : RowB w a1 nb bS bA) (r2 : RowF w a2 nf fS fA fP) :
    Calls Try.prog 5 #[.int .i64 o, .slice a1 nb c1, .slice a2 nf c2, .int .i64 t] w fun e w' => e = .returned (.bool true) ∧ Below w.heap.size w w' := by
  by_cases h0 : nb + nf ≤ 1048576
  · by_cases h : nb ≤ 4096 ∧ nf ≤ 4096 ∧ 16 * nb + 24 * nf ≤ 1048576
    · exact law5_main o t nb nf c1 c2 a1 a2 bS bA fS fA fP w h0 h.1 h.2.1 h.2.2 z1 z2 r1 r2
    · exact law5_big o t nb nf c1 c2 a1 a2 w h0 h
  · exact law5_no o t nb nf c1 c2 a1 a2 w h0

end Go.Proofs.Qxb6600004a
