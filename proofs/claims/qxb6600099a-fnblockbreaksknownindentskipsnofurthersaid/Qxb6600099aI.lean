import Derived.Test.Qxb6600099aH
import Derived.Deep.CutRange
namespace Go.Proofs.Qxb6600099a
open Go.RowKit

/-- The scanner's cells. -/
def scan (a : Option Addr) (n c : Nat) (p line col bi : Int) (st : Bool) : Array Value :=
  #[.slice a n c, .int .i64 p, .int .i64 line, .int .i64 col, .int .i64 0, .int .i64 bi, .slice none 0 0, .bool false, .bool false, .int .i64 0, .int .i64 0, .int .i64 0, .bool false, .bool st]

/-- What peek(0) answers. -/
def pk (T : Nat → Int) (n p : Nat) : Int := if p < n then T p else 0
def BytePost (v : Int) (w : World) (e : Ending) (w' : World) : Prop := e = .returned (.int .u8 v) ∧ Below w.heap.size w w'

set_option maxRecDepth 100000 in
set_option maxHeartbeats 400000 in
theorem peek33 (P p : Nat) (a : Option Addr) (n c : Nat) (T : Nat → Int) (w : World) (h0 : w.cell? ⟨P, 0, none⟩ = some (.slice a n c)) (h1 : w.cell? ⟨P, 1, none⟩ = some (.int .i64 (p : Int))) (r : RowT w a n T) (hp : p ≤ n) (hn : n ≤ 1048576) :
    Calls Try.prog 33 #[.pointer (some ⟨P, 0, none⟩), .int .i64 0] w (BytePost (pk T n p) w) := by
  by_cases h : p < n
  · rcases r.2 with hz | ⟨b, off, rfl, hb, hc⟩
    · omega
    have hcx := hc p h
    have hxx := r.1 p h
    have e : pk T n p = T p := if_pos h
    rw [e]
    generalize T p = x at *
    clear hc r
    go_enter Try.func33, Try.ntmps33
    go_wp2_with (go_quiet (fail))
    go_ret
    exact ⟨rfl, (Below.refl _ _).trans ⟨rfl, rfl, rfl, Nat.le_refl _, fun _ _ => rfl⟩⟩
  · have e : pk T n p = 0 := if_neg h
    rw [e]
    obtain rfl : p = n := by omega
    clear r
    go_enter Try.func33, Try.ntmps33
    go_wp2_with (go_quiet (fail))
    go_ret
    exact ⟨rfl, (Below.refl _ _).trans ⟨rfl, rfl, rfl, Nat.le_refl _, fun _ _ => rfl⟩⟩

/-- What the scanner's methods leave. -/
def ScanPost (P : Nat) (cs : Array Value) (w : World) (e : Ending) (w' : World) : Prop := e = .returned (.tuple #[]) ∧ Has P cs 46 w' ∧ Below P w w'

set_option maxRecDepth 100000 in
set_option maxHeartbeats 400000 in
theorem advance34 (P p line col : Nat) (bi : Int) (a : Option Addr) (n c : Nat) (T : Nat → Int) (w : World) (h : Has P (scan a n c p line col bi false) 46 w) (r : RowT w a n T) (hp : p < n) (ht : T p = 32) (hn : n ≤ 1048576) (hc : col ≤ 2147483648) :
    Calls Try.prog 34 #[.pointer (some ⟨P, 0, none⟩)] w (ScanPost P (scan a n c (p + 1 : Nat) line (col + 1 : Nat) bi false) w) := by
  rcases r.2 with hz | ⟨b, off, rfl, hb, hcc⟩
  · omega
  have hcx := hcc p hp
  rw [ht] at hcx
  have h0 : w.cell? ⟨P, 0, none⟩ = some (.slice (some ⟨b, off, none⟩) n c) := h.cell 0
  have h1 : w.cell? ⟨P, 1, none⟩ = some (.int .i64 p) := h.cell 1
  have h3 : w.cell? ⟨P, 3, none⟩ = some (.int .i64 col) := h.cell 3
  have f1 := h.free 1
  have f3 := h.free 3
  have HH : Hid (Has P (scan (some ⟨b, off, none⟩) n c p line col bi false) 46 w) := h
  clear h hcc r ht
  go_enter Try.func34, Try.ntmps34
  go_wp2_with (go_quiet (fail))
  obtain ⟨w2, hw2, g0, g1, g3, k1, k3⟩ : ∃ w2, w2 = w.drewN nq ∧ w2.cell? ⟨P, 0, none⟩ = some (.slice (some ⟨b, off, none⟩) n c) ∧ w2.cell? ⟨P, 1, none⟩ = some (.int .i64 p) ∧ w2.cell? ⟨P, 3, none⟩ = some (.int .i64 col) ∧ w2.frozen? ⟨P, 1, none⟩ = false ∧ w2.frozen? ⟨P, 3, none⟩ = false := ⟨_, rfl, h0, h1, h3, f1, f3⟩
  have HB : Hid (Has P (scan (some ⟨b, off, none⟩) n c p line col bi false) 46 w2 ∧ Below P w w2) := by subst hw2; exact ⟨HH.out, ⟨rfl, rfl, rfl, Nat.le_refl _, fun _ _ => rfl⟩⟩
  rw [← hw2]
  clear hw2 h0 h1 h3 f1 f3 hcx HH
  go_region
  have HC : Hid (Has P (scan (some ⟨b, off, none⟩) n c ((p : Int) + 1) line col bi false) 46 (w2.setCell ⟨P, 1, none⟩ (.int .i64 ((p : Int) + 1))).drew ∧ Below P w (w2.setCell ⟨P, 1, none⟩ (.int .i64 ((p : Int) + 1))).drew) := ⟨HB.out.1.setCell 1 _, (HB.out.2.setCell (Nat.le_refl _) _).drew⟩
  clear HB g0 g1 g3 k1 k3
  generalize (w2.setCell ⟨P, 1, none⟩ (.int .i64 ((p : Int) + 1))).drew = w3 at *
  have h3 : w3.cell? ⟨P, 3, none⟩ = some (.int .i64 col) := HC.out.1.cell 3
  have f3 := HC.out.1.free 3
  go_wp2
  go_end0
  exact ⟨rfl, HC.out.1.setCell 3 _, HC.out.2.setCell (Nat.le_refl _) _⟩

set_option maxRecDepth 100000 in
set_option maxHeartbeats 400000 in
theorem newLine35 (P p line col m : Nat) (bi : Int) (a : Option Addr) (n c : Nat) (w : World) (h : Has P (scan a n c p line col bi false) 46 w) (hm : 0 < m) (hp : p + m ≤ 1048576) (hl : line ≤ 2147483648) :
    Calls Try.prog 35 #[.pointer (some ⟨P, 0, none⟩), .int .i64 (m : Int)] w (ScanPost P (scan a n c (p + m : Nat) (line + 1 : Nat) 0 bi false) w) := by
  have h1 : w.cell? ⟨P, 1, none⟩ = some (.int .i64 p) := h.cell 1
  have h2 : w.cell? ⟨P, 2, none⟩ = some (.int .i64 line) := h.cell 2
  have h3 : w.cell? ⟨P, 3, none⟩ = some (.int .i64 col) := h.cell 3
  have f1 := h.free 1
  have f2 := h.free 2
  have f3 := h.free 3
  have HH : Hid (Has P (scan a n c p line col bi false) 46 w) := h
  clear h
  go_enter Try.func35, Try.ntmps35
  go_wp2
  go_end0
  exact ⟨rfl, ((HH.out.setCell 1 _).setCell 2 _).setCell 3 _, (((Below.refl P w).setCell (p := ⟨P, 1, none⟩) (Nat.le_refl _) _).setCell (p := ⟨P, 2, none⟩) (Nat.le_refl _) _).setCell (p := ⟨P, 3, none⟩) (Nat.le_refl _) _⟩
end Go.Proofs.Qxb6600099a
