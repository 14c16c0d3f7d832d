import Derived.Test.Qxb6600004aLb
import Derived.ProofKit
import Derived.OpenShut
namespace Go.Proofs.Qxb6600004a
open Go.ChangeShapes Go.WideShapes Go.RowKit
open LO
section
variable {H : Type} {enc : TypeId × Value → H} {W : World} {base : Nat} {spare : Nat → Bool} {held : Bool}

theorem len2 {α : Type} {l : List α} (h : l.length = 2) : ∃ a b, l = [a, b] := by
  match l, h with
  | [a, b], _ => exact ⟨a, b, rfl⟩
theorem len3 {α : Type} {l : List α} (h : l.length = 3) : ∃ a b c, l = [a, b, c] := by
  match l, h with
  | [a, b, c], _ => exact ⟨a, b, c, rfl⟩

theorem fields32 {n : Nat} {cs : List Value} {y : DataW H × List MemPlace} (h : DataW.trod enc Try.prog W base spare held n 32 cs = some y) : ∃ s a : Int, cs = [.int .i64 s, .int .i64 a] := by
  obtain ⟨xs, m, _, _, hl, hlen, hF⟩ := DataW.trod_struct Try.underlying32 h
  have hC : Try.prog.cellsOf 32 = 2 := by kernel_rfl
  have z3 : Try.prog.cellsOf 3 = 1 := by kernel_rfl
  obtain ⟨c0, c1, rfl⟩ := len2 (hl.trans hC)
  obtain ⟨y0, y1, rfl⟩ := len2 (l := xs) (by simpa using hlen)
  have g0 : DataW.trod enc Try.prog W base spare held m 3 [c0] = some y0 := by have := hF 0 ⟨"Size", 3, 0, false, "", "", 0⟩ rfl; rwa [z3] at this
  have g1 : DataW.trod enc Try.prog W base spare held m 3 [c1] = some y1 := by have := hF 1 ⟨"Align", 3, 1, false, "", "", 8⟩ rfl; rwa [z3] at this
  obtain ⟨s, e0, _⟩ := DataW.trod_int Try.underlying3 g0
  obtain ⟨a, e1, _⟩ := DataW.trod_int Try.underlying3 g1
  simp only [List.cons.injEq, and_true] at e0 e1
  subst e0 e1
  exact ⟨s, a, rfl⟩
theorem fields34 {n : Nat} {cs : List Value} {y : DataW H × List MemPlace} (h : DataW.trod enc Try.prog W base spare held n 34 cs = some y) : ∃ s a p : Int, cs = [.int .i64 s, .int .i64 a, .int .i64 p] := by
  obtain ⟨xs, m, _, _, hl, hlen, hF⟩ := DataW.trod_struct Try.underlying34 h
  have hC : Try.prog.cellsOf 34 = 3 := by kernel_rfl
  have z3 : Try.prog.cellsOf 3 = 1 := by kernel_rfl
  obtain ⟨c0, c1, c2, rfl⟩ := len3 (hl.trans hC)
  obtain ⟨y0, y1, y2, rfl⟩ := len3 (l := xs) (by simpa using hlen)
  have g0 : DataW.trod enc Try.prog W base spare held m 3 [c0] = some y0 := by have := hF 0 ⟨"Size", 3, 0, false, "", "", 0⟩ rfl; rwa [z3] at this
  have g1 : DataW.trod enc Try.prog W base spare held m 3 [c1] = some y1 := by have := hF 1 ⟨"Align", 3, 1, false, "", "", 8⟩ rfl; rwa [z3] at this
  have g2 : DataW.trod enc Try.prog W base spare held m 3 [c2] = some y2 := by have := hF 2 ⟨"Pad", 3, 2, false, "", "", 16⟩ rfl; rwa [z3] at this
  obtain ⟨s, e0, _⟩ := DataW.trod_int Try.underlying3 g0
  obtain ⟨a, e1, _⟩ := DataW.trod_int Try.underlying3 g1
  obtain ⟨p, e2, _⟩ := DataW.trod_int Try.underlying3 g2
  simp only [List.cons.injEq, and_true] at e0 e1 e2
  subst e0 e1 e2
  exact ⟨s, a, p, rfl⟩

theorem lo_block_lt {w : World} {b o : Nat} {v : Value} (h : w.cell? ⟨b, o, none⟩ = some v) : b < w.heap.size := by
  by_cases hb : b < w.heap.size
  · exact hb
  · have : w.heap[b]? = none := by simp; omega
    simp [World.cell?, this] at h

set_option maxRecDepth 100000 in
/-- A slice of blanks that came in. -/
theorem openB {r : Reach} {b0 : Nat} {v : Value} {d : DataW H} {p : List MemPlace} (hv : Value.okWide Try.prog W r b0 22 v) (h : DataW.Trod enc Try.prog W base spare held 22 v d p) :
    ∃ (a : Option Addr) (n c : Nat) (S A : Nat → Int), v = .slice a n c ∧ RowB W a n S A ∧ (a = none → n = 0) := by
  obtain ⟨a0, n0, c0, rfl⟩ := okWide_slice Try.underlying22 hv
  obtain ⟨fuel, hf⟩ := h
  have hC : Try.prog.cellsOf 32 = 2 := by kernel_rfl
  rcases DataW.trod_slice Try.underlying22 hf with ⟨hcs, _⟩ | ⟨a, len, cap, elems, rest, n, _, hcs, _, _, _, _, hlen, hel, _⟩
  · simp only [Value.cells, List.cons.injEq, and_true, Value.slice.injEq] at hcs
    obtain ⟨rfl, rfl, rfl⟩ := hcs
    exact ⟨none, 0, 0, fun _ => 0, fun _ => 0, rfl, .inl rfl, fun _ => rfl⟩
  · simp only [Value.cells, List.cons.injEq, and_true, Value.slice.injEq] at hcs
    obtain ⟨rfl, rfl, rfl⟩ := hcs
    have key : ∀ i, i < n0 → ∃ s q : Int, W.cell? (a.add (i * 2)) = some (.int .i64 s) ∧ W.cell? ((a.add (i * 2)).add 1) = some (.int .i64 q) := by
      intro i hi
      have e := hel i hi
      rw [hC, List.getElem?_eq_getElem (by omega), Option.bind_eq_some_iff] at e
      obtain ⟨cs, h1, h2⟩ := e
      obtain ⟨s, q, rfl⟩ := fields32 h2
      obtain ⟨_, _, h3⟩ := World.cells?_some h1
      have x0 := h3 0 (by omega)
      have x1 := h3 1 (by omega)
      have z : (a.add (i * 2)).add 0 = a.add (i * 2) := by simp [Addr.add]
      rw [z] at x0
      exact ⟨s, q, by simpa using x0, by simpa using x1⟩
    by_cases h0 : n0 = 0
    · subst h0
      exact ⟨some a, 0, c0, fun _ => 0, fun _ => 0, rfl, .inl rfl, fun h => by cases h⟩
    · obtain ⟨b, off, spot⟩ := a
      have hspot : spot = none := by
        obtain ⟨s, q, e, _⟩ := key 0 (by omega)
        simpa [Addr.add] using World.cell?_spot e
      subst hspot
      have key' : ∀ i, i < n0 → ∃ s q : Int, W.cell? ⟨b, off + i * 2, none⟩ = some (.int .i64 s) ∧ W.cell? ⟨b, off + i * 2 + 1, none⟩ = some (.int .i64 q) := by
        intro i hi
        obtain ⟨s, q, x0, x1⟩ := key i hi
        rw [add_plain] at x0 x1
        rw [add_plain] at x1
        exact ⟨s, q, x0, x1⟩
      refine ⟨some ⟨b, off, none⟩, n0, c0, fun i => if hi : i < n0 then Classical.choose (key' i hi) else 0, fun i => if hi : i < n0 then Classical.choose (Classical.choose_spec (key' i hi)) else 0, rfl, .inr ⟨b, off, rfl, ?_, fun i hi => ?_⟩, fun h => by cases h⟩
      · obtain ⟨s, q, e, _⟩ := key' 0 (by omega)
        exact lo_block_lt e
      · simp only [dif_pos hi]
        exact Classical.choose_spec (Classical.choose_spec (key' i hi))

set_option maxRecDepth 100000 in
/-- A slice of fields that came in. -/
theorem openF {r : Reach} {b0 : Nat} {v : Value} {d : DataW H} {p : List MemPlace} (hv : Value.okWide Try.prog W r b0 23 v) (h : DataW.Trod enc Try.prog W base spare held 23 v d p) :
    ∃ (a : Option Addr) (n c : Nat) (S A P : Nat → Int), v = .slice a n c ∧ RowF W a n S A P ∧ (a = none → n = 0) := by
  obtain ⟨a0, n0, c0, rfl⟩ := okWide_slice Try.underlying23 hv
  obtain ⟨fuel, hf⟩ := h
  have hC : Try.prog.cellsOf 34 = 3 := by kernel_rfl
  rcases DataW.trod_slice Try.underlying23 hf with ⟨hcs, _⟩ | ⟨a, len, cap, elems, rest, n, _, hcs, _, _, _, _, hlen, hel, _⟩
  · simp only [Value.cells, List.cons.injEq, and_true, Value.slice.injEq] at hcs
    obtain ⟨rfl, rfl, rfl⟩ := hcs
    exact ⟨none, 0, 0, fun _ => 0, fun _ => 0, fun _ => 0, rfl, .inl rfl, fun _ => rfl⟩
  · simp only [Value.cells, List.cons.injEq, and_true, Value.slice.injEq] at hcs
    obtain ⟨rfl, rfl, rfl⟩ := hcs
    have key : ∀ i, i < n0 → ∃ s q u : Int, W.cell? (a.add (i * 3)) = some (.int .i64 s) ∧ W.cell? ((a.add (i * 3)).add 1) = some (.int .i64 q) ∧ W.cell? ((a.add (i * 3)).add 2) = some (.int .i64 u) := by
      intro i hi
      have e := hel i hi
      rw [hC, List.getElem?_eq_getElem (by omega), Option.bind_eq_some_iff] at e
      obtain ⟨cs, h1, h2⟩ := e
      obtain ⟨s, q, u, rfl⟩ := fields34 h2
      obtain ⟨_, _, h3⟩ := World.cells?_some h1
      have x0 := h3 0 (by omega)
      have x1 := h3 1 (by omega)
      have x2 := h3 2 (by omega)
      have z : (a.add (i * 3)).add 0 = a.add (i * 3) := by simp [Addr.add]
      rw [z] at x0
      exact ⟨s, q, u, by simpa using x0, by simpa using x1, by simpa using x2⟩
    by_cases h0 : n0 = 0
    · subst h0
      exact ⟨some a, 0, c0, fun _ => 0, fun _ => 0, fun _ => 0, rfl, .inl rfl, fun h => by cases h⟩
    · obtain ⟨b, off, spot⟩ := a
      have hspot : spot = none := by
        obtain ⟨s, q, u, e, _⟩ := key 0 (by omega)
        simpa [Addr.add] using World.cell?_spot e
      subst hspot
      have key' : ∀ i, i < n0 → ∃ s q u : Int, W.cell? ⟨b, off + i * 3, none⟩ = some (.int .i64 s) ∧ W.cell? ⟨b, off + i * 3 + 1, none⟩ = some (.int .i64 q) ∧ W.cell? ⟨b, off + i * 3 + 2, none⟩ = some (.int .i64 u) := by
        intro i hi
        obtain ⟨s, q, u, x0, x1, x2⟩ := key i hi
        rw [add_plain] at x0 x1 x2
        rw [add_plain] at x1 x2
        exact ⟨s, q, u, x0, x1, x2⟩
      refine ⟨some ⟨b, off, none⟩, n0, c0, fun i => if hi : i < n0 then Classical.choose (key' i hi) else 0, fun i => if hi : i < n0 then Classical.choose (Classical.choose_spec (key' i hi)) else 0, fun i => if hi : i < n0 then Classical.choose (Classical.choose_spec (Classical.choose_spec (key' i hi))) else 0, rfl, .inr ⟨b, off, rfl, ?_, fun i hi => ?_⟩, fun h => by cases h⟩
      · obtain ⟨s, q, u, e, _⟩ := key' 0 (by omega)
        exact lo_block_lt e
      · simp only [dif_pos hi]
        exact Classical.choose_spec (Classical.choose_spec (Classical.choose_spec (key' i hi)))
end
end Go.Proofs.Qxb6600004a
