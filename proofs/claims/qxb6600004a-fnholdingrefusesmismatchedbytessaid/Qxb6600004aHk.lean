import Derived.Test.Qxb6600004aHj
import Derived.ProofKit
import Derived.OpenShut
import Derived.Deep.Fields
namespace Go.Proofs.Qxb6600004a
open Go.ChangeShapes Go.WideShapes Go.RowKit Go.Deep

theorem list9 {α : Type} {l : List α} (h : l.length = 9) : ∃ c0 c1 c2 c3 c4 c5 c6 c7 c8, l = [c0, c1, c2, c3, c4, c5, c6, c7, c8] := by
  match l, h with
  | [c0, c1, c2, c3, c4, c5, c6, c7, c8], _ => exact ⟨c0, c1, c2, c3, c4, c5, c6, c7, c8, rfl⟩

section
variable {H : Type} {enc : TypeId × Value → H} {W : World} {base : Nat} {held : Bool}

theorem cell_block_lt {w : World} {b o : Nat} {v : Value} (h : w.cell? ⟨b, o, none⟩ = some v) : b < w.heap.size := by
  by_cases hb : b < w.heap.size
  · exact hb
  · have : w.heap[b]? = none := by simp; omega
    simp [World.cell?, this] at h

theorem byteRow_of {n : Nat} {v : Value} {x : DataW H × List MemPlace} (h : DataW.trod enc Try.prog W base (fun _ => true) held n 50 [v] = some x) :
    ∃ a m c, v = .slice a m c ∧ ByteRow W a m := by
  rcases open_ints Try.underlying50 Try.underlying5 (by kernel_rfl) h with ⟨hcs, _⟩ | ⟨x, l, c, zs, hcs, _, hl, _, hz, _, hcell, _⟩
  · simp only [List.cons.injEq, and_true] at hcs
    exact ⟨none, 0, 0, hcs, .inl rfl⟩
  · simp only [List.cons.injEq, and_true] at hcs
    simp only [if_true] at hz
    refine ⟨some x, l, c, hcs, ?_⟩
    by_cases h0 : l = 0
    · exact .inl h0
    · have e0 := hcell 0 (by omega)
      obtain ⟨b, off, spot⟩ := x
      have hspot : spot = none := by simpa [Addr.add] using World.cell?_spot e0
      subst hspot
      refine .inr ⟨b, off, fun i => zs.getD i 0, rfl, cell_block_lt e0, fun i hi => ?_⟩
      have := hcell i (by omega)
      rwa [add_plain] at this

set_option maxRecDepth 100000 in
theorem open52 {r : Reach} {b0 : Nat} {v : Value} {d : DataW H} {p : List MemPlace} (hv : Value.okWide Try.prog W r b0 52 v) (h : DataW.Trod enc Try.prog W base (fun _ => true) held 52 v d p) :
    ∃ (b0 b1 b6 b8 : Bool) (a2 a3 : Option Addr) (n2 c2 n3 c3 : Nat) (s4 s7 : ByteArray) (i5 : Int), v = .agg #[.bool b0, .bool b1, .slice a2 n2 c2, .slice a3 n3 c3, .string s4, .int .i64 i5, .bool b6, .string s7, .bool b8] ∧ ByteRow W a2 n2 ∧ ByteRow W a3 n3 := by
  obtain ⟨cs, rfl, hsz⟩ := okWide_struct Try.underlying52 hv
  have hC : Try.prog.cellsOf 52 = 9 := by kernel_rfl
  obtain ⟨l⟩ := cs
  obtain ⟨c0, c1, c2, c3, c4, c5, c6, c7, c8, rfl⟩ := list9 (l := l) (by simpa using hsz.trans hC)
  obtain ⟨fuel, hf⟩ := h
  obtain ⟨xs, n, _, _, _, hlen, hF⟩ := DataW.trod_struct Try.underlying52 hf
  obtain ⟨y0, y1, y2, y3, y4, y5, y6, y7, y8, rfl⟩ := list9 (l := xs) (by simpa using hlen)
  have z4 : Try.prog.cellsOf 4 = 1 := by kernel_rfl
  have z50 : Try.prog.cellsOf 50 = 1 := by kernel_rfl
  have z9 : Try.prog.cellsOf 9 = 1 := by kernel_rfl
  have z3 : Try.prog.cellsOf 3 = 1 := by kernel_rfl
  have g0 : DataW.trod enc Try.prog W base (fun _ => true) held n 4 [c0] = some y0 := by have := hF 0 ⟨"Nil", 4, 0, false, "", "", 0⟩ rfl; rwa [z4] at this
  have g1 : DataW.trod enc Try.prog W base (fun _ => true) held n 4 [c1] = some y1 := by have := hF 1 ⟨"Varies", 4, 1, false, "", "", 1⟩ rfl; rwa [z4] at this
  have g2 : DataW.trod enc Try.prog W base (fun _ => true) held n 50 [c2] = some y2 := by have := hF 2 ⟨"Bytes", 50, 2, false, "", "", 8⟩ rfl; rwa [z50] at this
  have g3 : DataW.trod enc Try.prog W base (fun _ => true) held n 50 [c3] = some y3 := by have := hF 3 ⟨"GoBytes", 50, 3, false, "", "", 32⟩ rfl; rwa [z50] at this
  have g4 : DataW.trod enc Try.prog W base (fun _ => true) held n 9 [c4] = some y4 := by have := hF 4 ⟨"AggKind", 9, 4, false, "", "", 56⟩ rfl; rwa [z9] at this
  have g5 : DataW.trod enc Try.prog W base (fun _ => true) held n 3 [c5] = some y5 := by have := hF 5 ⟨"AggCount", 3, 5, false, "", "", 72⟩ rfl; rwa [z3] at this
  have g6 : DataW.trod enc Try.prog W base (fun _ => true) held n 4 [c6] = some y6 := by have := hF 6 ⟨"Words", 4, 6, false, "", "", 80⟩ rfl; rwa [z4] at this
  have g7 : DataW.trod enc Try.prog W base (fun _ => true) held n 9 [c7] = some y7 := by have := hF 7 ⟨"Floating", 9, 7, false, "", "", 88⟩ rfl; rwa [z9] at this
  have g8 : DataW.trod enc Try.prog W base (fun _ => true) held n 4 [c8] = some y8 := by have := hF 8 ⟨"Opaque", 4, 8, false, "", "", 104⟩ rfl; rwa [z4] at this
  obtain ⟨b0, e0, _⟩ := DataW.trod_bool Try.underlying4 g0
  obtain ⟨b1, e1, _⟩ := DataW.trod_bool Try.underlying4 g1
  obtain ⟨a2, n2, k2, e2, r2⟩ := byteRow_of g2
  obtain ⟨a3, n3, k3, e3, r3⟩ := byteRow_of g3
  obtain ⟨s4, e4, _⟩ := DataW.trod_string Try.underlying9 g4
  obtain ⟨i5, e5, _⟩ := DataW.trod_int Try.underlying3 g5
  obtain ⟨b6, e6, _⟩ := DataW.trod_bool Try.underlying4 g6
  obtain ⟨s7, e7, _⟩ := DataW.trod_string Try.underlying9 g7
  obtain ⟨b8, e8, _⟩ := DataW.trod_bool Try.underlying4 g8
  simp only [List.cons.injEq, and_true] at e0 e1 e4 e5 e6 e7 e8
  subst e0 e1 e2 e3 e4 e5 e6 e7 e8
  exact ⟨b0, b1, b6, b8, a2, a3, n2, k2, n3, k3, s4, s7, i5, rfl, r2, r3⟩
end

end Go.Proofs.Qxb6600004a
