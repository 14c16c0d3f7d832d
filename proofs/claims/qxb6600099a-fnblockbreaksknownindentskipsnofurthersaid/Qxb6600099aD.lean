import Derived.Test.Qxb6600099aB
import Derived.ProofKit
import Derived.OpenShut
import Derived.Deep.Fields
namespace Go.Proofs.Qxb6600099a
open Go.ChangeShapes Go.WideShapes Go.RowKit Go.Deep

theorem cell_block_lt {w : World} {b o : Nat} {v : Value} (h : w.cell? ⟨b, o, none⟩ = some v) : b < w.heap.size := by
  by_cases hb : b < w.heap.size
  · exact hb
  · have : w.heap[b]? = none := by simp; omega
    simp [World.cell?, this] at h

/-- A slice of bytes as it came in. -/
theorem rowT_of {w : World} {a : Option Addr} {len cap : Nat} {zs : List Int}
    (h : (a = none ∧ len = 0 ∧ cap = 0 ∧ zs = []) ∨
      ∃ x, a = some x ∧ len ≤ cap ∧ cap ≤ maxLen ∧ zs.length = cap ∧ (∀ i, i < zs.length → w.cell? (x.add i) = some (.int .u8 (zs.getD i 0))) ∧ ∀ n ∈ zs, (Lit.int .u8 n).wf = true) :
    ∃ T, RowT w a len T ∧ (a = none → len = 0) ∧ len ≤ cap := by
  rcases h with ⟨rfl, rfl, rfl, rfl⟩ | ⟨x, rfl, hl, hm, hz, hcell, hwz⟩
  · exact ⟨fun _ => 0, ⟨fun i hi => absurd hi (by omega), .inl rfl⟩, fun _ => rfl, Nat.le_refl _⟩
  · refine ⟨fun i => zs.getD i 0, ⟨fun i hi => ?_, ?_⟩, (by simp), hl⟩
    · show 0 ≤ zs.getD i 0 ∧ zs.getD i 0 ≤ 255
      have e : zs.getD i 0 = zs[i]'(by omega) := by simp [List.getD, show i < zs.length by omega]
      have := hwz _ (List.getElem_mem (show i < zs.length by omega))
      rw [e]
      simp [Lit.wf] at this
      have m1 : IntKind.u8.min = 0 := by decide
      have m2 : IntKind.u8.max = 255 := by decide
      omega
    · by_cases h0 : len = 0
      · exact .inl h0
      · have e0 := hcell 0 (by omega)
        obtain ⟨b, off, spot⟩ := x
        have hspot : spot = none := by simpa [Addr.add] using World.cell?_spot e0
        subst hspot
        refine .inr ⟨b, off, rfl, cell_block_lt e0, fun i hi => ?_⟩
        have := hcell i (by omega)
        rwa [add_plain] at this
end Go.Proofs.Qxb6600099a
