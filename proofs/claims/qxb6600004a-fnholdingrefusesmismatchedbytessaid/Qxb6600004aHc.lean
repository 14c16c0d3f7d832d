import Derived.Test.Qxb6600004aHb
import Derived.Deep.RegionHeld3
import Derived.Deep.DrawnRows
import Derived.Deep.QuietTactic
import Derived.Deep.WholeRow
import Derived.BigQuiet
import Derived.BigRegion
namespace Go.Proofs.Qxb6600004a
open Go.RowKit

/-- An ir.Type with a kind and a name alone. -/
abbrev typeC (k n : ByteArray) : Array Value := #[.string k, .bool false, .pointer none, .slice none 0 0, .bool false, .bool false, .int .i64 0, .string n, .bool false, .pointer none, .string ⟨#[]⟩, .string ⟨#[]⟩]
/-- A holding. -/
abbrev holdC (fk fn ok on vk vn : ByteArray) (words : Bool) (by' gb : Value) (ak : ByteArray) (ac : Int) : Array Value :=
  #[.string fk, .bool false, .pointer none, .slice none 0 0, .bool false, .bool false, .int .i64 0, .string fn, .bool false, .pointer none, .string ⟨#[]⟩, .string ⟨#[]⟩,
    .string ok, .bool false, .pointer none, .slice none 0 0, .bool false, .bool false, .int .i64 0, .string on, .bool false, .pointer none, .string ⟨#[]⟩, .string ⟨#[]⟩,
    .string vk, .bool false, .pointer none, .slice none 0 0, .bool false, .bool false, .int .i64 0, .string vn, .bool false, .pointer none, .string ⟨#[]⟩, .string ⟨#[]⟩,
    .bool words, by', gb, .string ak, .int .i64 ac, .string ak, .int .i64 ac, .bool false, .int .i64 0, .slice none 0 0]

theorem Try.size76 : (Try.prog.info? 76).map (·.size) = some 12 := by kernel_rfl
theorem Try.size107 : (Try.prog.info? 107).map (·.size) = some 46 := by kernel_rfl

/-- A whole struct into the block that was made last. -/
theorem wpList_store_last {P : Program} {ops : Array Oper} {rest : List Oper} {o : Oper} {a : Act} {w : World} {Q : Exit → Act → World → Prop} (hgd : o.guard = none) (ty : TypeId) (x y : Operand) (ho : o.op = .store ty x y)
    (g : Nat) (hgw : g = w.heap.size) (old cells : Array Value) (t : TypeId) (hx : a.eval x = .pointer (some ⟨g, 0, none⟩)) (hy : a.eval y = .agg cells)
    (hi : (P.info? ty).map (·.size) = some cells.size) (hold : old.size = cells.size) (h1 : cells.toList.all (·.oneCell') = true)
    (h : wpList P ops Q rest (a.put o.dst undef) (w.alloc (.cells cells t))) : wpList P ops Q (o :: rest) a (w.alloc (.cells old t)) := by
  subst hgw
  refine wpList_store_row hgd ty x y ho w.heap.size cells hx hy t old (heap_alloc_last w _) hi hold (by rw [← Array.all_toList]; exact h1) ?_
  rw [World.setRow_alloc_new]
  exact h

/-- A literal built, by a closed fact on what it comes to. -/
theorem wpList_build_eq {P : Program} {ops : Array Oper} {rest : List Oper} {o : Oper} {a : Act} {w : World} {Q : Exit → Act → World → Prop} (hg : o.guard = none) (t : TypeId) (parts : Array (Nat × Operand)) (ho : o.op = .build t parts)
    (vals : List (Nat × Value)) (cells : Array Value) (hv : parts.toList.map (fun p => (p.1, a.eval p.2)) = vals) (hb : P.built t vals = some cells)
    (h : wpList P ops Q rest (a.put o.dst (.agg cells)) w) : wpList P ops Q (o :: rest) a w := by
  have e : (parts.map fun (i, x) => (i, a.eval x)).toList = vals := by rw [Array.toList_map]; exact hv
  refine wpList_build hg t parts ho (by rw [e, hb]; rfl) ?_
  rw [e, hb]
  exact h

theorem built_uu (uk un : ByteArray) : Try.prog.built 107 [(0, .agg (typeC uk un)), (1, .agg (typeC uk un))] = some (holdC uk un uk un ⟨#[]⟩ ⟨#[]⟩ false (.slice none 0 0) (.slice none 0 0) ⟨#[]⟩ 0) := by kernel_rfl
theorem built_uuu (uk un : ByteArray) : Try.prog.built 107 [(0, .agg (typeC uk un)), (1, .agg (typeC uk un)), (2, .agg (typeC uk un))] = some (holdC uk un uk un uk un false (.slice none 0 0) (.slice none 0 0) ⟨#[]⟩ 0) := by kernel_rfl
theorem built_uuw (uk un : ByteArray) (b : Bool) : Try.prog.built 107 [(0, .agg (typeC uk un)), (1, .agg (typeC uk un)), (3, .bool b)] = some (holdC uk un uk un ⟨#[]⟩ ⟨#[]⟩ b (.slice none 0 0) (.slice none 0 0) ⟨#[]⟩ 0) := by kernel_rfl
theorem built_all (a0 a1 : Option Addr) (n0 c0 n1 c1 : Nat) (ak : ByteArray) (ac : Int) (b : Bool) :
    Try.prog.built 107 [(4, .slice a0 n0 c0), (5, .slice a1 n1 c1), (6, .agg #[.string ak, .int .i64 ac]), (7, .agg #[.string ak, .int .i64 ac]), (3, .bool b), (10, .slice none 0 0)] =
      some (holdC ⟨#[]⟩ ⟨#[]⟩ ⟨#[]⟩ ⟨#[]⟩ ⟨#[]⟩ ⟨#[]⟩ b (.slice a0 n0 c0) (.slice a1 n1 c1) ak ac) := by kernel_rfl

set_option maxRecDepth 100000 in
set_option maxHeartbeats 400000 in
theorem hold49_nil (uk un : ByteArray) (sz : Int) (w : World) :
    Calls Try.prog 49 #[.pointer none, .agg (typeC uk un), .int .i64 sz] w
      fun e w' => e = .returned (.agg (holdC uk un uk un ⟨#[]⟩ ⟨#[]⟩ false (.slice none 0 0) (.slice none 0 0) ⟨#[]⟩ 0)) ∧ Below w.heap.size w w' := by
  go_enter Try.func49, Try.ntmps49
  go_wp2_with (first
    | (refine wpList_load_row rfl 76 (.tmp 4) rfl w.heap.size rfl 76 (typeC uk un) (0, 0) _ (heap_alloc2_old w _ _) Try.underlying76 rfl Try.size76 ?_)
    | (refine wpList_build_eq rfl 107 #[(0, .tmp 11), (1, .tmp 12)] rfl [(0, .agg (typeC uk un)), (1, .agg (typeC uk un))] (holdC uk un uk un ⟨#[]⟩ ⟨#[]⟩ false (.slice none 0 0) (.slice none 0 0) ⟨#[]⟩ 0) rfl (built_uu uk un) ?_)
    | (refine wpList_store_last rfl 107 (.tmp 6) (.tmp 13) rfl (w.heap.size + 1) (by simp) _ (holdC uk un uk un ⟨#[]⟩ ⟨#[]⟩ false (.slice none 0 0) (.slice none 0 0) ⟨#[]⟩ 0) 107 rfl rfl Try.size107 rfl rfl ?_))
  refine bodyPost_ret (v := .agg (holdC uk un uk un ⟨#[]⟩ ⟨#[]⟩ false (.slice none 0 0) (.slice none 0 0) ⟨#[]⟩ 0)) ?_ rfl ⟨rfl, ((Below.refl _ _).alloc (Nat.le_refl _) _).alloc (by simp) _⟩
  exact results_cell_row Try.results49 _ _ (w.heap.size + 1) 107 _ (0, 0) _ rfl (heap_alloc2_new w _ _) Try.underlying107 rfl Try.size107

set_option maxRecDepth 100000 in
set_option maxHeartbeats 400000 in
theorem hold49_varies (uk un : ByteArray) (sz : Int) (w : World) (b : Nat) (hlt : b < w.heap.size) (hv : w.cell? ⟨b, 8, none⟩ = some (.bool true)) :
    Calls Try.prog 49 #[.pointer (some ⟨b, 0, none⟩), .agg (typeC uk un), .int .i64 sz] w
      fun e w' => e = .returned (.agg (holdC uk un uk un uk un false (.slice none 0 0) (.slice none 0 0) ⟨#[]⟩ 0)) ∧ Below w.heap.size w w' := by
  go_enter Try.func49, Try.ntmps49
  go_wp2_with (first
    | (refine wpList_load_row rfl 76 (.tmp 4) rfl w.heap.size rfl 76 (typeC uk un) (0, 0) _ (heap_alloc2_old w _ _) Try.underlying76 rfl Try.size76 ?_)
    | (refine wpList_store_last rfl 107 (.tmp 6) (.tmp 22) rfl (w.heap.size + 1) (by simp) _ (holdC uk un uk un uk un false (.slice none 0 0) (.slice none 0 0) ⟨#[]⟩ 0) 107 rfl rfl Try.size107 rfl rfl ?_))
  refine bodyPost_ret (v := .agg (holdC uk un uk un uk un false (.slice none 0 0) (.slice none 0 0) ⟨#[]⟩ 0)) ?_ rfl ⟨rfl, ((Below.refl _ _).alloc (Nat.le_refl _) _).alloc (by simp) _⟩
  exact results_cell_row Try.results49 _ _ (w.heap.size + 1) 107 _ (0, 0) _ rfl (heap_alloc2_new w _ _) Try.underlying107 rfl Try.size107

end Go.Proofs.Qxb6600004a
