import Derived.Test.Qxb6600004aHc
namespace Go.Proofs.Qxb6600004a
open Go.RowKit

/-- The cells as lists. -/
abbrev typeL (k n : ByteArray) : List Value := [.string k, .bool false, .pointer none, .slice none 0 0, .bool false, .bool false, .int .i64 0, .string n, .bool false, .pointer none, .string ⟨#[]⟩, .string ⟨#[]⟩]
abbrev holdL (fk fn ok on vk vn : ByteArray) (words : Bool) (by' gb : Value) (ak : ByteArray) (ac : Int) : List Value :=
  [.string fk, .bool false, .pointer none, .slice none 0 0, .bool false, .bool false, .int .i64 0, .string fn, .bool false, .pointer none, .string ⟨#[]⟩, .string ⟨#[]⟩,
    .string ok, .bool false, .pointer none, .slice none 0 0, .bool false, .bool false, .int .i64 0, .string on, .bool false, .pointer none, .string ⟨#[]⟩, .string ⟨#[]⟩,
    .string vk, .bool false, .pointer none, .slice none 0 0, .bool false, .bool false, .int .i64 0, .string vn, .bool false, .pointer none, .string ⟨#[]⟩, .string ⟨#[]⟩,
    .bool words, by', gb, .string ak, .int .i64 ac, .string ak, .int .i64 ac, .bool false, .int .i64 0, .slice none 0 0]
/-- A row of cells stored, a row of cells loaded, under names of their own: the walk's simp does not open them cell by cell. -/
def StC (a : Addr) (vs : List Value) (i : Nat) : Sem Unit := storeCells a vs i
theorem stC (a : Addr) (vs : List Value) (i : Nat) : storeCells a vs i = StC a vs i := rfl
theorem stC_one (a : Addr) (v : Value) (i : Nat) : StC a [v] i = (do store (a.add i) v; pure ()) := rfl
def LdC (a : Addr) (i n : Nat) (acc : Array Value) : Sem (Array Value) := loadCellsFrom a i n acc
theorem ldC (a : Addr) (i n : Nat) (acc : Array Value) : loadCellsFrom a i n acc = LdC a i n acc := rfl
theorem ldC_two (a : Addr) : LdC a 0 2 #[] = (do let x ← load (a.add 0); let y ← load (a.add 1); pure #[x, y]) := rfl

/-- Block g holds just these cells, and none is frozen. -/
def Has (g : Nat) (cs : Array Value) (t : TypeId) (w : World) : Prop := w.heap[g]? = some (.cells cs t (0, 0))
theorem Has.drew {g : Nat} {cs : Array Value} {t : TypeId} {w : World} (h : Has g cs t w) : Has g cs t w.drew := h
theorem Has.lt {g : Nat} {cs : Array Value} {t : TypeId} {w : World} (h : Has g cs t w) : g < w.heap.size := (Array.getElem?_eq_some_iff.1 h).1
theorem Has.alloc {g : Nat} {cs : Array Value} {t : TypeId} {w : World} (h : Has g cs t w) (o : Obj) : Has g cs t (w.alloc o) := (Below.heap_alloc w o g h.lt).trans h
theorem Has.new (cs : Array Value) (t : TypeId) (w : World) : Has w.heap.size cs t (w.alloc (.cells cs t)) := heap_alloc_last w _
theorem Has.set {g : Nat} {cs : Array Value} {t : TypeId} {w : World} (h : Has g cs t w) (ds : Array Value) : Has g ds t (w.setRow g ds) := setRow_heap w g cs ds t (0, 0) h
theorem Has.other {g : Nat} {cs : Array Value} {t : TypeId} {w : World} (h : Has g cs t w) (k : Nat) (hk : g ≠ k) (ds : Array Value) : Has g cs t (w.setRow k ds) := (setRow_other w k g ds hk).trans h
theorem Has.below {B g : Nat} {cs : Array Value} {t : TypeId} {w w' : World} (h : Has g cs t w) (hb : Below B w w') (hg : g < B) : Has g cs t w' := (hb.block g hg).trans h
theorem Has.cell {g : Nat} {cs : Array Value} {t : TypeId} {w : World} (h : Has g cs t w) (j : Nat) : w.cell? ⟨g, j, none⟩ = cs[j]? := cell_of_row w g j cs t (0, 0) h
theorem Has.free {g : Nat} {cs : Array Value} {t : TypeId} {w : World} (h : Has g cs t w) (j : Nat) : w.frozen? ⟨g, j, none⟩ = false := frozen_of_row w g j cs t h

/-- Block g is a holding's. -/
def Own107 (g : Nat) (w : World) : Prop := ∃ old : Array Value, Has g old 107 w ∧ old.size = 46
theorem Own107.drew {g : Nat} {w : World} (h : Own107 g w) : Own107 g w.drew := h
theorem Own107.alloc {g : Nat} {w : World} (h : Own107 g w) (o : Obj) : Own107 g (w.alloc o) := by obtain ⟨old, h, hs⟩ := h; exact ⟨old, h.alloc o, hs⟩
theorem Own107.set {g : Nat} {w : World} (h : Own107 g w) (ds : Array Value) (hd : ds.size = 46) : Own107 g (w.setRow g ds) := by obtain ⟨old, h, hs⟩ := h; exact ⟨ds, h.set ds, hd⟩
theorem Own107.other {g : Nat} {w : World} (h : Own107 g w) (k : Nat) (hk : g ≠ k) (ds : Array Value) : Own107 g (w.setRow k ds) := by obtain ⟨old, h, hs⟩ := h; exact ⟨old, h.other k hk ds, hs⟩

theorem run_StC {w : World} {g : Nat} {c old : Array Value} {t : TypeId} (h : Has g old t w) (ho : old.size = c.size) (hi : (Try.prog.info? t).map (·.size) = some c.size) (h1 : c.toList.all (·.oneCell') = true) :
    (StC ⟨g, 0, none⟩ c.toList 0).run Try.prog w = .ok () (w.setRow g c) := by
  have := run_storeVar_row (P := Try.prog) w g t t old c h hi ho (by rw [← Array.all_toList]; exact h1)
  unfold StC
  cases hq : Try.prog.info? t with
  | none => simp [hq] at hi
  | some i =>
    have hs : c.size = i.size := by simp [hq] at hi; omega
    simpa [storeVar, sizeOf, typeInfo, hq, Value.cells, hs] using this

theorem run_St107H {w : World} {g : Nat} (h : Own107 g w) (fk fn ok on vk vn : ByteArray) (wd : Bool) (a0 a1 : Option Addr) (n0 c0 n1 c1 : Nat) (ak : ByteArray) (ac : Int) :
    (StC ⟨g, 0, none⟩ (holdL fk fn ok on vk vn wd (.slice a0 n0 c0) (.slice a1 n1 c1) ak ac) 0).run Try.prog w = .ok () (w.setRow g (holdC fk fn ok on vk vn wd (.slice a0 n0 c0) (.slice a1 n1 c1) ak ac)) := by
  obtain ⟨old, h, ho⟩ := h
  exact run_StC (c := holdC fk fn ok on vk vn wd (.slice a0 n0 c0) (.slice a1 n1 c1) ak ac) h ho Try.size107 rfl

theorem run_LdC {w : World} {g n : Nat} {c : Array Value} {t : TypeId} (h : Has g c t w) (hs : c.size = n) :
    (LdC ⟨g, 0, none⟩ 0 n #[]).run Try.prog w = .ok c w := by
  subst hs
  have := run_loadCells_list (P := Try.prog) w ⟨g, 0, none⟩ c.toList (fun j v hv => by
    have hadd : (⟨g, 0, none⟩ : Addr).add j = ⟨g, j, none⟩ := by unfold Addr.add; split <;> simp_all
    rw [hadd, h.cell]
    simpa using hv)
  unfold LdC
  simpa [loadCells] using this

theorem forget_world {P : Program} {c : Code} {Q : Exit → Act → World → Prop} {a : Act} {w : World} (R : World → Prop) (hR : R w) (h : ∀ W, R W → c.wp P Q a W) : c.wp P Q a w := h w hR

theorem below_setRow' {B g : Nat} {w0 w : World} (hb : Below B w0 w) (hBg : B ≤ g) (cs : Array Value) : Below B w0 (w.setRow g cs) :=
  ⟨hb.os, hb.tape, hb.output, by simpa using hb.size, fun k hk => (setRow_other w g k cs (by omega)).trans (hb.block k hk)⟩

attribute [local go_sem] stC stC_one ldC ldC_two run_St107H

set_option maxRecDepth 100000 in
set_option maxHeartbeats 400000 in
theorem hold49_refuse (uk un : ByteArray) (sz : Int) (w : World) (b : Nat) (a0 a1 : Option Addr) (n0 c0 n1 c1 : Nat) (ak fl : ByteArray) (ac : Int) (wd op : Bool)
    (hb : Has b #[.slice a0 n0 c0, .slice a1 n1 c1, .string ak, .int .i64 ac, .bool wd, .slice none 0 0, .string fl, .bool op, .bool false] 105 w)
    (h0 : a0.isNone = false) (hn : ((n0 : Int) != sz) = true) :
    Calls Try.prog 49 #[.pointer (some ⟨b, 0, none⟩), .agg (typeC uk un), .int .i64 sz] w
      fun e w' => e = .returned (.agg (holdC uk un uk un ⟨#[]⟩ ⟨#[]⟩ wd (.slice none 0 0) (.slice none 0 0) ⟨#[]⟩ 0)) ∧ Below w.heap.size w w' := by
  have q99 : ∀ (w : World) (a : Option Addr) (n c n' c' : Nat), (binOp .neq 99 (.slice a n c) (.slice none n' c')).run Try.prog w = .ok (.bool (!a.isNone)) w := fun w a n c n' c' => run_neq_slice_nil_any w _ _ a n c n' c' Try.underlying99
  have hlt : b < w.heap.size := hb.lt
  have k0 := hb.cell 0
  have k4 := hb.cell 4
  have k8 := hb.cell 8
  simp only [List.getElem?_toArray, List.getElem?_cons_succ, List.getElem?_cons_zero] at k0 k4 k8
  go_enter Try.func49, Try.ntmps49
  go_wp2
  refine forget_world (fun W => Below w.heap.size w W ∧ Has w.heap.size (typeC uk un) 76 W ∧ Own107 (w.heap.size + 1) W) ⟨((Below.refl _ _).alloc (Nat.le_refl _) _).alloc (by simp) _, (Has.new _ _ _).alloc _, _, heap_alloc2_new w _ _, rfl⟩ ?_
  rintro W ⟨hbel, h76, hown⟩
  have hk : W.cell? ⟨b, 4, none⟩ = some (.bool wd) := (hbel.cell hlt).trans k4
  have ne1 : w.heap.size ≠ w.heap.size + 1 := by omega
  have ne2 : b ≠ w.heap.size + 1 := by omega
  have S1 : (LdC ⟨w.heap.size, 0, none⟩ 0 12 #[]).run Try.prog W.drew = .ok (typeC uk un) W.drew ∧ W.drew.cell? ⟨b, 4, none⟩ = some (.bool wd) ∧ Own107 (w.heap.size + 1) W.drew :=
    ⟨run_LdC h76.drew rfl, hk, hown.drew⟩
  have S2 : ∀ c : Array Value, c.size = 46 → (LdC ⟨w.heap.size, 0, none⟩ 0 12 #[]).run Try.prog (W.drew.setRow (w.heap.size + 1) c) = .ok (typeC uk un) (W.drew.setRow (w.heap.size + 1) c) ∧ (W.drew.setRow (w.heap.size + 1) c).cell? ⟨b, 4, none⟩ = some (.bool wd) ∧ Own107 (w.heap.size + 1) (W.drew.setRow (w.heap.size + 1) c) :=
    fun c hc => ⟨run_LdC (h76.drew.other _ ne1 c) rfl, (cell_setRow_other _ _ _ _ ne2).trans hk, hown.drew.set c hc⟩
  have S3 : ∀ c : Array Value, Has (w.heap.size + 1) c 107 (W.drew.setRow (w.heap.size + 1) c) := fun c => by obtain ⟨old, h, _⟩ := hown; exact h.drew.set c
  have S4 : ∀ c : Array Value, Below w.heap.size w (W.drew.setRow (w.heap.size + 1) c) := fun c => below_setRow' hbel.drew (by omega) c
  have H3 : Hid (∀ c : Array Value, Has (w.heap.size + 1) c 107 (W.drew.setRow (w.heap.size + 1) c)) := S3
  have H4 : Hid (∀ c : Array Value, Below w.heap.size w (W.drew.setRow (w.heap.size + 1) c)) := S4
  clear S3 S4 k0 k4 k8 hb hbel h76 hown hk
  go_region_held3 (fun w' => (LdC ⟨w.heap.size, 0, none⟩ 0 12 #[]).run Try.prog w' = .ok (typeC uk un) w' ∧ w'.cell? ⟨b, 4, none⟩ = some (.bool wd) ∧ Own107 (w.heap.size + 1) w')
    (first | exact S1 | exact S2 _ rfl) (fail)
  go_wp2
  refine bodyPost_ret (v := .agg (holdC uk un uk un ⟨#[]⟩ ⟨#[]⟩ wd (.slice none 0 0) (.slice none 0 0) ⟨#[]⟩ 0)) ?_ rfl ⟨rfl, H4.out _⟩
  exact results_cell_row Try.results49 _ _ (w.heap.size + 1) 107 _ (0, 0) _ rfl (H3.out _) Try.underlying107 rfl Try.size107

end Go.Proofs.Qxb6600004a
