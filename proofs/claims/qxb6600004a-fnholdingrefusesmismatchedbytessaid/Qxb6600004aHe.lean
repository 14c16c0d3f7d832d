import Derived.Test.Qxb6600004aHd
namespace Go.Proofs.Qxb6600004a
open Go.RowKit

theorem run_Ld107 {w : World} {g : Nat} (h : Own107 g w) (c : Array Value) (hs : c.size = 46) :
    (LdC ⟨g, 0, none⟩ 0 46 #[]).run Try.prog (w.setRow g c) = .ok c (w.setRow g c) := by
  obtain ⟨old, h, _⟩ := h
  exact run_LdC (h.set c) hs

theorem there_of_row {w : World} {g o n : Nat} {cs : Array Value} {t : TypeId} (h : Has g cs t w) (hn : o + n ≤ cs.size) : w.there g o n := fun j hj => by
  refine ⟨?_, h.free _⟩
  rw [h.cell]
  simp
  omega

theorem setCells_setRow : ∀ (vs : List Value) (o : Nat) (w : World) (g : Nat) (cs : Array Value) (t : TypeId) (_ : Has g cs t w),
    w.setCells g o vs = w.setRow g (vs.foldl (fun (p : Array Value × Nat) v => (p.1.setIfInBounds p.2 v, p.2 + 1)) (cs, o)).1
  | [], _, w, g, cs, t, h => by
    simp only [World.setCells, List.foldl_nil]
    exact (setRow_self w g cs t (0, 0) h).symm
  | v :: r, o, w, g, cs, t, h => by
    rw [World.setCells, setCell_eq_setRow w g o cs t (0, 0) v h, setCells_setRow r (o + 1) _ g _ t (h.set _), setRow_setRow, List.foldl_cons]

theorem run_St76 {w : World} {g o : Nat} (h : Own107 g w) (c d : Array Value) (v : Array Value) (hc : c.size = 46) (hv : v.size = 12) (ho : o + 12 ≤ 46) (h1 : v.toList.all (·.oneCell') = true)
    (hd : (v.toList.foldl (fun (p : Array Value × Nat) x => (p.1.setIfInBounds p.2 x, p.2 + 1)) (c, o)).1 = d) :
    (StC ⟨g, o, none⟩ v.toList 0).run Try.prog (w.setRow g c) = .ok () (w.setRow g d) := by
  obtain ⟨old, h, _⟩ := h
  have h' := h.set c
  have key : (StC ⟨g, o, none⟩ v.toList 0).run Try.prog (w.setRow g c) = .ok () ((w.setRow g c).setCells g o v.toList) := by
    have := run_storeVar_mid (P := Try.prog) (w.setRow g c) g o 76 v (there_of_row h' (by omega)) (by rw [Try.size76, hv]) (by rw [← Array.all_toList]; exact h1)
    unfold StC
    have hi := Try.size76
    cases hq : Try.prog.info? 76 with
    | none => simp [hq] at hi
    | some i =>
      have hs : v.size = i.size := by simp [hq] at hi; omega
      simpa [storeVar, sizeOf, typeInfo, hq, Value.cells, hs] using this
  rw [key, setCells_setRow _ _ _ _ c 107 h', hd, setRow_setRow]

theorem run_St76_0 {w : World} {g : Nat} (h : Own107 g w) (k n fk fn ok on vk vn : ByteArray) (wd : Bool) (a0 a1 : Option Addr) (n0 c0 n1 c1 : Nat) (ak : ByteArray) (ac : Int) :
    (StC ⟨g, 0, none⟩ (typeL k n) 0).run Try.prog (w.setRow g (holdC fk fn ok on vk vn wd (.slice a0 n0 c0) (.slice a1 n1 c1) ak ac)) = .ok () (w.setRow g (holdC k n ok on vk vn wd (.slice a0 n0 c0) (.slice a1 n1 c1) ak ac)) :=
  run_St76 h _ _ (typeC k n) rfl rfl (by omega) rfl (by kernel_rfl)
theorem run_St76_12 {w : World} {g : Nat} (h : Own107 g w) (k n fk fn ok on vk vn : ByteArray) (wd : Bool) (a0 a1 : Option Addr) (n0 c0 n1 c1 : Nat) (ak : ByteArray) (ac : Int) :
    (StC ⟨g, 12, none⟩ (typeL k n) 0).run Try.prog (w.setRow g (holdC fk fn ok on vk vn wd (.slice a0 n0 c0) (.slice a1 n1 c1) ak ac)) = .ok () (w.setRow g (holdC fk fn k n vk vn wd (.slice a0 n0 c0) (.slice a1 n1 c1) ak ac)) :=
  run_St76 h _ _ (typeC k n) rfl rfl (by omega) rfl (by kernel_rfl)
theorem run_Ld107H {w : World} {g : Nat} (h : Own107 g w) (fk fn ok on vk vn : ByteArray) (wd : Bool) (a0 a1 : Option Addr) (n0 c0 n1 c1 : Nat) (ak : ByteArray) (ac : Int) :
    (LdC ⟨g, 0, none⟩ 0 46 #[]).run Try.prog (w.setRow g (holdC fk fn ok on vk vn wd (.slice a0 n0 c0) (.slice a1 n1 c1) ak ac)) = .ok (holdC fk fn ok on vk vn wd (.slice a0 n0 c0) (.slice a1 n1 c1) ak ac) (w.setRow g (holdC fk fn ok on vk vn wd (.slice a0 n0 c0) (.slice a1 n1 c1) ak ac)) :=
  run_Ld107 h _ rfl
theorem cell_St107 {w : World} {g : Nat} (h : Own107 g w) (fk fn ok on vk vn : ByteArray) (wd : Bool) (a0 a1 : Option Addr) (n0 c0 n1 c1 : Nat) (ak : ByteArray) (ac : Int) :
    (w.setRow g (holdC fk fn ok on vk vn wd (.slice a0 n0 c0) (.slice a1 n1 c1) ak ac)).cell? ⟨g, 0, none⟩ = some (.string fk) := by
  obtain ⟨old, h, _⟩ := h
  rw [(h.set _).cell]
  rfl
theorem own_new (w : World) : Own107 w.heap.size (w.alloc (.cells (holdC ⟨#[]⟩ ⟨#[]⟩ ⟨#[]⟩ ⟨#[]⟩ ⟨#[]⟩ ⟨#[]⟩ false (.slice none 0 0) (.slice none 0 0) ⟨#[]⟩ 0) 107)) := ⟨_, Has.new _ _ _, rfl⟩
theorem own_drew (g : Nat) (w : World) : Own107 g w.drew = Own107 g w := rfl

attribute [local go_sem] stC stC_one ldC ldC_two run_St107H

theorem keep6 (W : World) {b : Nat} (hne : b ≠ W.heap.size) {x0 x1 x2 x3 x4 x5 : Value}
    (h : W.cell? ⟨b, 0, none⟩ = some x0 ∧ W.cell? ⟨b, 1, none⟩ = some x1 ∧ W.cell? ⟨b, 2, none⟩ = some x2 ∧ W.cell? ⟨b, 3, none⟩ = some x3 ∧ W.cell? ⟨b, 4, none⟩ = some x4 ∧ W.cell? ⟨b, 5, none⟩ = some x5) (o : Obj) :
    (W.alloc o).drew.cell? ⟨b, 0, none⟩ = some x0 ∧ (W.alloc o).drew.cell? ⟨b, 1, none⟩ = some x1 ∧ (W.alloc o).drew.cell? ⟨b, 2, none⟩ = some x2 ∧ (W.alloc o).drew.cell? ⟨b, 3, none⟩ = some x3 ∧ (W.alloc o).drew.cell? ⟨b, 4, none⟩ = some x4 ∧ (W.alloc o).drew.cell? ⟨b, 5, none⟩ = some x5 := by
  have e : ∀ j, (W.alloc o).drew.cell? ⟨b, j, none⟩ = W.cell? ⟨b, j, none⟩ := fun j => by
    show (W.alloc o).cell? ⟨b, j, none⟩ = _
    refine World.cell?_of_block (w := W) ?_
    show (W.heap.push o)[b]? = W.heap[b]?
    rw [Array.getElem?_push, if_neg hne]
  simp only [e]
  exact h
theorem keep6b (W : World) {b : Nat} (hne : b ≠ W.heap.size) {x0 x1 x2 x3 x4 x5 : Value}
    (h : W.cell? ⟨b, 0, none⟩ = some x0 ∧ W.cell? ⟨b, 1, none⟩ = some x1 ∧ W.cell? ⟨b, 2, none⟩ = some x2 ∧ W.cell? ⟨b, 3, none⟩ = some x3 ∧ W.cell? ⟨b, 4, none⟩ = some x4 ∧ W.cell? ⟨b, 5, none⟩ = some x5) (o : Obj) (c : Array Value) :
    ((W.alloc o).drew.setRow W.heap.size c).cell? ⟨b, 0, none⟩ = some x0 ∧ ((W.alloc o).drew.setRow W.heap.size c).cell? ⟨b, 1, none⟩ = some x1 ∧ ((W.alloc o).drew.setRow W.heap.size c).cell? ⟨b, 2, none⟩ = some x2 ∧ ((W.alloc o).drew.setRow W.heap.size c).cell? ⟨b, 3, none⟩ = some x3 ∧ ((W.alloc o).drew.setRow W.heap.size c).cell? ⟨b, 4, none⟩ = some x4 ∧ ((W.alloc o).drew.setRow W.heap.size c).cell? ⟨b, 5, none⟩ = some x5 := by
  have := keep6 W hne h o
  have e : ∀ j, ((W.alloc o).drew.setRow W.heap.size c).cell? ⟨b, j, none⟩ = (W.alloc o).drew.cell? ⟨b, j, none⟩ := fun j => cell_setRow_other _ _ _ _ hne
  simp only [e]
  exact this
theorem forget_goal {Q : Exit → Act → World → Prop} {e : Exit} {a : Act} {w : World} (R : World → Prop) (hR : R w) (h : ∀ W, R W → Q e a W) : Q e a w := h w hR

set_option maxRecDepth 100000 in
set_option maxHeartbeats 800000 in
theorem hold49_else1 (uk un : ByteArray) (sz : Int) (w : World) (b : Nat) (a0 a1 : Option Addr) (n0 c0 n1 c1 : Nat) (ak fl : ByteArray) (ac : Int) (wd : Bool)
    (hb : Has b #[.slice a0 n0 c0, .slice a1 n1 c1, .string ak, .int .i64 ac, .bool wd, .slice none 0 0, .string fl, .bool false, .bool false] 105 w)
    (hD : a0.isNone = true ∨ (a0.isNone = false ∧ ((n0 : Int) != sz) = false)) (hf : (fl.toList.isEmpty) = false) :
    Calls Try.prog 49 #[.pointer (some ⟨b, 0, none⟩), .agg (typeC uk un), .int .i64 sz] w
      fun e w' => e = .returned (.agg (holdC fl ⟨#[]⟩ ⟨#[]⟩ ⟨#[]⟩ ⟨#[]⟩ ⟨#[]⟩ wd (.slice a0 n0 c0) (.slice a1 n1 c1) ak ac)) ∧ Below w.heap.size w w' := by
  have q99 : ∀ (w : World) (a : Option Addr) (n c n' c' : Nat), (binOp .neq 99 (.slice a n c) (.slice none n' c')).run Try.prog w = .ok (.bool (!a.isNone)) w := fun w a n c n' c' => run_neq_slice_nil_any w _ _ a n c n' c' Try.underlying99
  have hlt : b < w.heap.size := hb.lt
  have hbH := hb
  have k0 := hb.cell 0
  have k8 := hb.cell 8
  simp only [List.getElem?_toArray, List.getElem?_cons_succ, List.getElem?_cons_zero] at k0 k8
  have HB : Hid (Has b _ 105 w) := hb
  clear hb hbH
  rcases hD with h0 | ⟨h0, hn⟩
  all_goals
    go_enter Try.func49, Try.ntmps49
    go_wp2
    refine forget_world (fun W => Below w.heap.size w W ∧ Has w.heap.size (typeC uk un) 76 W ∧ Own107 (w.heap.size + 1) W) ⟨((Below.refl _ _).alloc (Nat.le_refl _) _).alloc (by simp) _, (Has.new _ _ _).alloc _, _, heap_alloc2_new w _ _, rfl⟩ ?_
    rintro W ⟨hbel, h76, hown⟩
    have hs1 : w.heap.size + 1 < W.heap.size := by obtain ⟨_, h, _⟩ := hown; exact h.lt
    have hBW := HB.out.below hbel hlt
    clear k0 k8
    have S1 : W.cell? ⟨b, 0, none⟩ = some (.slice a0 n0 c0) ∧ W.cell? ⟨b, 1, none⟩ = some (.slice a1 n1 c1) ∧ W.cell? ⟨b, 2, none⟩ = some (.string ak) ∧ W.cell? ⟨b, 3, none⟩ = some (.int .i64 ac) ∧ W.cell? ⟨b, 4, none⟩ = some (.bool wd) ∧ W.cell? ⟨b, 5, none⟩ = some (.slice none 0 0) :=
      ⟨hBW.cell 0, hBW.cell 1, hBW.cell 2, hBW.cell 3, hBW.cell 4, hBW.cell 5⟩
    have HW : Hid (Below w.heap.size w W ∧ Has w.heap.size (typeC uk un) 76 W ∧ Own107 (w.heap.size + 1) W ∧ Has b #[.slice a0 n0 c0, .slice a1 n1 c1, .string ak, .int .i64 ac, .bool wd, .slice none 0 0, .string fl, .bool false, .bool false] 105 W) := ⟨hbel, h76, hown, hBW⟩
    have ne3 : b ≠ W.heap.size := by omega
    clear hbel h76 hown hBW HB
    have hO1 := (own_new W).drew
    go_region_held3 (fun w' => w'.cell? ⟨b, 0, none⟩ = some (.slice a0 n0 c0) ∧ w'.cell? ⟨b, 1, none⟩ = some (.slice a1 n1 c1) ∧ w'.cell? ⟨b, 2, none⟩ = some (.string ak) ∧ w'.cell? ⟨b, 3, none⟩ = some (.int .i64 ac) ∧ w'.cell? ⟨b, 4, none⟩ = some (.bool wd) ∧ w'.cell? ⟨b, 5, none⟩ = some (.slice none 0 0))
      (first | exact S1 | exact keep6 W ne3 S1 _ | exact keep6b W ne3 S1 _ _) (fail)
    refine forget_goal (fun V => ∃ V0, V = V0.setRow W.heap.size (holdC ⟨#[]⟩ ⟨#[]⟩ ⟨#[]⟩ ⟨#[]⟩ ⟨#[]⟩ ⟨#[]⟩ wd (.slice a0 n0 c0) (.slice a1 n1 c1) ak ac) ∧ V0 = (W.alloc (.cells (holdC ⟨#[]⟩ ⟨#[]⟩ ⟨#[]⟩ ⟨#[]⟩ ⟨#[]⟩ ⟨#[]⟩ false (.slice none 0 0) (.slice none 0 0) ⟨#[]⟩ 0) 107)).drew) ⟨_, rfl, rfl⟩ ?_
    rintro _ ⟨V, rfl, hV⟩
    have hbV : Below w.heap.size w V := by rw [hV]; exact (HW.out.1.alloc (by omega) _).drew
    have h76V : Has w.heap.size (typeC uk un) 76 V := by rw [hV]; exact (HW.out.2.1.alloc _).drew
    have ho6 : Own107 (w.heap.size + 1) V := by rw [hV]; exact (HW.out.2.2.1.alloc _).drew
    have ho7 : Own107 W.heap.size V := by rw [hV]; exact (own_new W).drew
    have hBV : Has b #[.slice a0 n0 c0, .slice a1 n1 c1, .string ak, .int .i64 ac, .bool wd, .slice none 0 0, .string fl, .bool false, .bool false] 105 V := by rw [hV]; exact (HW.out.2.2.2.alloc _).drew
    clear hV
    have E1 : ∀ c : Array Value, (LdC ⟨w.heap.size, 0, none⟩ 0 12 #[]).run Try.prog (V.setRow W.heap.size c) = .ok (typeC uk un) (V.setRow W.heap.size c) := fun c => run_LdC (h76V.other _ (by omega) c) rfl
    have E2 : ∀ c : Array Value, Own107 (w.heap.size + 1) (V.setRow W.heap.size c) := fun c => ho6.other _ (by omega) c
    have E6 : ∀ c : Array Value, (V.setRow W.heap.size c).cell? ⟨b, 6, none⟩ = some (.string fl) := fun c => (hBV.other _ ne3 c).cell 6
    have E7 : ∀ c : Array Value, (V.setRow W.heap.size c).cell? ⟨b, 7, none⟩ = some (.bool false) := fun c => (hBV.other _ ne3 c).cell 7
    have R0 := fun k n fk fn ok on vk vn => run_St76_0 (w := V) (g := W.heap.size) ho7 k n fk fn ok on vk vn wd a0 a1 n0 c0 n1 c1 ak ac
    have R12 := fun k n fk fn ok on vk vn => run_St76_12 (w := V) (g := W.heap.size) ho7 k n fk fn ok on vk vn wd a0 a1 n0 c0 n1 c1 ak ac
    have RL := fun fk fn ok on vk vn => run_Ld107H (w := V) (g := W.heap.size) ho7 fk fn ok on vk vn wd a0 a1 n0 c0 n1 c1 ak ac
    have RC := fun fk fn ok on vk vn => cell_St107 (w := V) (g := W.heap.size) ho7 fk fn ok on vk vn wd a0 a1 n0 c0 n1 c1 ak ac
    have HF : Hid (∀ c d : Array Value, Below w.heap.size w ((V.setRow W.heap.size c).setRow (w.heap.size + 1) d) ∧ Has (w.heap.size + 1) d 107 ((V.setRow W.heap.size c).setRow (w.heap.size + 1) d)) :=
      fun c d => ⟨below_setRow' (below_setRow' hbV (by omega) c) (by omega) d, by obtain ⟨old, h, _⟩ := E2 c; exact h.set d⟩
    clear hbV h76V ho6 hBV HW S1
    go_wp2
    refine bodyPost_ret (v := .agg (holdC fl ⟨#[]⟩ ⟨#[]⟩ ⟨#[]⟩ ⟨#[]⟩ ⟨#[]⟩ wd (.slice a0 n0 c0) (.slice a1 n1 c1) ak ac)) ?_ rfl ⟨rfl, (HF.out _ _).1⟩
    exact results_cell_row Try.results49 _ _ (w.heap.size + 1) 107 _ (0, 0) _ rfl (HF.out _ _).2 Try.underlying107 rfl Try.size107

set_option maxRecDepth 100000 in
set_option maxHeartbeats 800000 in
theorem hold49_else2 (uk un : ByteArray) (sz : Int) (w : World) (b : Nat) (a0 a1 : Option Addr) (n0 c0 n1 c1 : Nat) (ak : ByteArray) (ac : Int) (wd : Bool)
    (hb : Has b #[.slice a0 n0 c0, .slice a1 n1 c1, .string ak, .int .i64 ac, .bool wd, .slice none 0 0, .string ⟨#[]⟩, .bool false, .bool false] 105 w)
    (hD : a0.isNone = true ∨ (a0.isNone = false ∧ ((n0 : Int) != sz) = false)) :
    Calls Try.prog 49 #[.pointer (some ⟨b, 0, none⟩), .agg (typeC uk un), .int .i64 sz] w
      fun e w' => e = .returned (.agg (holdC ⟨#[]⟩ ⟨#[]⟩ ⟨#[]⟩ ⟨#[]⟩ ⟨#[]⟩ ⟨#[]⟩ wd (.slice a0 n0 c0) (.slice a1 n1 c1) ak ac)) ∧ Below w.heap.size w w' := by
  have q99 : ∀ (w : World) (a : Option Addr) (n c n' c' : Nat), (binOp .neq 99 (.slice a n c) (.slice none n' c')).run Try.prog w = .ok (.bool (!a.isNone)) w := fun w a n c n' c' => run_neq_slice_nil_any w _ _ a n c n' c' Try.underlying99
  have hlt : b < w.heap.size := hb.lt
  have hbH := hb
  have k0 := hb.cell 0
  have k8 := hb.cell 8
  simp only [List.getElem?_toArray, List.getElem?_cons_succ, List.getElem?_cons_zero] at k0 k8
  have HB : Hid (Has b _ 105 w) := hb
  clear hb hbH
  rcases hD with h0 | ⟨h0, hn⟩
  all_goals
    go_enter Try.func49, Try.ntmps49
    go_wp2
    refine forget_world (fun W => Below w.heap.size w W ∧ Has w.heap.size (typeC uk un) 76 W ∧ Own107 (w.heap.size + 1) W) ⟨((Below.refl _ _).alloc (Nat.le_refl _) _).alloc (by simp) _, (Has.new _ _ _).alloc _, _, heap_alloc2_new w _ _, rfl⟩ ?_
    rintro W ⟨hbel, h76, hown⟩
    have hs1 : w.heap.size + 1 < W.heap.size := by obtain ⟨_, h, _⟩ := hown; exact h.lt
    have hBW := HB.out.below hbel hlt
    clear k0 k8
    have S1 : W.cell? ⟨b, 0, none⟩ = some (.slice a0 n0 c0) ∧ W.cell? ⟨b, 1, none⟩ = some (.slice a1 n1 c1) ∧ W.cell? ⟨b, 2, none⟩ = some (.string ak) ∧ W.cell? ⟨b, 3, none⟩ = some (.int .i64 ac) ∧ W.cell? ⟨b, 4, none⟩ = some (.bool wd) ∧ W.cell? ⟨b, 5, none⟩ = some (.slice none 0 0) :=
      ⟨hBW.cell 0, hBW.cell 1, hBW.cell 2, hBW.cell 3, hBW.cell 4, hBW.cell 5⟩
    have HW : Hid (Below w.heap.size w W ∧ Has w.heap.size (typeC uk un) 76 W ∧ Own107 (w.heap.size + 1) W ∧ Has b #[.slice a0 n0 c0, .slice a1 n1 c1, .string ak, .int .i64 ac, .bool wd, .slice none 0 0, .string ⟨#[]⟩, .bool false, .bool false] 105 W) := ⟨hbel, h76, hown, hBW⟩
    have ne3 : b ≠ W.heap.size := by omega
    clear hbel h76 hown hBW HB
    have hO1 := (own_new W).drew
    go_region_held3 (fun w' => w'.cell? ⟨b, 0, none⟩ = some (.slice a0 n0 c0) ∧ w'.cell? ⟨b, 1, none⟩ = some (.slice a1 n1 c1) ∧ w'.cell? ⟨b, 2, none⟩ = some (.string ak) ∧ w'.cell? ⟨b, 3, none⟩ = some (.int .i64 ac) ∧ w'.cell? ⟨b, 4, none⟩ = some (.bool wd) ∧ w'.cell? ⟨b, 5, none⟩ = some (.slice none 0 0))
      (first | exact S1 | exact keep6 W ne3 S1 _ | exact keep6b W ne3 S1 _ _) (fail)
    refine forget_goal (fun V => ∃ V0, V = V0.setRow W.heap.size (holdC ⟨#[]⟩ ⟨#[]⟩ ⟨#[]⟩ ⟨#[]⟩ ⟨#[]⟩ ⟨#[]⟩ wd (.slice a0 n0 c0) (.slice a1 n1 c1) ak ac) ∧ V0 = (W.alloc (.cells (holdC ⟨#[]⟩ ⟨#[]⟩ ⟨#[]⟩ ⟨#[]⟩ ⟨#[]⟩ ⟨#[]⟩ false (.slice none 0 0) (.slice none 0 0) ⟨#[]⟩ 0) 107)).drew) ⟨_, rfl, rfl⟩ ?_
    rintro _ ⟨V, rfl, hV⟩
    have hbV : Below w.heap.size w V := by rw [hV]; exact (HW.out.1.alloc (by omega) _).drew
    have h76V : Has w.heap.size (typeC uk un) 76 V := by rw [hV]; exact (HW.out.2.1.alloc _).drew
    have ho6 : Own107 (w.heap.size + 1) V := by rw [hV]; exact (HW.out.2.2.1.alloc _).drew
    have ho7 : Own107 W.heap.size V := by rw [hV]; exact (own_new W).drew
    have hBV : Has b #[.slice a0 n0 c0, .slice a1 n1 c1, .string ak, .int .i64 ac, .bool wd, .slice none 0 0, .string ⟨#[]⟩, .bool false, .bool false] 105 V := by rw [hV]; exact (HW.out.2.2.2.alloc _).drew
    clear hV
    have E1 : ∀ c : Array Value, (LdC ⟨w.heap.size, 0, none⟩ 0 12 #[]).run Try.prog (V.setRow W.heap.size c) = .ok (typeC uk un) (V.setRow W.heap.size c) := fun c => run_LdC (h76V.other _ (by omega) c) rfl
    have E2 : ∀ c : Array Value, Own107 (w.heap.size + 1) (V.setRow W.heap.size c) := fun c => ho6.other _ (by omega) c
    have E6 : ∀ c : Array Value, (V.setRow W.heap.size c).cell? ⟨b, 6, none⟩ = some (.string ⟨#[]⟩) := fun c => (hBV.other _ ne3 c).cell 6
    have E7 : ∀ c : Array Value, (V.setRow W.heap.size c).cell? ⟨b, 7, none⟩ = some (.bool false) := fun c => (hBV.other _ ne3 c).cell 7
    have R0 := fun k n fk fn ok on vk vn => run_St76_0 (w := V) (g := W.heap.size) ho7 k n fk fn ok on vk vn wd a0 a1 n0 c0 n1 c1 ak ac
    have R12 := fun k n fk fn ok on vk vn => run_St76_12 (w := V) (g := W.heap.size) ho7 k n fk fn ok on vk vn wd a0 a1 n0 c0 n1 c1 ak ac
    have RL := fun fk fn ok on vk vn => run_Ld107H (w := V) (g := W.heap.size) ho7 fk fn ok on vk vn wd a0 a1 n0 c0 n1 c1 ak ac
    have RC := fun fk fn ok on vk vn => cell_St107 (w := V) (g := W.heap.size) ho7 fk fn ok on vk vn wd a0 a1 n0 c0 n1 c1 ak ac
    have HF : Hid (∀ c d : Array Value, Below w.heap.size w ((V.setRow W.heap.size c).setRow (w.heap.size + 1) d) ∧ Has (w.heap.size + 1) d 107 ((V.setRow W.heap.size c).setRow (w.heap.size + 1) d)) :=
      fun c d => ⟨below_setRow' (below_setRow' hbV (by omega) c) (by omega) d, by obtain ⟨old, h, _⟩ := E2 c; exact h.set d⟩
    clear hbV h76V ho6 hBV HW S1
    go_wp2
    refine bodyPost_ret (v := .agg (holdC ⟨#[]⟩ ⟨#[]⟩ ⟨#[]⟩ ⟨#[]⟩ ⟨#[]⟩ ⟨#[]⟩ wd (.slice a0 n0 c0) (.slice a1 n1 c1) ak ac)) ?_ rfl ⟨rfl, (HF.out _ _).1⟩
    exact results_cell_row Try.results49 _ _ (w.heap.size + 1) 107 _ (0, 0) _ rfl (HF.out _ _).2 Try.underlying107 rfl Try.size107

set_option maxRecDepth 100000 in
set_option maxHeartbeats 800000 in
theorem hold49_else3 (uk un : ByteArray) (sz : Int) (w : World) (b : Nat) (a0 a1 : Option Addr) (n0 c0 n1 c1 : Nat) (ak : ByteArray) (ac : Int) (wd : Bool)
    (hb : Has b #[.slice a0 n0 c0, .slice a1 n1 c1, .string ak, .int .i64 ac, .bool wd, .slice none 0 0, .string ⟨#[]⟩, .bool true, .bool false] 105 w)
    (hD : a0.isNone = true ∨ (a0.isNone = false ∧ ((n0 : Int) != sz) = false)) :
    Calls Try.prog 49 #[.pointer (some ⟨b, 0, none⟩), .agg (typeC uk un), .int .i64 sz] w
      fun e w' => e = .returned (.agg (holdC uk un uk un ⟨#[]⟩ ⟨#[]⟩ wd (.slice a0 n0 c0) (.slice a1 n1 c1) ak ac)) ∧ Below w.heap.size w w' := by
  have q99 : ∀ (w : World) (a : Option Addr) (n c n' c' : Nat), (binOp .neq 99 (.slice a n c) (.slice none n' c')).run Try.prog w = .ok (.bool (!a.isNone)) w := fun w a n c n' c' => run_neq_slice_nil_any w _ _ a n c n' c' Try.underlying99
  have hlt : b < w.heap.size := hb.lt
  have hbH := hb
  have k0 := hb.cell 0
  have k8 := hb.cell 8
  simp only [List.getElem?_toArray, List.getElem?_cons_succ, List.getElem?_cons_zero] at k0 k8
  have HB : Hid (Has b _ 105 w) := hb
  clear hb hbH
  rcases hD with h0 | ⟨h0, hn⟩
  all_goals
    go_enter Try.func49, Try.ntmps49
    go_wp2
    refine forget_world (fun W => Below w.heap.size w W ∧ Has w.heap.size (typeC uk un) 76 W ∧ Own107 (w.heap.size + 1) W) ⟨((Below.refl _ _).alloc (Nat.le_refl _) _).alloc (by simp) _, (Has.new _ _ _).alloc _, _, heap_alloc2_new w _ _, rfl⟩ ?_
    rintro W ⟨hbel, h76, hown⟩
    have hs1 : w.heap.size + 1 < W.heap.size := by obtain ⟨_, h, _⟩ := hown; exact h.lt
    have hBW := HB.out.below hbel hlt
    clear k0 k8
    have S1 : W.cell? ⟨b, 0, none⟩ = some (.slice a0 n0 c0) ∧ W.cell? ⟨b, 1, none⟩ = some (.slice a1 n1 c1) ∧ W.cell? ⟨b, 2, none⟩ = some (.string ak) ∧ W.cell? ⟨b, 3, none⟩ = some (.int .i64 ac) ∧ W.cell? ⟨b, 4, none⟩ = some (.bool wd) ∧ W.cell? ⟨b, 5, none⟩ = some (.slice none 0 0) :=
      ⟨hBW.cell 0, hBW.cell 1, hBW.cell 2, hBW.cell 3, hBW.cell 4, hBW.cell 5⟩
    have HW : Hid (Below w.heap.size w W ∧ Has w.heap.size (typeC uk un) 76 W ∧ Own107 (w.heap.size + 1) W ∧ Has b #[.slice a0 n0 c0, .slice a1 n1 c1, .string ak, .int .i64 ac, .bool wd, .slice none 0 0, .string ⟨#[]⟩, .bool true, .bool false] 105 W) := ⟨hbel, h76, hown, hBW⟩
    have ne3 : b ≠ W.heap.size := by omega
    clear hbel h76 hown hBW HB
    have hO1 := (own_new W).drew
    go_region_held3 (fun w' => w'.cell? ⟨b, 0, none⟩ = some (.slice a0 n0 c0) ∧ w'.cell? ⟨b, 1, none⟩ = some (.slice a1 n1 c1) ∧ w'.cell? ⟨b, 2, none⟩ = some (.string ak) ∧ w'.cell? ⟨b, 3, none⟩ = some (.int .i64 ac) ∧ w'.cell? ⟨b, 4, none⟩ = some (.bool wd) ∧ w'.cell? ⟨b, 5, none⟩ = some (.slice none 0 0))
      (first | exact S1 | exact keep6 W ne3 S1 _ | exact keep6b W ne3 S1 _ _) (fail)
    refine forget_goal (fun V => ∃ V0, V = V0.setRow W.heap.size (holdC ⟨#[]⟩ ⟨#[]⟩ ⟨#[]⟩ ⟨#[]⟩ ⟨#[]⟩ ⟨#[]⟩ wd (.slice a0 n0 c0) (.slice a1 n1 c1) ak ac) ∧ V0 = (W.alloc (.cells (holdC ⟨#[]⟩ ⟨#[]⟩ ⟨#[]⟩ ⟨#[]⟩ ⟨#[]⟩ ⟨#[]⟩ false (.slice none 0 0) (.slice none 0 0) ⟨#[]⟩ 0) 107)).drew) ⟨_, rfl, rfl⟩ ?_
    rintro _ ⟨V, rfl, hV⟩
    have hbV : Below w.heap.size w V := by rw [hV]; exact (HW.out.1.alloc (by omega) _).drew
    have h76V : Has w.heap.size (typeC uk un) 76 V := by rw [hV]; exact (HW.out.2.1.alloc _).drew
    have ho6 : Own107 (w.heap.size + 1) V := by rw [hV]; exact (HW.out.2.2.1.alloc _).drew
    have ho7 : Own107 W.heap.size V := by rw [hV]; exact (own_new W).drew
    have hBV : Has b #[.slice a0 n0 c0, .slice a1 n1 c1, .string ak, .int .i64 ac, .bool wd, .slice none 0 0, .string ⟨#[]⟩, .bool true, .bool false] 105 V := by rw [hV]; exact (HW.out.2.2.2.alloc _).drew
    clear hV
    have E1 : ∀ c : Array Value, (LdC ⟨w.heap.size, 0, none⟩ 0 12 #[]).run Try.prog (V.setRow W.heap.size c) = .ok (typeC uk un) (V.setRow W.heap.size c) := fun c => run_LdC (h76V.other _ (by omega) c) rfl
    have E2 : ∀ c : Array Value, Own107 (w.heap.size + 1) (V.setRow W.heap.size c) := fun c => ho6.other _ (by omega) c
    have E6 : ∀ c : Array Value, (V.setRow W.heap.size c).cell? ⟨b, 6, none⟩ = some (.string ⟨#[]⟩) := fun c => (hBV.other _ ne3 c).cell 6
    have E7 : ∀ c : Array Value, (V.setRow W.heap.size c).cell? ⟨b, 7, none⟩ = some (.bool true) := fun c => (hBV.other _ ne3 c).cell 7
    have R0 := fun k n fk fn ok on vk vn => run_St76_0 (w := V) (g := W.heap.size) ho7 k n fk fn ok on vk vn wd a0 a1 n0 c0 n1 c1 ak ac
    have R12 := fun k n fk fn ok on vk vn => run_St76_12 (w := V) (g := W.heap.size) ho7 k n fk fn ok on vk vn wd a0 a1 n0 c0 n1 c1 ak ac
    have RL := fun fk fn ok on vk vn => run_Ld107H (w := V) (g := W.heap.size) ho7 fk fn ok on vk vn wd a0 a1 n0 c0 n1 c1 ak ac
    have RC := fun fk fn ok on vk vn => cell_St107 (w := V) (g := W.heap.size) ho7 fk fn ok on vk vn wd a0 a1 n0 c0 n1 c1 ak ac
    have HF : Hid (∀ c d : Array Value, Below w.heap.size w ((V.setRow W.heap.size c).setRow (w.heap.size + 1) d) ∧ Has (w.heap.size + 1) d 107 ((V.setRow W.heap.size c).setRow (w.heap.size + 1) d)) :=
      fun c d => ⟨below_setRow' (below_setRow' hbV (by omega) c) (by omega) d, by obtain ⟨old, h, _⟩ := E2 c; exact h.set d⟩
    clear hbV h76V ho6 hBV HW S1
    go_wp2
    refine bodyPost_ret (v := .agg (holdC uk un uk un ⟨#[]⟩ ⟨#[]⟩ wd (.slice a0 n0 c0) (.slice a1 n1 c1) ak ac)) ?_ rfl ⟨rfl, (HF.out _ _).1⟩
    exact results_cell_row Try.results49 _ _ (w.heap.size + 1) 107 _ (0, 0) _ rfl (HF.out _ _).2 Try.underlying107 rfl Try.size107

set_option maxRecDepth 100000 in
set_option maxHeartbeats 800000 in
theorem hold49_else4 (uk un : ByteArray) (sz : Int) (w : World) (b : Nat) (a0 a1 : Option Addr) (n0 c0 n1 c1 : Nat) (ak fl : ByteArray) (ac : Int) (wd : Bool)
    (hb : Has b #[.slice a0 n0 c0, .slice a1 n1 c1, .string ak, .int .i64 ac, .bool wd, .slice none 0 0, .string fl, .bool true, .bool false] 105 w)
    (hD : a0.isNone = true ∨ (a0.isNone = false ∧ ((n0 : Int) != sz) = false)) (hf : (fl.toList.isEmpty) = false) :
    Calls Try.prog 49 #[.pointer (some ⟨b, 0, none⟩), .agg (typeC uk un), .int .i64 sz] w
      fun e w' => e = .returned (.agg (holdC fl ⟨#[]⟩ uk un ⟨#[]⟩ ⟨#[]⟩ wd (.slice a0 n0 c0) (.slice a1 n1 c1) ak ac)) ∧ Below w.heap.size w w' := by
  have q99 : ∀ (w : World) (a : Option Addr) (n c n' c' : Nat), (binOp .neq 99 (.slice a n c) (.slice none n' c')).run Try.prog w = .ok (.bool (!a.isNone)) w := fun w a n c n' c' => run_neq_slice_nil_any w _ _ a n c n' c' Try.underlying99
  have hlt : b < w.heap.size := hb.lt
  have hbH := hb
  have k0 := hb.cell 0
  have k8 := hb.cell 8
  simp only [List.getElem?_toArray, List.getElem?_cons_succ, List.getElem?_cons_zero] at k0 k8
  have HB : Hid (Has b _ 105 w) := hb
  clear hb hbH
  rcases hD with h0 | ⟨h0, hn⟩
  all_goals
    go_enter Try.func49, Try.ntmps49
    go_wp2
    refine forget_world (fun W => Below w.heap.size w W ∧ Has w.heap.size (typeC uk un) 76 W ∧ Own107 (w.heap.size + 1) W) ⟨((Below.refl _ _).alloc (Nat.le_refl _) _).alloc (by simp) _, (Has.new _ _ _).alloc _, _, heap_alloc2_new w _ _, rfl⟩ ?_
    rintro W ⟨hbel, h76, hown⟩
    have hs1 : w.heap.size + 1 < W.heap.size := by obtain ⟨_, h, _⟩ := hown; exact h.lt
    have hBW := HB.out.below hbel hlt
    clear k0 k8
    have S1 : W.cell? ⟨b, 0, none⟩ = some (.slice a0 n0 c0) ∧ W.cell? ⟨b, 1, none⟩ = some (.slice a1 n1 c1) ∧ W.cell? ⟨b, 2, none⟩ = some (.string ak) ∧ W.cell? ⟨b, 3, none⟩ = some (.int .i64 ac) ∧ W.cell? ⟨b, 4, none⟩ = some (.bool wd) ∧ W.cell? ⟨b, 5, none⟩ = some (.slice none 0 0) :=
      ⟨hBW.cell 0, hBW.cell 1, hBW.cell 2, hBW.cell 3, hBW.cell 4, hBW.cell 5⟩
    have HW : Hid (Below w.heap.size w W ∧ Has w.heap.size (typeC uk un) 76 W ∧ Own107 (w.heap.size + 1) W ∧ Has b #[.slice a0 n0 c0, .slice a1 n1 c1, .string ak, .int .i64 ac, .bool wd, .slice none 0 0, .string fl, .bool true, .bool false] 105 W) := ⟨hbel, h76, hown, hBW⟩
    have ne3 : b ≠ W.heap.size := by omega
    clear hbel h76 hown hBW HB
    have hO1 := (own_new W).drew
    go_region_held3 (fun w' => w'.cell? ⟨b, 0, none⟩ = some (.slice a0 n0 c0) ∧ w'.cell? ⟨b, 1, none⟩ = some (.slice a1 n1 c1) ∧ w'.cell? ⟨b, 2, none⟩ = some (.string ak) ∧ w'.cell? ⟨b, 3, none⟩ = some (.int .i64 ac) ∧ w'.cell? ⟨b, 4, none⟩ = some (.bool wd) ∧ w'.cell? ⟨b, 5, none⟩ = some (.slice none 0 0))
      (first | exact S1 | exact keep6 W ne3 S1 _ | exact keep6b W ne3 S1 _ _) (fail)
    refine forget_goal (fun V => ∃ V0, V = V0.setRow W.heap.size (holdC ⟨#[]⟩ ⟨#[]⟩ ⟨#[]⟩ ⟨#[]⟩ ⟨#[]⟩ ⟨#[]⟩ wd (.slice a0 n0 c0) (.slice a1 n1 c1) ak ac) ∧ V0 = (W.alloc (.cells (holdC ⟨#[]⟩ ⟨#[]⟩ ⟨#[]⟩ ⟨#[]⟩ ⟨#[]⟩ ⟨#[]⟩ false (.slice none 0 0) (.slice none 0 0) ⟨#[]⟩ 0) 107)).drew) ⟨_, rfl, rfl⟩ ?_
    rintro _ ⟨V, rfl, hV⟩
    have hbV : Below w.heap.size w V := by rw [hV]; exact (HW.out.1.alloc (by omega) _).drew
    have h76V : Has w.heap.size (typeC uk un) 76 V := by rw [hV]; exact (HW.out.2.1.alloc _).drew
    have ho6 : Own107 (w.heap.size + 1) V := by rw [hV]; exact (HW.out.2.2.1.alloc _).drew
    have ho7 : Own107 W.heap.size V := by rw [hV]; exact (own_new W).drew
    have hBV : Has b #[.slice a0 n0 c0, .slice a1 n1 c1, .string ak, .int .i64 ac, .bool wd, .slice none 0 0, .string fl, .bool true, .bool false] 105 V := by rw [hV]; exact (HW.out.2.2.2.alloc _).drew
    clear hV
    have E1 : ∀ c : Array Value, (LdC ⟨w.heap.size, 0, none⟩ 0 12 #[]).run Try.prog (V.setRow W.heap.size c) = .ok (typeC uk un) (V.setRow W.heap.size c) := fun c => run_LdC (h76V.other _ (by omega) c) rfl
    have E2 : ∀ c : Array Value, Own107 (w.heap.size + 1) (V.setRow W.heap.size c) := fun c => ho6.other _ (by omega) c
    have E6 : ∀ c : Array Value, (V.setRow W.heap.size c).cell? ⟨b, 6, none⟩ = some (.string fl) := fun c => (hBV.other _ ne3 c).cell 6
    have E7 : ∀ c : Array Value, (V.setRow W.heap.size c).cell? ⟨b, 7, none⟩ = some (.bool true) := fun c => (hBV.other _ ne3 c).cell 7
    have R0 := fun k n fk fn ok on vk vn => run_St76_0 (w := V) (g := W.heap.size) ho7 k n fk fn ok on vk vn wd a0 a1 n0 c0 n1 c1 ak ac
    have R12 := fun k n fk fn ok on vk vn => run_St76_12 (w := V) (g := W.heap.size) ho7 k n fk fn ok on vk vn wd a0 a1 n0 c0 n1 c1 ak ac
    have RL := fun fk fn ok on vk vn => run_Ld107H (w := V) (g := W.heap.size) ho7 fk fn ok on vk vn wd a0 a1 n0 c0 n1 c1 ak ac
    have RC := fun fk fn ok on vk vn => cell_St107 (w := V) (g := W.heap.size) ho7 fk fn ok on vk vn wd a0 a1 n0 c0 n1 c1 ak ac
    have HF : Hid (∀ c d : Array Value, Below w.heap.size w ((V.setRow W.heap.size c).setRow (w.heap.size + 1) d) ∧ Has (w.heap.size + 1) d 107 ((V.setRow W.heap.size c).setRow (w.heap.size + 1) d)) :=
      fun c d => ⟨below_setRow' (below_setRow' hbV (by omega) c) (by omega) d, by obtain ⟨old, h, _⟩ := E2 c; exact h.set d⟩
    clear hbV h76V ho6 hBV HW S1
    go_wp2
    refine bodyPost_ret (v := .agg (holdC fl ⟨#[]⟩ uk un ⟨#[]⟩ ⟨#[]⟩ wd (.slice a0 n0 c0) (.slice a1 n1 c1) ak ac)) ?_ rfl ⟨rfl, (HF.out _ _).1⟩
    exact results_cell_row Try.results49 _ _ (w.heap.size + 1) 107 _ (0, 0) _ rfl (HF.out _ _).2 Try.underlying107 rfl Try.size107

end Go.Proofs.Qxb6600004a
