import Derived.Test.Qxb6600004aHi
import Derived.Deep.Cut
namespace Go.Proofs.Qxb6600004a
open Go.RowKit

theorem ByteRow.setRow {w : World} {a : Option Addr} {n : Nat} (h : ByteRow w a n) {g : Nat} {old : Array Value} {t : TypeId} (ho : Has g old t w) (h1 : old.toList.all notByte = true) (c : Array Value) : ByteRow (w.setRow g c) a n := by
  rcases h with h | ⟨b, off, f, ha, hlt, hc⟩
  · exact .inl h
  · refine .inr ⟨b, off, f, ha, by simpa using hlt, fun i hi => ?_⟩
    by_cases hg : b = g
    · have e := hc i hi
      rw [hg, ho.cell] at e
      have hm : Value.int .u8 (f i) ∈ old.toList := by
        have := Array.mem_of_getElem? e
        simpa using this
      have := List.all_eq_true.1 h1 _ hm
      simp [notByte] at this
    · exact (cell_setRow_other w g c ⟨b, off + i, none⟩ hg).trans (hc i hi)

/-- GB1Listing's cells. -/
abbrev listC (b0 b1 : Bool) (s2 s3 : Value) (s4 : ByteArray) (i5 : Int) (b6 : Bool) (s7 : ByteArray) (b8 : Bool) : Array Value := #[.bool b0, .bool b1, s2, s3, .string s4, .int .i64 i5, .bool b6, .string s7, .bool b8]

/-- The law's own box of l, and the rows that it leads to. -/
structure Bx (w0 : World) (b0 b1 : Bool) (a2 : Option Addr) (n2 c2 : Nat) (a3 : Option Addr) (n3 c3 : Nat) (s4 : ByteArray) (i5 : Int) (b6 : Bool) (s7 : ByteArray) (b8 : Bool) (w : World) : Prop where
  has : Has w0.heap.size (listC b0 b1 (.slice a2 n2 c2) (.slice a3 n3 c3) s4 i5 b6 s7 b8) 52 w
  r2 : ByteRow w a2 n2
  r3 : ByteRow w a3 n3
  bel : Below w0.heap.size w0 w

theorem Bx.step {w0 : World} {b0 b1 : Bool} {a2 : Option Addr} {n2 c2 : Nat} {a3 : Option Addr} {n3 c3 : Nat} {s4 : ByteArray} {i5 : Int} {b6 : Bool} {s7 : ByteArray} {b8 : Bool} {w w' : World}
    (h : Bx w0 b0 b1 a2 n2 c2 a3 n3 c3 s4 i5 b6 s7 b8 w) (hb : Below w.heap.size w w') : Bx w0 b0 b1 a2 n2 c2 a3 n3 c3 s4 i5 b6 s7 b8 w' :=
  ⟨h.has.below hb h.has.lt, h.r2.below hb, h.r3.below hb, h.bel.trans (hb.mono h.bel.size)⟩

theorem Bx.set2 {w0 : World} {b0 b1 : Bool} {a2 : Option Addr} {n2 c2 : Nat} {a3 : Option Addr} {n3 c3 : Nat} {s4 : ByteArray} {i5 : Int} {b6 : Bool} {s7 : ByteArray} {b8 : Bool} {w : World}
    (h : Bx w0 b0 b1 a2 n2 c2 a3 n3 c3 s4 i5 b6 s7 b8 w) {d2 : Option Addr} {m2 k2 : Nat} (hr : ByteRow w d2 m2) : Bx w0 b0 b1 d2 m2 k2 a3 n3 c3 s4 i5 b6 s7 b8 (w.setCell ⟨w0.heap.size, 2, none⟩ (.slice d2 m2 k2)) := by
  rw [setCell_eq_setRow w w0.heap.size 2 _ 52 (0, 0) _ h.has]
  exact ⟨h.has.set _, hr.setRow h.has rfl _, h.r3.setRow h.has rfl _, below_setRow' h.bel (Nat.le_refl _) _⟩
theorem Bx.set3 {w0 : World} {b0 b1 : Bool} {a2 : Option Addr} {n2 c2 : Nat} {a3 : Option Addr} {n3 c3 : Nat} {s4 : ByteArray} {i5 : Int} {b6 : Bool} {s7 : ByteArray} {b8 : Bool} {w : World}
    (h : Bx w0 b0 b1 a2 n2 c2 a3 n3 c3 s4 i5 b6 s7 b8 w) {d3 : Option Addr} {m3 k3 : Nat} (hr : ByteRow w d3 m3) : Bx w0 b0 b1 a2 n2 c2 d3 m3 k3 s4 i5 b6 s7 b8 (w.setCell ⟨w0.heap.size, 3, none⟩ (.slice d3 m3 k3)) := by
  rw [setCell_eq_setRow w w0.heap.size 3 _ 52 (0, 0) _ h.has]
  exact ⟨h.has.set _, h.r2.setRow h.has rfl _, hr.setRow h.has rfl _, below_setRow' h.bel (Nat.le_refl _) _⟩

theorem Bx.cells {w0 : World} {b0 b1 : Bool} {a2 : Option Addr} {n2 c2 : Nat} {a3 : Option Addr} {n3 c3 : Nat} {s4 : ByteArray} {i5 : Int} {b6 : Bool} {s7 : ByteArray} {b8 : Bool} {w : World}
    (h : Bx w0 b0 b1 a2 n2 c2 a3 n3 c3 s4 i5 b6 s7 b8 w) :
    w.cell? ⟨w0.heap.size, 0, none⟩ = some (.bool b0) ∧ w.cell? ⟨w0.heap.size, 1, none⟩ = some (.bool b1) ∧ w.cell? ⟨w0.heap.size, 2, none⟩ = some (.slice a2 n2 c2) ∧ w.cell? ⟨w0.heap.size, 3, none⟩ = some (.slice a3 n3 c3) ∧ w.cell? ⟨w0.heap.size, 4, none⟩ = some (.string s4) ∧ w.cell? ⟨w0.heap.size, 5, none⟩ = some (.int .i64 i5) ∧ w.cell? ⟨w0.heap.size, 6, none⟩ = some (.bool b6) ∧ w.cell? ⟨w0.heap.size, 7, none⟩ = some (.string s7) ∧ w.cell? ⟨w0.heap.size, 8, none⟩ = some (.bool b8) :=
  ⟨h.has.cell 0, h.has.cell 1, h.has.cell 2, h.has.cell 3, h.has.cell 4, h.has.cell 5, h.has.cell 6, h.has.cell 7, h.has.cell 8⟩

/-- The four shapes of what 'holding' names. -/
def Shape (vr : Bool) (uk un : ByteArray) (H : Hold) : Prop :=
  (vr = false ∧ H.fk = uk ∧ H.fn = un ∧ H.ok = uk ∧ H.on = un ∧ H.vk = ⟨#[]⟩ ∧ H.vn = ⟨#[]⟩) ∨
  (H.fk = uk ∧ H.fn = un ∧ H.ok = uk ∧ H.on = un ∧ H.vk = uk ∧ H.vn = un) ∨
  (vr = false ∧ H.fk ≠ ⟨#[]⟩ ∧ H.ok = uk ∧ H.on = un ∧ H.vk = ⟨#[]⟩ ∧ H.vn = ⟨#[]⟩) ∨
  (vr = false ∧ H.ok = ⟨#[]⟩ ∧ H.on = ⟨#[]⟩ ∧ H.vk = ⟨#[]⟩ ∧ H.vn = ⟨#[]⟩)
theorem holdF_shape (vr : Bool) (a0 : Option Addr) (n0 c0 : Nat) (a1 : Option Addr) (n1 c1 : Nat) (ak : ByteArray) (ac : Int) (wd : Bool) (fl : ByteArray) (op : Bool) (uk un : ByteArray) (sz : Int) :
    Shape vr uk un (holdF vr a0 n0 c0 a1 n1 c1 ak ac wd fl op uk un sz) := by
  unfold holdF
  split
  · exact .inr (.inl ⟨rfl, rfl, rfl, rfl, rfl, rfl⟩)
  have hv : vr = false := by simpa using ‹¬ vr = true›
  split
  · exact .inl ⟨hv, rfl, rfl, rfl, rfl, rfl, rfl⟩
  split <;> split
  · exact .inl ⟨hv, rfl, rfl, rfl, rfl, rfl, rfl⟩
  · exact .inr (.inr (.inr ⟨hv, rfl, rfl, rfl, rfl⟩))
  · exact .inr (.inr (.inl ⟨hv, by assumption, rfl, rfl, rfl, rfl⟩))
  · exact .inr (.inr (.inr ⟨hv, rfl, rfl, rfl, rfl⟩))

theorem outC_fields (H : Hold) (t0 t1 : Option Addr) : outC H t0 t1 = #[.string H.fk, .string H.fn, .string H.ok, .string H.on, .string H.vk, .string H.vn, .bool H.wd, .slice t0 H.m0 H.m0, .slice t1 H.m1 H.m1, .string H.ak, .int .i64 H.ac, .string H.ak, .int .i64 H.ac, .bool false, .int .i64 0, .bool true, .int .i64 0] := rfl

set_option maxRecDepth 100000 in
set_option maxHeartbeats 800000 in
theorem law10_no (b0 b1 b6 b8 : Bool) (a2 a3 : Option Addr) (n2 c2 n3 c3 : Nat) (s4 s7 uk un : ByteArray) (i5 sz : Int) (w : World)
    (h : ¬ n2 + n3 + s4.size + s7.size + uk.size + un.size ≤ 1048576) :
    Calls Try.prog 10 #[.agg #[.bool b0, .bool b1, .slice a2 n2 c2, .slice a3 n3 c3, .string s4, .int .i64 i5, .bool b6, .string s7, .bool b8], .string uk, .string un, .int .i64 sz] w
      fun e w' => e = .returned (.bool true) ∧ Below w.heap.size w w' := by
  go_enter Try.func10, Try.ntmps10
  go_wp2_with fail
  refine (zz36_no b0 b1 b6 b8 a2 a3 n2 c2 n3 c3 s4 s7 uk un i5 sz _ h).mono ?_
  rintro e w1 ⟨rfl, hb⟩
  have hw : Below w.heap.size w w1 := ((Below.refl _ _).alloc (Nat.le_refl _) _).trans (hb.mono (by simp))
  clear hb
  go_wp2
  go_ret
  exact ⟨rfl, hw⟩

set_option maxRecDepth 100000 in
set_option maxHeartbeats 800000 in
theorem law10_some (b1 b6 b8 : Bool) (a2 a3 : Option Addr) (n2 c2 n3 c3 : Nat) (s4 s7 uk un : ByteArray) (i5 sz : Int) (w : World)
    (hr2 : ByteRow w a2 n2) (hr3 : ByteRow w a3 n3) (h : n2 + n3 + s4.size + s7.size + uk.size + un.size ≤ 1048576) :
    Calls Try.prog 10 #[.agg #[.bool false, .bool b1, .slice a2 n2 c2, .slice a3 n3 c3, .string s4, .int .i64 i5, .bool b6, .string s7, .bool b8], .string uk, .string un, .int .i64 sz] w
      fun e w' => e = .returned (.bool true) ∧ Below w.heap.size w w' := by
  have hn2 : n2 ≤ 1048576 := by omega
  have hn3 : n3 ≤ 1048576 := by omega
  go_enter Try.func10, Try.ntmps10
  go_wp2_with fail
  refine (zz36_yes false b1 b6 b8 a2 a3 n2 c2 n3 c3 s4 s7 uk un i5 sz _ h).mono ?_
  rintro e w1 ⟨rfl, hb⟩
  have hx : Bx w false b1 a2 n2 c2 a3 n3 c3 s4 i5 b6 s7 b8 w1 := Bx.step ⟨Has.new _ _ _, hr2.alloc _, hr3.alloc _, (Below.refl _ _).alloc (Nat.le_refl _) _⟩ hb
  have hcs := hx.cells
  clear hb
  go_wp2_with fail
  refine (small30 false b1 b6 b8 a2 a3 n2 c2 n3 c3 s4 s7 uk un i5 _ h).mono ?_
  rintro e w2 ⟨rfl, hb⟩
  replace hx := hx.step hb
  replace hcs := hx.cells
  clear hb
  go_wp2_with fail
  refine (clone31 a2 n2 c2 _ hx.r2 hn2).mono ?_
  rintro e w3 ⟨d2, rfl, hd2, hrd2, hb⟩
  replace hx := hx.step hb
  replace hcs := hx.cells
  have hfz := hx.has.free 2
  have hy := hx.set2 (k2 := n2) hrd2
  have HY := hy.cells
  clear hb hrd2
  go_wp2_with fail
  refine (clone31 a3 n3 c3 _ hy.r3 hn3).mono ?_
  rintro e w4 ⟨d3, rfl, hd3, hrd3, hb⟩
  replace hx := hy.step hb
  replace hcs := hx.cells
  have hfz3 := hx.has.free 3
  clear hy HY hfz
  have hy := hx.set3 (k3 := n3) hrd3
  have HY := hy.cells
  clear hb hrd3
  go_wp2_with fail
  refine (hlrun_some b1 b6 b8 d2 d3 n2 n2 n3 n3 s4 s7 uk un i5 sz _ hy.r2 hy.r3 hn2 hn3).mono ?_
  rintro e w5 ⟨f0, f1, t0, t1, hf0, rfl, ht0, ht1, hb⟩
  replace hx := hy.step hb
  have hsh := holdF_shape b1 f0 n2 n2 f1 n3 n3 s4 i5 b6 s7 b8 uk un sz
  clear hy HY hb hcs hfz3 hd2 hd3 hf0 ht0 ht1
  generalize holdF b1 f0 n2 n2 f1 n3 n3 s4 i5 b6 s7 b8 uk un sz = H at *
  go_upto_region 8 with (refine wpList_store_last rfl 57 (.tmp 9) (.tmp 32) rfl w5.heap.size rfl _ (outC H t0 t1) 57 rfl rfl Try.size57 rfl rfl ?_)
  refine forget_world (fun W => Has w5.heap.size (outC H t0 t1) 57 W ∧ W.cell? ⟨w.heap.size, 0, none⟩ = some (.bool false) ∧ W.cell? ⟨w.heap.size, 1, none⟩ = some (.bool b1) ∧ Below w.heap.size w W) ⟨Has.new _ _ _, (hx.has.alloc _).cell 0, (hx.has.alloc _).cell 1, hx.bel.alloc hx.bel.size _⟩ ?_
  rintro W ⟨hh, hc0, hc1, hbel⟩
  have HW : Hid (Below w.heap.size w W) := hbel
  obtain ⟨fk, fn, ok, on, vk, vn, wd, s0, m0, k0, s1, m1, k1, ak, ac⟩ := H
  simp only [Shape] at hsh
  have z0 := hh.cell 0
  have z1 := hh.cell 1
  have z2 := hh.cell 2
  have z3 := hh.cell 3
  have z4 := hh.cell 4
  have z5 := hh.cell 5
  have z9 := hh.cell 9
  have z10 := hh.cell 10
  have z11 := hh.cell 11
  have z12 := hh.cell 12
  have z13 := hh.cell 13
  have z14 := hh.cell 14
  simp only [List.getElem?_toArray, List.getElem?_cons_succ, List.getElem?_cons_zero] at z0 z1 z2 z3 z4 z5 z9 z10 z11 z12 z13 z14
  clear hx hh hbel
  generalize w5.heap.size = g9 at *
  rcases hsh with ⟨rfl, rfl, rfl, rfl, rfl, rfl, rfl⟩ | ⟨rfl, rfl, rfl, rfl, rfl, rfl⟩ | ⟨rfl, hfk, rfl, rfl, rfl, rfl⟩ | ⟨rfl, rfl, rfl, rfl, rfl⟩
  · by_cases hu : ok = ⟨#[]⟩
    · subst hu
      as_aux_lemma =>
      go_wp2
      all_goals (go_ret; exact ⟨rfl, HW.out⟩)
    · have hu' : ok.toList.isEmpty = false := notEmpty hu
      as_aux_lemma =>
      go_wp2
      all_goals (go_ret; exact ⟨rfl, HW.out⟩)
  · by_cases hu : vk = ⟨#[]⟩
    · subst hu
      as_aux_lemma =>
      go_wp2
      all_goals (go_ret; exact ⟨rfl, HW.out⟩)
    · have hu' : vk.toList.isEmpty = false := notEmpty hu
      as_aux_lemma =>
      go_wp2
      all_goals (go_ret; exact ⟨rfl, HW.out⟩)
  · have hf' : fk.toList.isEmpty = false := notEmpty hfk
    by_cases hu : ok = ⟨#[]⟩
    · subst hu
      as_aux_lemma =>
      go_wp2
      all_goals (go_ret; exact ⟨rfl, HW.out⟩)
    · have hu' : ok.toList.isEmpty = false := notEmpty hu
      as_aux_lemma =>
      go_wp2
      all_goals (go_ret; exact ⟨rfl, HW.out⟩)
  · as_aux_lemma =>
    go_wp2
    all_goals (go_ret; exact ⟨rfl, HW.out⟩)

set_option maxRecDepth 100000 in
set_option maxHeartbeats 800000 in
theorem law10_nil (b1 b6 b8 : Bool) (a2 a3 : Option Addr) (n2 c2 n3 c3 : Nat) (s4 s7 uk un : ByteArray) (i5 sz : Int) (w : World)
    (hr2 : ByteRow w a2 n2) (hr3 : ByteRow w a3 n3) (h : n2 + n3 + s4.size + s7.size + uk.size + un.size ≤ 1048576) :
    Calls Try.prog 10 #[.agg #[.bool true, .bool b1, .slice a2 n2 c2, .slice a3 n3 c3, .string s4, .int .i64 i5, .bool b6, .string s7, .bool b8], .string uk, .string un, .int .i64 sz] w
      fun e w' => e = .returned (.bool true) ∧ Below w.heap.size w w' := by
  have hn2 : n2 ≤ 1048576 := by omega
  have hn3 : n3 ≤ 1048576 := by omega
  go_enter Try.func10, Try.ntmps10
  go_wp2_with fail
  refine (zz36_yes true b1 b6 b8 a2 a3 n2 c2 n3 c3 s4 s7 uk un i5 sz _ h).mono ?_
  rintro e w1 ⟨rfl, hb⟩
  have hx : Bx w true b1 a2 n2 c2 a3 n3 c3 s4 i5 b6 s7 b8 w1 := Bx.step ⟨Has.new _ _ _, hr2.alloc _, hr3.alloc _, (Below.refl _ _).alloc (Nat.le_refl _) _⟩ hb
  have hcs := hx.cells
  clear hb
  go_wp2_with fail
  refine (small30 true b1 b6 b8 a2 a3 n2 c2 n3 c3 s4 s7 uk un i5 _ h).mono ?_
  rintro e w2 ⟨rfl, hb⟩
  replace hx := hx.step hb
  replace hcs := hx.cells
  clear hb
  go_wp2_with fail
  refine (clone31 a2 n2 c2 _ hx.r2 hn2).mono ?_
  rintro e w3 ⟨d2, rfl, hd2, hrd2, hb⟩
  replace hx := hx.step hb
  replace hcs := hx.cells
  have hfz := hx.has.free 2
  have hy := hx.set2 (k2 := n2) hrd2
  have HY := hy.cells
  clear hb hrd2
  go_wp2_with fail
  refine (clone31 a3 n3 c3 _ hy.r3 hn3).mono ?_
  rintro e w4 ⟨d3, rfl, hd3, hrd3, hb⟩
  replace hx := hy.step hb
  replace hcs := hx.cells
  have hfz3 := hx.has.free 3
  clear hy HY hfz
  have hy := hx.set3 (k3 := n3) hrd3
  have HY := hy.cells
  clear hb hrd3
  go_wp2_with fail
  refine (hlrun_nil b1 b6 b8 d2 d3 n2 n2 n3 n3 s4 s7 uk un i5 sz _).mono ?_
  rintro e w5 ⟨t0, t1, rfl, ht0, ht1, hb⟩
  replace hx := hy.step hb
  clear hy HY hb hcs hfz3 hd2 hd3 ht0 ht1
  obtain ⟨H, hH⟩ : ∃ H, H = holdNil uk un := ⟨_, rfl⟩
  rw [← hH]
  have hsh : H.fk = uk ∧ H.fn = un ∧ H.ok = uk ∧ H.on = un ∧ H.vk = ⟨#[]⟩ ∧ H.vn = ⟨#[]⟩ := by rw [hH]; exact ⟨rfl, rfl, rfl, rfl, rfl, rfl⟩
  clear hH
  go_upto_region 8 with (refine wpList_store_last rfl 57 (.tmp 9) (.tmp 32) rfl w5.heap.size rfl _ (outC H t0 t1) 57 rfl rfl Try.size57 rfl rfl ?_)
  refine forget_world (fun W => Has w5.heap.size (outC H t0 t1) 57 W ∧ W.cell? ⟨w.heap.size, 0, none⟩ = some (.bool true) ∧ W.cell? ⟨w.heap.size, 1, none⟩ = some (.bool b1) ∧ Below w.heap.size w W) ⟨Has.new _ _ _, (hx.has.alloc _).cell 0, (hx.has.alloc _).cell 1, hx.bel.alloc hx.bel.size _⟩ ?_
  rintro W ⟨hh, hc0, hc1, hbel⟩
  have HW : Hid (Below w.heap.size w W) := hbel
  obtain ⟨fk, fn, ok, on, vk, vn, wd, s0, m0, k0, s1, m1, k1, ak, ac⟩ := H
  simp only at hsh
  have z0 := hh.cell 0
  have z1 := hh.cell 1
  have z2 := hh.cell 2
  have z3 := hh.cell 3
  have z4 := hh.cell 4
  have z5 := hh.cell 5
  have z9 := hh.cell 9
  have z10 := hh.cell 10
  have z11 := hh.cell 11
  have z12 := hh.cell 12
  have z13 := hh.cell 13
  have z14 := hh.cell 14
  simp only [List.getElem?_toArray, List.getElem?_cons_succ, List.getElem?_cons_zero] at z0 z1 z2 z3 z4 z5 z9 z10 z11 z12 z13 z14
  clear hx hh hbel
  generalize w5.heap.size = g9 at *
  obtain ⟨rfl, rfl, rfl, rfl, rfl, rfl⟩ := hsh
  by_cases hu : ok = ⟨#[]⟩
  · subst hu
    as_aux_lemma =>
    go_wp2
    all_goals (go_ret; exact ⟨rfl, HW.out⟩)
  · have hu' : ok.toList.isEmpty = false := notEmpty hu
    as_aux_lemma =>
    go_wp2
    all_goals (go_ret; exact ⟨rfl, HW.out⟩)

theorem law10 (b0 b1 b6 b8 : Bool) (a2 a3 : Option Addr) (n2 c2 n3 c3 : Nat) (s4 s7 uk un : ByteArray) (i5 sz : Int) (w : World)
    (hr2 : ByteRow w a2 n2) (hr3 : ByteRow w a3 n3) :
    Calls Try.prog 10 #[.agg #[.bool b0, .bool b1, .slice a2 n2 c2, .slice a3 n3 c3, .string s4, .int .i64 i5, .bool b6, .string s7, .bool b8], .string uk, .string un, .int .i64 sz] w
      fun e w' => e = .returned (.bool true) ∧ Below w.heap.size w w' := by
  by_cases h : n2 + n3 + s4.size + s7.size + uk.size + un.size ≤ 1048576
  · cases b0 with
    | true => exact law10_nil b1 b6 b8 a2 a3 n2 c2 n3 c3 s4 s7 uk un i5 sz w hr2 hr3 h
    | false => exact law10_some b1 b6 b8 a2 a3 n2 c2 n3 c3 s4 s7 uk un i5 sz w hr2 hr3 h
  · exact law10_no b0 b1 b6 b8 a2 a3 n2 c2 n3 c3 s4 s7 uk un i5 sz w h

end Go.Proofs.Qxb6600004a
