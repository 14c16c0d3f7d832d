import Derived.Test.Qxb6600004aHl
namespace Go.Proofs.Qxb6600004a
open Go.RowKit

set_option maxRecDepth 100000 in
set_option maxHeartbeats 800000 in
theorem law9_no (b0 b1 : Bool) (b6 b8 : Bool) (a2 a3 : Option Addr) (n2 c2 n3 c3 : Nat) (s4 s7 uk un : ByteArray) (i5 sz : Int) (w : World)
    (h : ¬ n2 + n3 + s4.size + s7.size + uk.size + un.size ≤ 1048576) :
    Calls Try.prog 9 #[.agg #[.bool b0, .bool b1, .slice a2 n2 c2, .slice a3 n3 c3, .string s4, .int .i64 i5, .bool b6, .string s7, .bool b8], .string uk, .string un, .int .i64 sz] w
      fun e w' => e = .returned (.bool true) ∧ Below w.heap.size w w' := by
  go_enter Try.func9, Try.ntmps9
  go_wp2_with fail
  refine (zz35_no b0 b1 b6 b8 a2 a3 n2 c2 n3 c3 s4 s7 uk un i5 sz _ h).mono ?_
  rintro e w1 ⟨rfl, hb⟩
  have hw : Below w.heap.size w w1 := ((Below.refl _ _).alloc (Nat.le_refl _) _).trans (hb.mono (by simp))
  clear hb
  go_wp2
  go_ret
  exact ⟨rfl, hw⟩

set_option maxRecDepth 100000 in
set_option maxHeartbeats 800000 in
theorem law9_e1 (b1 : Bool) (b6 b8 : Bool) (a2 a3 : Option Addr) (n2 c2 n3 c3 : Nat) (s4 s7 uk un : ByteArray) (i5 sz : Int) (w : World)
    (hr2 : ByteRow w a2 n2) (hr3 : ByteRow w a3 n3) (h : n2 + n3 + s4.size + s7.size + uk.size + un.size ≤ 1048576) :
    Calls Try.prog 9 #[.agg #[.bool true, .bool b1, .slice a2 n2 c2, .slice a3 n3 c3, .string s4, .int .i64 i5, .bool b6, .string s7, .bool b8], .string uk, .string un, .int .i64 sz] w
      fun e w' => e = .returned (.bool true) ∧ Below w.heap.size w w' := by
  have q50 : ∀ (w : World) (a : Option Addr) (n c n' c' : Nat), (binOp .eql 50 (.slice a n c) (.slice none n' c')).run Try.prog w = .ok (.bool a.isNone) w := fun w a n c n' c' => Lib.run_eql_slice_nil w _ _ a n c n' c' Try.underlying50
  go_enter Try.func9, Try.ntmps9
  go_wp2_with fail
  refine (zz35_yes true b1 b6 b8 a2 a3 n2 c2 n3 c3 s4 s7 uk un i5 sz _ h).mono ?_
  rintro e w1 ⟨rfl, hb⟩
  have hx : Bx w true b1 a2 n2 c2 a3 n3 c3 s4 i5 b6 s7 b8 w1 := Bx.step ⟨Has.new _ _ _, hr2.alloc _, hr3.alloc _, (Below.refl _ _).alloc (Nat.le_refl _) _⟩ hb
  have hcs := hx.cells
  clear hb
  go_wp2_with fail
  refine (small30 true b1 b6 b8 a2 a3 n2 c2 n3 c3 s4 s7 uk un i5 _ h).mono ?_
  rintro e w2 ⟨rfl, hb⟩
  replace hx := hx.step hb
  replace hcs := hx.cells
  clear hb
  have HW : Hid (Below w.heap.size w w2) := hx.bel
  clear hx
  go_wp2
  go_ret
  exact ⟨rfl, HW.out⟩

set_option maxRecDepth 100000 in
set_option maxHeartbeats 800000 in
theorem law9_e2 (b6 b8 : Bool) (a2 a3 : Option Addr) (n2 c2 n3 c3 : Nat) (s4 s7 uk un : ByteArray) (i5 sz : Int) (w : World)
    (hr2 : ByteRow w a2 n2) (hr3 : ByteRow w a3 n3) (h : n2 + n3 + s4.size + s7.size + uk.size + un.size ≤ 1048576) :
    Calls Try.prog 9 #[.agg #[.bool false, .bool true, .slice a2 n2 c2, .slice a3 n3 c3, .string s4, .int .i64 i5, .bool b6, .string s7, .bool b8], .string uk, .string un, .int .i64 sz] w
      fun e w' => e = .returned (.bool true) ∧ Below w.heap.size w w' := by
  have q50 : ∀ (w : World) (a : Option Addr) (n c n' c' : Nat), (binOp .eql 50 (.slice a n c) (.slice none n' c')).run Try.prog w = .ok (.bool a.isNone) w := fun w a n c n' c' => Lib.run_eql_slice_nil w _ _ a n c n' c' Try.underlying50
  go_enter Try.func9, Try.ntmps9
  go_wp2_with fail
  refine (zz35_yes false true b6 b8 a2 a3 n2 c2 n3 c3 s4 s7 uk un i5 sz _ h).mono ?_
  rintro e w1 ⟨rfl, hb⟩
  have hx : Bx w false true a2 n2 c2 a3 n3 c3 s4 i5 b6 s7 b8 w1 := Bx.step ⟨Has.new _ _ _, hr2.alloc _, hr3.alloc _, (Below.refl _ _).alloc (Nat.le_refl _) _⟩ hb
  have hcs := hx.cells
  clear hb
  go_wp2_with fail
  refine (small30 false true b6 b8 a2 a3 n2 c2 n3 c3 s4 s7 uk un i5 _ h).mono ?_
  rintro e w2 ⟨rfl, hb⟩
  replace hx := hx.step hb
  replace hcs := hx.cells
  clear hb
  have HW : Hid (Below w.heap.size w w2) := hx.bel
  clear hx
  go_wp2
  go_ret
  exact ⟨rfl, HW.out⟩

set_option maxRecDepth 100000 in
set_option maxHeartbeats 800000 in
theorem law9_e3 (b6 b8 : Bool) (a2 a3 : Option Addr) (n2 c2 n3 c3 : Nat) (s4 s7 uk un : ByteArray) (i5 sz : Int) (w : World)
    (hr2 : ByteRow w a2 n2) (hr3 : ByteRow w a3 n3) (h : n2 + n3 + s4.size + s7.size + uk.size + un.size ≤ 1048576) (ha : a2.isNone = true) :
    Calls Try.prog 9 #[.agg #[.bool false, .bool false, .slice a2 n2 c2, .slice a3 n3 c3, .string s4, .int .i64 i5, .bool b6, .string s7, .bool b8], .string uk, .string un, .int .i64 sz] w
      fun e w' => e = .returned (.bool true) ∧ Below w.heap.size w w' := by
  have q50 : ∀ (w : World) (a : Option Addr) (n c n' c' : Nat), (binOp .eql 50 (.slice a n c) (.slice none n' c')).run Try.prog w = .ok (.bool a.isNone) w := fun w a n c n' c' => Lib.run_eql_slice_nil w _ _ a n c n' c' Try.underlying50
  go_enter Try.func9, Try.ntmps9
  go_wp2_with fail
  refine (zz35_yes false false b6 b8 a2 a3 n2 c2 n3 c3 s4 s7 uk un i5 sz _ h).mono ?_
  rintro e w1 ⟨rfl, hb⟩
  have hx : Bx w false false a2 n2 c2 a3 n3 c3 s4 i5 b6 s7 b8 w1 := Bx.step ⟨Has.new _ _ _, hr2.alloc _, hr3.alloc _, (Below.refl _ _).alloc (Nat.le_refl _) _⟩ hb
  have hcs := hx.cells
  clear hb
  go_wp2_with fail
  refine (small30 false false b6 b8 a2 a3 n2 c2 n3 c3 s4 s7 uk un i5 _ h).mono ?_
  rintro e w2 ⟨rfl, hb⟩
  replace hx := hx.step hb
  replace hcs := hx.cells
  clear hb
  have HW : Hid (Below w.heap.size w w2) := hx.bel
  clear hx
  go_wp2
  go_ret
  exact ⟨rfl, HW.out⟩

set_option maxRecDepth 100000 in
set_option maxHeartbeats 800000 in
theorem law9_e4 (b6 b8 : Bool) (a2 a3 : Option Addr) (n2 c2 n3 c3 : Nat) (s4 s7 uk un : ByteArray) (i5 sz : Int) (w : World)
    (hr2 : ByteRow w a2 n2) (hr3 : ByteRow w a3 n3) (h : n2 + n3 + s4.size + s7.size + uk.size + un.size ≤ 1048576) (ha : a2.isNone = false) (hs : ((n2 : Int) == sz) = true) :
    Calls Try.prog 9 #[.agg #[.bool false, .bool false, .slice a2 n2 c2, .slice a3 n3 c3, .string s4, .int .i64 i5, .bool b6, .string s7, .bool b8], .string uk, .string un, .int .i64 sz] w
      fun e w' => e = .returned (.bool true) ∧ Below w.heap.size w w' := by
  have q50 : ∀ (w : World) (a : Option Addr) (n c n' c' : Nat), (binOp .eql 50 (.slice a n c) (.slice none n' c')).run Try.prog w = .ok (.bool a.isNone) w := fun w a n c n' c' => Lib.run_eql_slice_nil w _ _ a n c n' c' Try.underlying50
  go_enter Try.func9, Try.ntmps9
  go_wp2_with fail
  refine (zz35_yes false false b6 b8 a2 a3 n2 c2 n3 c3 s4 s7 uk un i5 sz _ h).mono ?_
  rintro e w1 ⟨rfl, hb⟩
  have hx : Bx w false false a2 n2 c2 a3 n3 c3 s4 i5 b6 s7 b8 w1 := Bx.step ⟨Has.new _ _ _, hr2.alloc _, hr3.alloc _, (Below.refl _ _).alloc (Nat.le_refl _) _⟩ hb
  have hcs := hx.cells
  clear hb
  go_wp2_with fail
  refine (small30 false false b6 b8 a2 a3 n2 c2 n3 c3 s4 s7 uk un i5 _ h).mono ?_
  rintro e w2 ⟨rfl, hb⟩
  replace hx := hx.step hb
  replace hcs := hx.cells
  clear hb
  have HW : Hid (Below w.heap.size w w2) := hx.bel
  clear hx
  go_wp2
  go_ret
  exact ⟨rfl, HW.out⟩

set_option maxRecDepth 100000 in
set_option maxHeartbeats 2000000 in
theorem law9_main (b6 b8 : Bool) (a2 a3 : Option Addr) (n2 c2 n3 c3 : Nat) (s4 s7 uk un : ByteArray) (i5 sz : Int) (w : World)
    (hr2 : ByteRow w a2 n2) (hr3 : ByteRow w a3 n3) (h : n2 + n3 + s4.size + s7.size + uk.size + un.size ≤ 1048576) (ha : a2.isNone = false) (hs : ((n2 : Int) == sz) = false) :
    Calls Try.prog 9 #[.agg #[.bool false, .bool false, .slice a2 n2 c2, .slice a3 n3 c3, .string s4, .int .i64 i5, .bool b6, .string s7, .bool b8], .string uk, .string un, .int .i64 sz] w
      fun e w' => e = .returned (.bool true) ∧ Below w.heap.size w w' := by
  have q50 : ∀ (w : World) (a : Option Addr) (n c n' c' : Nat), (binOp .eql 50 (.slice a n c) (.slice none n' c')).run Try.prog w = .ok (.bool a.isNone) w := fun w a n c n' c' => Lib.run_eql_slice_nil w _ _ a n c n' c' Try.underlying50
  have hn2 : n2 ≤ 1048576 := by omega
  have hn3 : n3 ≤ 1048576 := by omega
  go_enter Try.func9, Try.ntmps9
  go_wp2_with fail
  refine (zz35_yes false false b6 b8 a2 a3 n2 c2 n3 c3 s4 s7 uk un i5 sz _ h).mono ?_
  rintro e w1 ⟨rfl, hb⟩
  have hx : Bx w false false a2 n2 c2 a3 n3 c3 s4 i5 b6 s7 b8 w1 := Bx.step ⟨Has.new _ _ _, hr2.alloc _, hr3.alloc _, (Below.refl _ _).alloc (Nat.le_refl _) _⟩ hb
  have hcs := hx.cells
  clear hb
  go_wp2_with fail
  refine (small30 false false b6 b8 a2 a3 n2 c2 n3 c3 s4 s7 uk un i5 _ h).mono ?_
  rintro e w2 ⟨rfl, hb⟩
  replace hx := hx.step hb
  replace hcs := hx.cells
  clear hb
  go_wp2_with fail
  refine (clone31 a2 n2 c2 _ hx.r2 hn2).mono ?_
  rintro e w3 ⟨d2, rfl, hd2, hrd2, hb⟩
  replace hx := hx.step hb
  replace hcs := hx.cells
  have hfz := hx.has.free 2
  have hy := hx.set2 (k2 := n2) hrd2
  have HY := hy.cells
  clear hb hrd2
  go_wp2_with fail
  refine (clone31 a3 n3 c3 _ hy.r3 hn3).mono ?_
  rintro e w4 ⟨d3, rfl, hd3, hrd3, hb⟩
  replace hx := hy.step hb
  replace hcs := hx.cells
  have hfz3 := hx.has.free 3
  clear hy HY hfz
  have hy := hx.set3 (k3 := n3) hrd3
  have HY := hy.cells
  clear hb hrd3
  go_wp2_with fail
  refine (hlrun_some false b6 b8 d2 d3 n2 n2 n3 n3 s4 s7 uk un i5 sz _ hy.r2 hy.r3 hn2 hn3).mono ?_
  rintro e w5 ⟨f0, f1, t0, t1, hf0, rfl, ht0, ht1, hb⟩
  replace hx := hy.step hb
  have hsh : holdF false f0 n2 n2 f1 n3 n3 s4 i5 b6 s7 b8 uk un sz = ⟨uk, un, uk, un, ⟨#[]⟩, ⟨#[]⟩, b6, none, 0, 0, none, 0, 0, ⟨#[]⟩, 0⟩ := by
    rw [holdF, if_neg (by simp), if_pos ⟨hf0.trans (hd2.trans ha), by simpa using hs⟩]
  rw [hsh] at ht0 ht1
  rw [hsh]
  obtain rfl : t0 = none := Option.isNone_iff_eq_none.1 ht0
  obtain rfl : t1 = none := Option.isNone_iff_eq_none.1 ht1
  clear hy HY hb hcs hfz3 hd2 hd3 hf0 ht0 ht1 hsh
  go_upto_region 10 with (refine wpList_store_last rfl 57 (.tmp 9) (.tmp 51) rfl w5.heap.size rfl _ (refC uk un b6) 57 rfl rfl Try.size57 rfl rfl ?_)
  refine forget_world (fun W => Has w5.heap.size (refC uk un b6) 57 W ∧ Has w.heap.size (listC false false (.slice d2 n2 n2) (.slice d3 n3 n3) s4 i5 b6 s7 b8) 52 W ∧ Below w.heap.size w W) ⟨Has.new _ _ _, hx.has.alloc _, hx.bel.alloc hx.bel.size _⟩ ?_
  rintro W ⟨h9, hbx, hbel⟩
  have hlt9 : w.heap.size < w5.heap.size := hx.has.lt
  clear hx
  go_wp2_with fail
  refine (hlrun_nil false false false none none 0 0 0 0 ⟨#[]⟩ ⟨#[]⟩ uk un 0 sz _).mono ?_
  rintro e w6 ⟨t0, t1, rfl, ht0, ht1, hb⟩
  obtain rfl : t0 = none := Option.isNone_iff_eq_none.1 ht0
  obtain rfl : t1 = none := Option.isNone_iff_eq_none.1 ht1
  replace h9 := h9.below hb h9.lt
  replace hbx := hbx.below hb hbx.lt
  replace hbel := hbel.trans (hb.mono hbel.size)
  clear hb ht0 ht1
  go_upto_region 11 with (refine wpList_store_last rfl 57 (.tmp 10) (.tmp 56) rfl w6.heap.size rfl _ (refC uk un false) 57 rfl rfl Try.size57 rfl rfl ?_)
  refine forget_world (fun V => Has w5.heap.size (refC uk un b6) 57 V ∧ Has w.heap.size (listC false false (.slice d2 n2 n2) (.slice d3 n3 n3) s4 i5 b6 s7 b8) 52 V ∧ Has w6.heap.size (refC uk un false) 57 V ∧ Below w.heap.size w V) ⟨h9.alloc _, hbx.alloc _, Has.new _ _ _, hbel.alloc hbel.size _⟩ ?_
  have hlt6 : w5.heap.size < w6.heap.size := h9.lt
  clear h9 hbx hbel
  rintro V ⟨h9, hbx, h10, hbel⟩
  have c6 := hbx.cell 6
  have z6 := h10.cell 6
  have f6 := h10.free 6
  simp only [List.getElem?_toArray, List.getElem?_cons_succ, List.getElem?_cons_zero] at c6 z6
  have K9 : Has w5.heap.size (refC uk un b6) 57 (V.setCell ⟨w6.heap.size, 6, none⟩ (.bool b6)) := (Below.heap_setCell V ⟨w6.heap.size, 6, none⟩ _ w5.heap.size (by show w5.heap.size ≠ w6.heap.size; omega)).trans h9
  have K10 : Has w6.heap.size (refC uk un b6) 57 (V.setCell ⟨w6.heap.size, 6, none⟩ (.bool b6)) := by
    rw [setCell_eq_setRow V w6.heap.size 6 _ 57 (0, 0) _ h10]
    exact h10.set _
  have KB : Below w.heap.size w (V.setCell ⟨w6.heap.size, 6, none⟩ (.bool b6)) := hbel.setCell (by show w.heap.size ≤ w6.heap.size; omega) _
  have HK : Hid (Has w5.heap.size (refC uk un b6) 57 (V.setCell ⟨w6.heap.size, 6, none⟩ (.bool b6)) ∧ Has w6.heap.size (refC uk un b6) 57 (V.setCell ⟨w6.heap.size, 6, none⟩ (.bool b6)) ∧ Below w.heap.size w (V.setCell ⟨w6.heap.size, 6, none⟩ (.bool b6))) := ⟨K9, K10, KB⟩
  clear K9 K10 KB h9 hbx h10 hbel
  go_upto_region 12 with fail
  refine forget_world (fun U => Has w5.heap.size (refC uk un b6) 57 U ∧ Has w6.heap.size (refC uk un b6) 57 U ∧ Below w.heap.size w U) HK.out ?_
  clear HK c6 z6 f6
  rintro U ⟨h9, h10, hbel⟩
  have HU : Hid (Has w5.heap.size (refC uk un b6) 57 U ∧ Has w6.heap.size (refC uk un b6) 57 U ∧ Below w.heap.size w U) := ⟨h9, h10, hbel⟩
  clear h9 h10 hbel
  go_wp2_with (first
    | (refine wpList_load_row rfl 57 (.tmp 9) rfl w5.heap.size rfl 57 (refC uk un b6) (0, 0) _ HU.out.1 Try.underlying57 rfl Try.size57 ?_)
    | (refine wpList_load_row rfl 57 (.tmp 10) rfl w6.heap.size rfl 57 (refC uk un b6) (0, 0) _ HU.out.2.1 Try.underlying57 rfl Try.size57 ?_)
    | (go_at_call 34; refine (same34 uk un b6 U).mono ?_; rintro e w8 ⟨rfl, hb8⟩; have m0 := (HU.out.1.below hb8 HU.out.1.lt).cell 0; have m1 := (HU.out.1.below hb8 HU.out.1.lt).cell 1; have m2 := (HU.out.1.below hb8 HU.out.1.lt).cell 2; have m3 := (HU.out.1.below hb8 HU.out.1.lt).cell 3; simp only [List.getElem?_toArray, List.getElem?_cons_succ, List.getElem?_cons_zero] at m0 m1 m2 m3; have HB : Hid (Below w.heap.size w w8) := HU.out.2.2.trans (hb8.mono HU.out.2.2.size); clear hb8))
  go_ret
  exact ⟨by simp, Hid.out (by assumption)⟩

theorem law9 (b0 b1 : Bool) (b6 b8 : Bool) (a2 a3 : Option Addr) (n2 c2 n3 c3 : Nat) (s4 s7 uk un : ByteArray) (i5 sz : Int) (w : World)
    (hr2 : ByteRow w a2 n2) (hr3 : ByteRow w a3 n3) :
    Calls Try.prog 9 #[.agg #[.bool b0, .bool b1, .slice a2 n2 c2, .slice a3 n3 c3, .string s4, .int .i64 i5, .bool b6, .string s7, .bool b8], .string uk, .string un, .int .i64 sz] w
      fun e w' => e = .returned (.bool true) ∧ Below w.heap.size w w' := by
  by_cases h : n2 + n3 + s4.size + s7.size + uk.size + un.size ≤ 1048576
  · cases b0 with
    | true => exact law9_e1 b1 b6 b8 a2 a3 n2 c2 n3 c3 s4 s7 uk un i5 sz w hr2 hr3 h
    | false =>
      cases b1 with
      | true => exact law9_e2 b6 b8 a2 a3 n2 c2 n3 c3 s4 s7 uk un i5 sz w hr2 hr3 h
      | false =>
        cases ha : a2.isNone with
        | true => exact law9_e3 b6 b8 a2 a3 n2 c2 n3 c3 s4 s7 uk un i5 sz w hr2 hr3 h ha
        | false =>
          cases hs : ((n2 : Int) == sz) with
          | true => exact law9_e4 b6 b8 a2 a3 n2 c2 n3 c3 s4 s7 uk un i5 sz w hr2 hr3 h ha hs
          | false => exact law9_main b6 b8 a2 a3 n2 c2 n3 c3 s4 s7 uk un i5 sz w hr2 hr3 h ha hs
  · exact law9_no b0 b1 b6 b8 a2 a3 n2 c2 n3 c3 s4 s7 uk un i5 sz w h

end Go.Proofs.Qxb6600004a
