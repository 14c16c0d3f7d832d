import Derived.Test.Qxb6600004aHg
namespace Go.Proofs.Qxb6600004a
open Go.RowKit
attribute [local go_sem] stC stC_one ldC ldC_two run_St57H

set_option maxRecDepth 100000 in
set_option maxHeartbeats 2000000 in
theorem run42_nil (vr : Bool) (a0 : Option Addr) (n0 c0 : Nat) (a1 : Option Addr) (n1 c1 : Nat) (ak : ByteArray) (ac : Int) (wd : Bool) (fl : ByteArray) (op : Bool) (uk un : ByteArray) (sz : Int) (w : World) :
    Calls Try.prog 42 #[.bool true, .bool vr, .slice a0 n0 c0, .slice a1 n1 c1, .string ak, .int .i64 ac, .bool wd, .string fl, .bool op, .string uk, .string un, .int .i64 sz] w
      fun e w' => ∃ t0 t1, e = .returned (.agg (outC (holdNil uk un) t0 t1)) ∧ t0.isNone = true ∧ t1.isNone = true ∧ Below w.heap.size w w' := by
  go_enter Try.func42, Try.ntmps42
  go_wp2_with fail
  refine (hold49_nil uk un sz _).mono ?_
  rintro e w3 ⟨rfl, hbel3⟩
  have hw3 : Below w.heap.size w w3 := ((Below.refl _ _).alloc (Nat.le_refl _) _).trans (hbel3.mono (by simp))
  have ho3 : Own57 w.heap.size w3 := ⟨_, (Has.new _ _ _).below hbel3 (by simp), rfl, rfl⟩
  have hm0 : (holdNil uk un).m0 ≤ 1048576 := Nat.zero_le _
  have hm1 : (holdNil uk un).m1 ≤ 1048576 := Nat.zero_le _
  have hq0 : ByteRow w3 (holdNil uk un).s0 (holdNil uk un).m0 := .inl rfl
  have hq1 : ByteRow w3 (holdNil uk un).s1 (holdNil uk un).m1 := .inl rfl
  have HX : Hid ((∃ x y, x = uk ∧ y = un ∧ holdNil x y = holdNil uk un) ∧ (holdNil uk un).s0.isNone = true ∧ (holdNil uk un).s1.isNone = true) := ⟨⟨uk, un, rfl, rfl, rfl⟩, rfl, rfl⟩
  clear hbel3
  rw [show holdC uk un uk un ⟨#[]⟩ ⟨#[]⟩ false (.slice none 0 0) (.slice none 0 0) ⟨#[]⟩ 0 = (holdNil uk un).cells from rfl]
  generalize holdNil uk un = H at *
  have PK0 : ∀ o : Obj, o = .cells H.cells 107 → Pk w w.heap.size w3.heap.size H (w3.alloc o) := by
    rintro _ rfl
    exact ⟨Has.new _ _ _, by obtain ⟨old, h, hs⟩ := ho3; exact ⟨old, h.alloc _, hs⟩, hq0.alloc _, hq1.alloc _, hw3.alloc hw3.size _, Nat.le_refl _, by obtain ⟨old, h, _⟩ := ho3; have := h.lt; omega⟩
  clear hq0 hq1 hw3 ho3

  go_wp2_with (refine wpList_store_last rfl 107 (.tmp 26) (.tmp 47) rfl w3.heap.size rfl _ H.cells 107 rfl rfl Try.size107 rfl rfl ?_)
  refine forget_world (Pk w w.heap.size w3.heap.size H) (PK0 _ rfl) ?_
  clear PK0
  intro W hP
  have q103 : ∀ (w : World) (a : Option Addr) (n c n' c' : Nat), (binOp .eql 103 (.slice a n c) (.slice none n' c')).run Try.prog w = .ok (.bool a.isNone) w := fun w a n c n' c' => Lib.run_eql_slice_nil w _ _ a n c n' c' Try.underlying103
  have HP : Hid (Pk w w.heap.size w3.heap.size H W) := hP
  clear hP
  go_region_held3 (fun w' => (Pk w w.heap.size w3.heap.size H w' ∧ Own57 w.heap.size w' ∧ ByteRow w' H.s0 H.m0 ∧ ByteRow w' H.s1 H.m1) ∧ w'.cell? ⟨w3.heap.size, 0, none⟩ = some (.string H.fk) ∧ w'.cell? ⟨w3.heap.size, 7, none⟩ = some (.string H.fn) ∧ w'.cell? ⟨w3.heap.size, 12, none⟩ = some (.string H.ok) ∧ w'.cell? ⟨w3.heap.size, 19, none⟩ = some (.string H.on) ∧ w'.cell? ⟨w3.heap.size, 24, none⟩ = some (.string H.vk) ∧ w'.cell? ⟨w3.heap.size, 31, none⟩ = some (.string H.vn) ∧ w'.cell? ⟨w3.heap.size, 36, none⟩ = some (.bool H.wd) ∧ w'.cell? ⟨w3.heap.size, 37, none⟩ = some (.slice H.s0 H.m0 H.k0) ∧ w'.cell? ⟨w3.heap.size, 38, none⟩ = some (.slice H.s1 H.m1 H.k1) ∧ w'.cell? ⟨w3.heap.size, 39, none⟩ = some (.string H.ak) ∧ w'.cell? ⟨w3.heap.size, 40, none⟩ = some (.int .i64 H.ac) ∧ w'.cell? ⟨w3.heap.size, 41, none⟩ = some (.string H.ak) ∧ w'.cell? ⟨w3.heap.size, 42, none⟩ = some (.int .i64 H.ac) ∧ w'.cell? ⟨w3.heap.size, 43, none⟩ = some (.bool false) ∧ w'.cell? ⟨w3.heap.size, 44, none⟩ = some (.int .i64 0) ∧ w'.cell? ⟨w3.heap.size, 45, none⟩ = some (.slice none 0 0))
    (first | exact HP.out.drew.all | (go_split_ands; exact (Pk.step (by assumption) (by assumption)).all) | (go_split_ands; exact (Pk.set (by assumption) _ _).all))
    (first | (go_at_call_of 50 H.s0; refine (uint50 H.s0 H.m0 H.k0 _ (by go_split_ands; assumption) hm0).mono ?_; rintro e v1 ⟨t0, rfl, ht0, _, hbv0⟩) | (go_at_call_of 50 H.s1; refine (uint50 H.s1 H.m1 H.k1 _ (by go_split_ands; assumption) hm1).mono ?_; rintro e v2 ⟨t1, rfl, ht1, _, hbv1⟩))
  have PB := (HP.out.drew.step hbv0).step hbv1
  have HB : Hid (Below w.heap.size w (v2.setRow w.heap.size (outC H t0 t1)) ∧ Has w.heap.size (outC H t0 t1) 57 (v2.setRow w.heap.size (outC H t0 t1))) := ⟨below_setRow' PB.bel (Nat.le_refl _) _, PB.got _⟩
  clear PB
  go_wp2
  obtain ⟨⟨x, y, hx, hy, hH⟩, hz0, hz1⟩ := HX.out
  subst hx hy
  refine bodyPost_ret (v := .agg (outC H t0 t1)) ?_ rfl ⟨t0, t1, by rw [hH], ht0.trans hz0, ht1.trans hz1, HB.out.1⟩
  exact results_cell_row Try.results42 _ _ w.heap.size 57 _ (0, 0) _ rfl HB.out.2 Try.underlying57 rfl Try.size57

end Go.Proofs.Qxb6600004a
