import Derived.Test.Qxb6600004aHf
namespace Go.Proofs.Qxb6600004a
open Go.RowKit

theorem ByteRow.below {w w' : World} {a : Option Addr} {n : Nat} (h : ByteRow w a n) (hb : Below w.heap.size w w') : ByteRow w' a n := by
  rcases h with h | ⟨b, off, f, ha, hlt, hc⟩
  · exact .inl h
  · exact .inr ⟨b, off, f, ha, Nat.lt_of_lt_of_le hlt hb.size, fun i hi => (hb.cell hlt).trans (hc i hi)⟩
theorem ByteRow.alloc {w : World} {a : Option Addr} {n : Nat} (h : ByteRow w a n) (o : Obj) : ByteRow (w.alloc o) a n :=
  h.below ((Below.refl _ _).alloc (Nat.le_refl _) _)
theorem ByteRow.drew {w : World} {a : Option Addr} {n : Nat} (h : ByteRow w a n) : ByteRow w.drew a n :=
  h.below (Below.refl _ _).drew

/-- What ZZB1HeldHolding hands back. -/
abbrev outC (h : Hold) (t0 t1 : Option Addr) : Array Value :=
  #[.string h.fk, .string h.fn, .string h.ok, .string h.on, .string h.vk, .string h.vn, .bool h.wd, .slice t0 h.m0 h.m0, .slice t1 h.m1 h.m1, .string h.ak, .int .i64 h.ac, .string h.ak, .int .i64 h.ac, .bool false, .int .i64 0, .bool true, .int .i64 0]

theorem Try.size57 : (Try.prog.info? 57).map (·.size) = some 17 := by kernel_rfl

abbrev outL (h : Hold) (t0 t1 : Option Addr) : List Value :=
  [.string h.fk, .string h.fn, .string h.ok, .string h.on, .string h.vk, .string h.vn, .bool h.wd, .slice t0 h.m0 h.m0, .slice t1 h.m1 h.m1, .string h.ak, .int .i64 h.ac, .string h.ak, .int .i64 h.ac, .bool false, .int .i64 0, .bool true, .int .i64 0]
def notByte : Value → Bool
  | .int .u8 _ => false
  | _ => true
def Own57 (g : Nat) (w : World) : Prop := ∃ old : Array Value, Has g old 57 w ∧ old.size = 17 ∧ old.toList.all notByte = true
theorem run_St57H {w : World} {g : Nat} (h : Own57 g w) (H : Hold) (t0 t1 : Option Addr) :
    (StC ⟨g, 0, none⟩ (outL H t0 t1) 0).run Try.prog w = .ok () (w.setRow g (outC H t0 t1)) := by
  obtain ⟨old, h, ho, _⟩ := h
  exact run_StC (c := outC H t0 t1) h ho Try.size57 rfl

/-- What holds all through the last statement of ZZB1HeldHolding. -/
structure Pk (w0 : World) (g0 gh : Nat) (H : Hold) (w : World) : Prop where
  has : Has gh H.cells 107 w
  own : Own57 g0 w
  r0 : ByteRow w H.s0 H.m0
  r1 : ByteRow w H.s1 H.m1
  bel : Below w0.heap.size w0 w
  lo : w0.heap.size ≤ g0
  ne : gh ≠ g0

theorem Pk.step {w0 : World} {g0 gh : Nat} {H : Hold} {w w' : World} (h : Pk w0 g0 gh H w) (hb : Below w.heap.size w w') : Pk w0 g0 gh H w' :=
  ⟨h.has.below hb h.has.lt, by obtain ⟨old, ho, hs⟩ := h.own; exact ⟨old, ho.below hb ho.lt, hs⟩, h.r0.below hb, h.r1.below hb, h.bel.trans (hb.mono h.bel.size), h.lo, h.ne⟩
theorem Pk.drew {w0 : World} {g0 gh : Nat} {H : Hold} {w : World} (h : Pk w0 g0 gh H w) : Pk w0 g0 gh H w.drew := h.step (Below.refl _ _).drew

theorem Pk.all {w0 : World} {g0 gh : Nat} {H : Hold} {w : World} (h : Pk w0 g0 gh H w) : (Pk w0 g0 gh H w ∧ Own57 g0 w ∧ ByteRow w H.s0 H.m0 ∧ ByteRow w H.s1 H.m1) ∧
    w.cell? ⟨gh, 0, none⟩ = some (.string H.fk) ∧ w.cell? ⟨gh, 7, none⟩ = some (.string H.fn) ∧ w.cell? ⟨gh, 12, none⟩ = some (.string H.ok) ∧ w.cell? ⟨gh, 19, none⟩ = some (.string H.on) ∧ w.cell? ⟨gh, 24, none⟩ = some (.string H.vk) ∧ w.cell? ⟨gh, 31, none⟩ = some (.string H.vn) ∧ w.cell? ⟨gh, 36, none⟩ = some (.bool H.wd) ∧ w.cell? ⟨gh, 37, none⟩ = some (.slice H.s0 H.m0 H.k0) ∧ w.cell? ⟨gh, 38, none⟩ = some (.slice H.s1 H.m1 H.k1) ∧ w.cell? ⟨gh, 39, none⟩ = some (.string H.ak) ∧ w.cell? ⟨gh, 40, none⟩ = some (.int .i64 H.ac) ∧ w.cell? ⟨gh, 41, none⟩ = some (.string H.ak) ∧ w.cell? ⟨gh, 42, none⟩ = some (.int .i64 H.ac) ∧ w.cell? ⟨gh, 43, none⟩ = some (.bool false) ∧ w.cell? ⟨gh, 44, none⟩ = some (.int .i64 0) ∧ w.cell? ⟨gh, 45, none⟩ = some (.slice none 0 0) :=
  ⟨⟨h, h.own, h.r0, h.r1⟩, h.has.cell 0, h.has.cell 7, h.has.cell 12, h.has.cell 19, h.has.cell 24, h.has.cell 31, h.has.cell 36, h.has.cell 37, h.has.cell 38, h.has.cell 39, h.has.cell 40, h.has.cell 41, h.has.cell 42, h.has.cell 43, h.has.cell 44, h.has.cell 45⟩

/-- The store of the result: no row of bytes lies in block g0. -/
theorem ByteRow.other {w : World} {a : Option Addr} {n : Nat} (h : ByteRow w a n) {g : Nat} (ho : Own57 g w) (c : Array Value) : ByteRow (w.setRow g c) a n := by
  rcases h with h | ⟨b, off, f, ha, hlt, hc⟩
  · exact .inl h
  · refine .inr ⟨b, off, f, ha, by simpa using hlt, fun i hi => ?_⟩
    by_cases hg : b = g
    · obtain ⟨old, ho, _, h1⟩ := ho
      have e := hc i hi
      rw [hg, ho.cell] at e
      have hm : Value.int .u8 (f i) ∈ old.toList := by
        have := Array.mem_of_getElem? e
        simpa using this
      have := List.all_eq_true.1 h1 _ hm
      simp [notByte] at this
    · exact (cell_setRow_other w g c ⟨b, off + i, none⟩ hg).trans (hc i hi)
theorem Pk.set {w0 : World} {g0 gh : Nat} {H : Hold} {w : World} (h : Pk w0 g0 gh H w) (t0 t1 : Option Addr) : Pk w0 g0 gh H (w.setRow g0 (outC H t0 t1)) :=
  ⟨h.has.other g0 h.ne _, by obtain ⟨old, ho, _⟩ := h.own; exact ⟨_, ho.set _, rfl, rfl⟩, h.r0.other h.own _, h.r1.other h.own _, below_setRow' h.bel h.lo _, h.lo, h.ne⟩
theorem Pk.got {w0 : World} {g0 gh : Nat} {H : Hold} {w : World} (h : Pk w0 g0 gh H w) (c : Array Value) : Has g0 c 57 (w.setRow g0 c) := by
  obtain ⟨old, ho, _⟩ := h.own
  exact ho.set c

theorem holdF_row {w : World} {vr : Bool} {a0 : Option Addr} {n0 c0 : Nat} {a1 : Option Addr} {n1 c1 : Nat} {ak : ByteArray} {ac : Int} {wd : Bool} {fl : ByteArray} {op : Bool} {uk un : ByteArray} {sz : Int}
    (h0 : ByteRow w a0 n0) (h1 : ByteRow w a1 n1) :
    ByteRow w (holdF vr a0 n0 c0 a1 n1 c1 ak ac wd fl op uk un sz).s0 (holdF vr a0 n0 c0 a1 n1 c1 ak ac wd fl op uk un sz).m0 ∧ ByteRow w (holdF vr a0 n0 c0 a1 n1 c1 ak ac wd fl op uk un sz).s1 (holdF vr a0 n0 c0 a1 n1 c1 ak ac wd fl op uk un sz).m1 := by
  have e : ByteRow w none 0 := .inl rfl
  unfold holdF
  split
  · exact ⟨e, e⟩
  split
  · exact ⟨e, e⟩
  split <;> split <;> exact ⟨h0, h1⟩

theorem holdF_le {vr : Bool} {a0 : Option Addr} {n0 c0 : Nat} {a1 : Option Addr} {n1 c1 : Nat} {ak : ByteArray} {ac : Int} {wd : Bool} {fl : ByteArray} {op : Bool} {uk un : ByteArray} {sz : Int}
    (h0 : n0 ≤ 1048576) (h1 : n1 ≤ 1048576) :
    (holdF vr a0 n0 c0 a1 n1 c1 ak ac wd fl op uk un sz).m0 ≤ 1048576 ∧ (holdF vr a0 n0 c0 a1 n1 c1 ak ac wd fl op uk un sz).m1 ≤ 1048576 := by
  unfold holdF
  split
  · exact ⟨Nat.zero_le _, Nat.zero_le _⟩
  split
  · exact ⟨Nat.zero_le _, Nat.zero_le _⟩
  split <;> split <;> exact ⟨h0, h1⟩

attribute [local go_sem] stC stC_one ldC ldC_two run_St57H

set_option maxRecDepth 100000 in
set_option maxHeartbeats 2000000 in
theorem run42_some (vr : Bool) (a0 : Option Addr) (n0 c0 : Nat) (a1 : Option Addr) (n1 c1 : Nat) (ak : ByteArray) (ac : Int) (wd : Bool) (fl : ByteArray) (op : Bool) (uk un : ByteArray) (sz : Int) (w : World)
    (hr0 : ByteRow w a0 n0) (hr1 : ByteRow w a1 n1) (hn0 : n0 ≤ 1048576) (hn1 : n1 ≤ 1048576) :
    Calls Try.prog 42 #[.bool false, .bool vr, .slice a0 n0 c0, .slice a1 n1 c1, .string ak, .int .i64 ac, .bool wd, .string fl, .bool op, .string uk, .string un, .int .i64 sz] w
      fun e w' => ∃ b0 b1 t0 t1, b0.isNone = a0.isNone ∧ e = .returned (.agg (outC (holdF vr b0 n0 n0 b1 n1 n1 ak ac wd fl op uk un sz) t0 t1)) ∧ t0.isNone = (holdF vr b0 n0 n0 b1 n1 n1 ak ac wd fl op uk un sz).s0.isNone ∧ t1.isNone = (holdF vr b0 n0 n0 b1 n1 n1 ak ac wd fl op uk un sz).s1.isNone ∧ Below w.heap.size w w' := by
  go_enter Try.func42, Try.ntmps42
  go_wp2_with fail
  refine (uses48 a0 n0 c0 _ (hr0.alloc _) hn0).mono ?_
  rintro e w1 ⟨b0, rfl, hb0, hr0', hbel1⟩
  have hr1' : ByteRow w1 a1 n1 := (hr1.alloc _).below hbel1
  have hw1 : Below w.heap.size w w1 := ((Below.refl _ _).alloc (Nat.le_refl _) _).trans (hbel1.mono (by simp))
  have ho1 : Own57 w.heap.size w1 := ⟨_, (Has.new _ _ _).below hbel1 (by simp), rfl, rfl⟩
  clear hbel1
  go_wp2_with fail
  refine (uses48 a1 n1 c1 w1 hr1' hn1).mono ?_
  rintro e w2 ⟨b1, rfl, hb1, hr1'', hbel2⟩
  have hr0'' : ByteRow w2 b0 n0 := hr0'.below hbel2
  have hw2 : Below w.heap.size w w2 := hw1.trans (hbel2.mono hw1.size)
  have ho2 : Own57 w.heap.size w2 := by obtain ⟨old, h, hs⟩ := ho1; exact ⟨old, h.below hbel2 h.lt, hs⟩
  clear hbel2 hw1 ho1 hr0' hr1'
  go_wp2_with fail
  refine (hold49_some uk un sz _ w2.heap.size b0 b1 n0 n0 n1 n1 ak fl ac wd op vr (Has.new _ _ _)).mono ?_
  rintro e w3 ⟨rfl, hbel3⟩
  have hr0t : ByteRow w3 b0 n0 := (hr0''.alloc _).below hbel3
  have hr1t : ByteRow w3 b1 n1 := (hr1''.alloc _).below hbel3
  have hw3 : Below w.heap.size w w3 := (hw2.alloc hw2.size _).trans (hbel3.mono (by have := hw2.size; simp; omega))
  have ho3 : Own57 w.heap.size w3 := by obtain ⟨old, h, hs⟩ := ho2; exact ⟨old, (h.alloc _).below hbel3 (h.alloc _).lt, hs⟩
  obtain ⟨hm0, hm1⟩ := holdF_le (vr := vr) (a0 := b0) (n0 := n0) (c0 := n0) (a1 := b1) (n1 := n1) (c1 := n1) (ak := ak) (ac := ac) (wd := wd) (fl := fl) (op := op) (uk := uk) (un := un) (sz := sz) hn0 hn1
  obtain ⟨hq0, hq1⟩ := holdF_row (vr := vr) (a0 := b0) (n0 := n0) (c0 := n0) (a1 := b1) (n1 := n1) (c1 := n1) (ak := ak) (ac := ac) (wd := wd) (fl := fl) (op := op) (uk := uk) (un := un) (sz := sz) hr0t hr1t
  have HX : Hid (∃ b0' b1', b0'.isNone = a0.isNone ∧ holdF vr b0' n0 n0 b1' n1 n1 ak ac wd fl op uk un sz = holdF vr b0 n0 n0 b1 n1 n1 ak ac wd fl op uk un sz) := ⟨b0, b1, hb0, rfl⟩
  clear hr0'' hr1'' hw2 ho2 hbel3 hr0t hr1t hb0 hb1
  generalize holdF vr b0 n0 n0 b1 n1 n1 ak ac wd fl op uk un sz = H at *
  have PK0 : ∀ o : Obj, o = .cells H.cells 107 → Pk w w.heap.size w3.heap.size H (w3.alloc o) := by
    rintro _ rfl
    exact ⟨Has.new _ _ _, by obtain ⟨old, h, hs⟩ := ho3; exact ⟨old, h.alloc _, hs⟩, hq0.alloc _, hq1.alloc _, hw3.alloc hw3.size _, Nat.le_refl _, by obtain ⟨old, h, _⟩ := ho3; have := h.lt; omega⟩
  clear hq0 hq1 hw3 ho3

  go_wp2_with (refine wpList_store_last rfl 107 (.tmp 26) (.tmp 47) rfl w3.heap.size rfl _ H.cells 107 rfl rfl Try.size107 rfl rfl ?_)
  refine forget_world (Pk w w.heap.size w3.heap.size H) (PK0 _ rfl) ?_
  clear PK0
  intro W hP
  have q103 : ∀ (w : World) (a : Option Addr) (n c n' c' : Nat), (binOp .eql 103 (.slice a n c) (.slice none n' c')).run Try.prog w = .ok (.bool a.isNone) w := fun w a n c n' c' => Lib.run_eql_slice_nil w _ _ a n c n' c' Try.underlying103
  have HP : Hid (Pk w w.heap.size w3.heap.size H W) := hP
  clear hP
  go_region_held3 (fun w' => (Pk w w.heap.size w3.heap.size H w' ∧ Own57 w.heap.size w' ∧ ByteRow w' H.s0 H.m0 ∧ ByteRow w' H.s1 H.m1) ∧ w'.cell? ⟨w3.heap.size, 0, none⟩ = some (.string H.fk) ∧ w'.cell? ⟨w3.heap.size, 7, none⟩ = some (.string H.fn) ∧ w'.cell? ⟨w3.heap.size, 12, none⟩ = some (.string H.ok) ∧ w'.cell? ⟨w3.heap.size, 19, none⟩ = some (.string H.on) ∧ w'.cell? ⟨w3.heap.size, 24, none⟩ = some (.string H.vk) ∧ w'.cell? ⟨w3.heap.size, 31, none⟩ = some (.string H.vn) ∧ w'.cell? ⟨w3.heap.size, 36, none⟩ = some (.bool H.wd) ∧ w'.cell? ⟨w3.heap.size, 37, none⟩ = some (.slice H.s0 H.m0 H.k0) ∧ w'.cell? ⟨w3.heap.size, 38, none⟩ = some (.slice H.s1 H.m1 H.k1) ∧ w'.cell? ⟨w3.heap.size, 39, none⟩ = some (.string H.ak) ∧ w'.cell? ⟨w3.heap.size, 40, none⟩ = some (.int .i64 H.ac) ∧ w'.cell? ⟨w3.heap.size, 41, none⟩ = some (.string H.ak) ∧ w'.cell? ⟨w3.heap.size, 42, none⟩ = some (.int .i64 H.ac) ∧ w'.cell? ⟨w3.heap.size, 43, none⟩ = some (.bool false) ∧ w'.cell? ⟨w3.heap.size, 44, none⟩ = some (.int .i64 0) ∧ w'.cell? ⟨w3.heap.size, 45, none⟩ = some (.slice none 0 0))
    (first | exact HP.out.drew.all | (go_split_ands; exact (Pk.step (by assumption) (by assumption)).all) | (go_split_ands; exact (Pk.set (by assumption) _ _).all))
    (first | (go_at_call_of 50 H.s0; refine (uint50 H.s0 H.m0 H.k0 _ (by go_split_ands; assumption) hm0).mono ?_; rintro e v1 ⟨t0, rfl, ht0, _, hbv0⟩) | (go_at_call_of 50 H.s1; refine (uint50 H.s1 H.m1 H.k1 _ (by go_split_ands; assumption) hm1).mono ?_; rintro e v2 ⟨t1, rfl, ht1, _, hbv1⟩))
  have PB := (HP.out.drew.step hbv0).step hbv1
  have HB : Hid (Below w.heap.size w (v2.setRow w.heap.size (outC H t0 t1)) ∧ Has w.heap.size (outC H t0 t1) 57 (v2.setRow w.heap.size (outC H t0 t1))) := ⟨below_setRow' PB.bel (Nat.le_refl _) _, PB.got _⟩
  clear PB
  go_wp2
  obtain ⟨b0', b1', hb0', hH⟩ := HX.out
  refine bodyPost_ret (v := .agg (outC H t0 t1)) ?_ rfl ⟨b0', b1', t0, t1, hb0', by rw [hH], by rw [hH]; exact ht0, by rw [hH]; exact ht1, HB.out.1⟩
  exact results_cell_row Try.results42 _ _ w.heap.size 57 _ (0, 0) _ rfl HB.out.2 Try.underlying57 rfl Try.size57

end Go.Proofs.Qxb6600004a
