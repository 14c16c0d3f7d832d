import Derived.Test.Qxb6600004aLb
namespace Go.Proofs.Qxb6600004a
open Go.RowKit
namespace LO
theorem own_has {B E size n g : Nat} {w1 : World} {xs : List Value} (h : w1.ownsRow B E size (.slice (some ⟨g, 0, none⟩) n n) n xs) : ∃ cur : Array Value, Has g cur E w1 ∧ cur.size = n * size := by
  rcases h.2 with ⟨h', _⟩ | ⟨g', cap', cur, h', _, hg, _, _, hs, _⟩
  · simp at h'
  · simp only [Value.slice.injEq, Option.some.injEq, Addr.mk.injEq, and_true, true_and] at h'
    obtain ⟨rfl, rfl⟩ := h'
    exact ⟨cur, hg, hs⟩

/-- Block g: a row of n structs of two integers, the first k of them as S and A say. -/
def OwnB (g n : Nat) (S A : Nat → Int) (k : Nat) (w : World) : Prop :=
  ∃ cs : Array Value, Has g cs 32 w ∧ cs.size = n * 2 ∧ ∀ i, i < k → cs[i * 2]? = some (.int .i64 (S i)) ∧ cs[i * 2 + 1]? = some (.int .i64 (A i))
def OwnF (g n : Nat) (S A P : Nat → Int) (k : Nat) (w : World) : Prop :=
  ∃ cs : Array Value, Has g cs 34 w ∧ cs.size = n * 3 ∧ ∀ i, i < k → cs[i * 3]? = some (.int .i64 (S i)) ∧ cs[i * 3 + 1]? = some (.int .i64 (A i)) ∧ cs[i * 3 + 2]? = some (.int .i64 (P i))

theorem has_cellAt {g : Nat} {cs : Array Value} {t : TypeId} {w : World} (h : Has g cs t w) {j : Nat} (hj : j < cs.size) : ∃ v, w.cell? ⟨g, j, none⟩ = some v := by
  rw [h.cell]
  exact ⟨cs[j], by simp [hj]⟩

theorem OwnB.step {g n : Nat} {S A : Nat → Int} {k : Nat} {w : World} (h : OwnB g n S A k w) (hk : k < n) :
    OwnB g n S A (k + 1) ((w.setCell ⟨g, k * 2, none⟩ (.int .i64 (S k))).setCell ⟨g, k * 2 + 1, none⟩ (.int .i64 (A k))) := by
  obtain ⟨cs, hh, hs, hc⟩ := h
  refine ⟨_, (hh.setCell _ _).setCell _ _, by simpa using hs, fun i hi => ?_⟩
  by_cases e : i = k
  · subst e
    constructor
    · rw [Array.getElem?_setIfInBounds_ne (by omega), Array.getElem?_setIfInBounds_self_of_lt (by omega)]
    · rw [Array.getElem?_setIfInBounds_self_of_lt (by simp; omega)]
  · have := hc i (by omega)
    constructor
    · rw [Array.getElem?_setIfInBounds_ne (by omega), Array.getElem?_setIfInBounds_ne (by omega)]; exact this.1
    · rw [Array.getElem?_setIfInBounds_ne (by omega), Array.getElem?_setIfInBounds_ne (by omega)]; exact this.2
theorem OwnF.step {g n : Nat} {S A P : Nat → Int} {k : Nat} {w : World} (h : OwnF g n S A P k w) (hk : k < n) :
    OwnF g n S A P (k + 1) (((w.setCell ⟨g, k * 3, none⟩ (.int .i64 (S k))).setCell ⟨g, k * 3 + 1, none⟩ (.int .i64 (A k))).setCell ⟨g, k * 3 + 2, none⟩ (.int .i64 (P k))) := by
  obtain ⟨cs, hh, hs, hc⟩ := h
  refine ⟨_, ((hh.setCell _ _).setCell _ _).setCell _ _, by simpa using hs, fun i hi => ?_⟩
  by_cases e : i = k
  · subst e
    refine ⟨?_, ?_, ?_⟩
    · rw [Array.getElem?_setIfInBounds_ne (by omega), Array.getElem?_setIfInBounds_ne (by omega), Array.getElem?_setIfInBounds_self_of_lt (by omega)]
    · rw [Array.getElem?_setIfInBounds_ne (by omega), Array.getElem?_setIfInBounds_self_of_lt (by simp; omega)]
    · rw [Array.getElem?_setIfInBounds_self_of_lt (by simp; omega)]
  · have := hc i (by omega)
    refine ⟨?_, ?_, ?_⟩
    · rw [Array.getElem?_setIfInBounds_ne (by omega), Array.getElem?_setIfInBounds_ne (by omega), Array.getElem?_setIfInBounds_ne (by omega)]; exact this.1
    · rw [Array.getElem?_setIfInBounds_ne (by omega), Array.getElem?_setIfInBounds_ne (by omega), Array.getElem?_setIfInBounds_ne (by omega)]; exact this.2.1
    · rw [Array.getElem?_setIfInBounds_ne (by omega), Array.getElem?_setIfInBounds_ne (by omega), Array.getElem?_setIfInBounds_ne (by omega)]; exact this.2.2

theorem OwnB.row {g n : Nat} {S A : Nat → Int} {w : World} (h : OwnB g n S A n w) : RowB w (some ⟨g, 0, none⟩) n S A := by
  obtain ⟨cs, hh, hs, hc⟩ := h
  refine .inr ⟨g, 0, rfl, hh.lt, fun i hi => ?_⟩
  rw [Nat.zero_add, hh.cell, hh.cell]
  exact hc i hi
theorem OwnF.row {g n : Nat} {S A P : Nat → Int} {w : World} (h : OwnF g n S A P n w) : RowF w (some ⟨g, 0, none⟩) n S A P := by
  obtain ⟨cs, hh, hs, hc⟩ := h
  refine .inr ⟨g, 0, rfl, hh.lt, fun i hi => ?_⟩
  rw [Nat.zero_add, hh.cell, hh.cell, hh.cell]
  exact hc i hi
theorem RowB.below {w w' : World} {a : Option Addr} {n : Nat} {S A : Nat → Int} (h : RowB w a n S A) (hb : Below w.heap.size w w') : RowB w' a n S A := by
  rcases h with h | ⟨b, off, ha, hlt, hc⟩
  · exact .inl h
  · exact .inr ⟨b, off, ha, Nat.lt_of_lt_of_le hlt hb.size, fun i hi => ⟨(hb.cell (p := ⟨b, off + i * 2, none⟩) hlt).trans (hc i hi).1, (hb.cell (p := ⟨b, off + i * 2 + 1, none⟩) hlt).trans (hc i hi).2⟩⟩
theorem RowF.below {w w' : World} {a : Option Addr} {n : Nat} {S A P : Nat → Int} (h : RowF w a n S A P) (hb : Below w.heap.size w w') : RowF w' a n S A P := by
  rcases h with h | ⟨b, off, ha, hlt, hc⟩
  · exact .inl h
  · exact .inr ⟨b, off, ha, Nat.lt_of_lt_of_le hlt hb.size, fun i hi => ⟨(hb.cell (p := ⟨b, off + i * 3, none⟩) hlt).trans (hc i hi).1, (hb.cell (p := ⟨b, off + i * 3 + 1, none⟩) hlt).trans (hc i hi).2.1, (hb.cell (p := ⟨b, off + i * 3 + 2, none⟩) hlt).trans (hc i hi).2.2⟩⟩
end LO
open LO

theorem Try.info32 : (Try.prog.info? 32).map (fun i => (i.zero, i.size, i.bytes)) = some (some (.agg #[.int .i64 0, .int .i64 0]), 2, 16) := by kernel_rfl
theorem Try.info34 : (Try.prog.info? 34).map (fun i => (i.zero, i.size, i.bytes)) = some (some (.agg #[.int .i64 0, .int .i64 0, .int .i64 0]), 3, 24) := by kernel_rfl

set_option maxRecDepth 100000 in
set_option maxHeartbeats 1000000 in
theorem clone14X (X : Addr) (n c : Nat) (w : World) (S A : Nat → Int) (b off : Nat) (hX : n = 0 ∨ (X = ⟨b, off, none⟩ ∧ b < w.heap.size ∧ ∀ i, i < n → w.cell? ⟨b, off + i * 2, none⟩ = some (.int .i64 (S i)) ∧ w.cell? ⟨b, off + i * 2 + 1, none⟩ = some (.int .i64 (A i)))) (hn : n ≤ 4096) :
    Calls Try.prog 14 #[.slice (some X) n c] w fun e w' => ∃ a', e = .returned (.slice a' n n) ∧ RowB w' a' n S A ∧ Below w.heap.size w w' := by
  have q22 : ∀ (w : World) (a : Option Addr) (n c n' c' : Nat), (binOp .eql 22 (.slice a n c) (.slice none n' c')).run Try.prog w = .ok (.bool a.isNone) w := fun w a n c n' c' => Lib.run_eql_slice_nil w _ _ a n c n' c' Try.underlying22
  obtain ⟨i0, hi, hz0, hz1, hz2⟩ := info_parts Try.info32
  rcases hX with rfl | ⟨rfl, hb, hc⟩
  · go_enter Try.func14, Try.ntmps14
    go_wp2_with (at_make; refine wpList_make_full _ rfl _ _ 22 rfl w.heap.size 32 i0 (.agg #[.int .i64 0, .int .i64 0]) 2 Try.underlying22 hi hz0 hz1 _ _ _ _ 0 rfl rfl rfl rfl (by rw [hz2]; omega) (by unfold maxLen; omega) (Nat.le_refl _) ?_; intro w1 hown hgrow)
    have hbel : Below w.heap.size w w1 := (Below.refl _ w).grown hgrow (Nat.le_refl _) (by intro k hk; cases hk)
    clear hown hgrow hi hz0 hz1 hz2 i0
    refine wp_loop_rounds 1 ?_
    rw [rounds_succ]
    go_wp2
    go_ret
    exact ⟨_, rfl, .inl rfl, hbel⟩
  · go_enter Try.func14, Try.ntmps14
    go_wp2_with (at_make; refine wpList_make_full _ rfl _ _ 22 rfl w.heap.size 32 i0 (.agg #[.int .i64 0, .int .i64 0]) 2 Try.underlying22 hi hz0 hz1 _ _ _ _ n rfl rfl rfl rfl (by rw [hz2]; omega) (by unfold maxLen; omega) (Nat.le_refl _) ?_; intro w1 hown hgrow)
    have hbel : Below w.heap.size w w1 := (Below.refl _ w).grown hgrow (Nat.le_refl _) (by intro k hk; cases hk)
    have hob : OwnB w.heap.size n S A 0 w1 := by obtain ⟨cur, h, hs⟩ := own_has hown; exact ⟨cur, h, hs, fun i hi => absurd hi (by omega)⟩
    clear hown hgrow hi hz0 hz1 hz2 i0
    go_loopw [4] (fun i wr => ∃ k : Nat, k ≤ n ∧ i = .int .i64 k ∧ OwnB w.heap.size n S A k wr ∧ Below w.heap.size w wr) (fun i _ => n - (intOf i).toNat)
    case atStart => exact ⟨0, Nat.zero_le _, rfl, hob, hbel⟩
    case round =>
      clear hob hbel
      obtain ⟨k, hk, rfl, hob, hbel⟩ := hrel
      by_cases hlt : k < n
      · have hc0 : wr.cell? ⟨b, off + k * 2, none⟩ = some (.int .i64 (S k)) := (hbel.cell (by exact hb)).trans (hc k hlt).1
        have hc1 : wr.cell? ⟨b, off + k * 2 + 1, none⟩ = some (.int .i64 (A k)) := (hbel.cell (by exact hb)).trans (hc k hlt).2
        have hfz := fun j => (show wr.frozen? ⟨w.heap.size, j, none⟩ = false from by obtain ⟨cs, h, _⟩ := hob; exact h.free j)
        obtain ⟨v0, hv0⟩ : ∃ v, wr.cell? ⟨w.heap.size, k * 2, none⟩ = some v := by obtain ⟨cs, h, hs, _⟩ := hob; exact has_cellAt h (by omega)
        obtain ⟨v1, hv1⟩ : ∃ v, wr.cell? ⟨w.heap.size, k * 2 + 1, none⟩ = some v := by obtain ⟨cs, h, hs, _⟩ := hob; exact has_cellAt h (by omega)
        have HR : Hid (OwnB w.heap.size n S A (k + 1) ((wr.setCell ⟨w.heap.size, k * 2, none⟩ (.int .i64 (S k))).setCell ⟨w.heap.size, k * 2 + 1, none⟩ (.int .i64 (A k)))) := hob.step hlt
        have R2 : Below w.heap.size w ((wr.setCell ⟨w.heap.size, k * 2, none⟩ (.int .i64 (S k))).setCell ⟨w.heap.size, k * 2 + 1, none⟩ (.int .i64 (A k))) := ((hbel.setCell (Nat.le_refl _) _).setCell (Nat.le_refl _) _)
        clear hob hbel hc
        go_wp2
        go_roundw
        case rel => exact ⟨k + 1, by omega, by go_num, HR.out, R2⟩
        case measure => simp [intOf]; omega
      · have hkn : k = n := by omega
        subst hkn
        have R := hob.row
        clear hob hc
        go_wp2
        go_ret
        exact ⟨_, rfl, R, hbel⟩

set_option maxHeartbeats 1000000 in
theorem clone14 (a : Option Addr) (n c : Nat) (w : World) (S A : Nat → Int) (hr : RowB w a n S A) (hz : a = none → n = 0) (hn : n ≤ 4096) :
    Calls Try.prog 14 #[.slice a n c] w fun e w' => ∃ a', e = .returned (.slice a' n n) ∧ RowB w' a' n S A ∧ Below w.heap.size w w' := by
  cases a with
  | some X =>
    rcases hr with rfl | ⟨b, off, hX, hb, hc⟩
    · exact clone14X X 0 c w S A 0 0 (.inl rfl) hn
    · exact clone14X X n c w S A b off (.inr ⟨Option.some.inj hX, hb, hc⟩) hn
  | none =>
    obtain rfl : n = 0 := hz rfl
    have q22 : ∀ (w : World) (a : Option Addr) (n c n' c' : Nat), (binOp .eql 22 (.slice a n c) (.slice none n' c')).run Try.prog w = .ok (.bool a.isNone) w := fun w a n c n' c' => Lib.run_eql_slice_nil w _ _ a n c n' c' Try.underlying22
    go_enter Try.func14, Try.ntmps14
    go_wp2
    go_ret
    exact ⟨none, rfl, .inl rfl, Below.refl _ _⟩

set_option maxRecDepth 100000 in
set_option maxHeartbeats 1000000 in
theorem clone15X (X : Addr) (n c : Nat) (w : World) (S A P : Nat → Int) (b off : Nat) (hX : n = 0 ∨ (X = ⟨b, off, none⟩ ∧ b < w.heap.size ∧ ∀ i, i < n → w.cell? ⟨b, off + i * 3, none⟩ = some (.int .i64 (S i)) ∧ w.cell? ⟨b, off + i * 3 + 1, none⟩ = some (.int .i64 (A i)) ∧ w.cell? ⟨b, off + i * 3 + 2, none⟩ = some (.int .i64 (P i)))) (hn : n ≤ 4096) :
    Calls Try.prog 15 #[.slice (some X) n c] w fun e w' => ∃ a', e = .returned (.slice a' n n) ∧ RowF w' a' n S A P ∧ Below w.heap.size w w' := by
  have q22 : ∀ (w : World) (a : Option Addr) (n c n' c' : Nat), (binOp .eql 23 (.slice a n c) (.slice none n' c')).run Try.prog w = .ok (.bool a.isNone) w := fun w a n c n' c' => Lib.run_eql_slice_nil w _ _ a n c n' c' Try.underlying23
  obtain ⟨i0, hi, hz0, hz1, hz2⟩ := info_parts Try.info34
  rcases hX with rfl | ⟨rfl, hb, hc⟩
  · go_enter Try.func15, Try.ntmps15
    go_wp2_with (at_make; refine wpList_make_full _ rfl _ _ 23 rfl w.heap.size 34 i0 (.agg #[.int .i64 0, .int .i64 0, .int .i64 0]) 3 Try.underlying23 hi hz0 hz1 _ _ _ _ 0 rfl rfl rfl rfl (by rw [hz2]; omega) (by unfold maxLen; omega) (Nat.le_refl _) ?_; intro w1 hown hgrow)
    have hbel : Below w.heap.size w w1 := (Below.refl _ w).grown hgrow (Nat.le_refl _) (by intro k hk; cases hk)
    clear hown hgrow hi hz0 hz1 hz2 i0
    refine wp_loop_rounds 1 ?_
    rw [rounds_succ]
    go_wp2
    go_ret
    exact ⟨_, rfl, .inl rfl, hbel⟩
  · go_enter Try.func15, Try.ntmps15
    go_wp2_with (at_make; refine wpList_make_full _ rfl _ _ 23 rfl w.heap.size 34 i0 (.agg #[.int .i64 0, .int .i64 0, .int .i64 0]) 3 Try.underlying23 hi hz0 hz1 _ _ _ _ n rfl rfl rfl rfl (by rw [hz2]; omega) (by unfold maxLen; omega) (Nat.le_refl _) ?_; intro w1 hown hgrow)
    have hbel : Below w.heap.size w w1 := (Below.refl _ w).grown hgrow (Nat.le_refl _) (by intro k hk; cases hk)
    have hob : OwnF w.heap.size n S A P 0 w1 := by obtain ⟨cur, h, hs⟩ := own_has hown; exact ⟨cur, h, hs, fun i hi => absurd hi (by omega)⟩
    clear hown hgrow hi hz0 hz1 hz2 i0
    go_loopw [4] (fun i wr => ∃ k : Nat, k ≤ n ∧ i = .int .i64 k ∧ OwnF w.heap.size n S A P k wr ∧ Below w.heap.size w wr) (fun i _ => n - (intOf i).toNat)
    case atStart => exact ⟨0, Nat.zero_le _, rfl, hob, hbel⟩
    case round =>
      clear hob hbel
      obtain ⟨k, hk, rfl, hob, hbel⟩ := hrel
      by_cases hlt : k < n
      · have hc0 : wr.cell? ⟨b, off + k * 3, none⟩ = some (.int .i64 (S k)) := (hbel.cell (by exact hb)).trans (hc k hlt).1
        have hc1 : wr.cell? ⟨b, off + k * 3 + 1, none⟩ = some (.int .i64 (A k)) := (hbel.cell (by exact hb)).trans (hc k hlt).2.1
        have hc2 : wr.cell? ⟨b, off + k * 3 + 2, none⟩ = some (.int .i64 (P k)) := (hbel.cell (by exact hb)).trans (hc k hlt).2.2
        have hfz := fun j => (show wr.frozen? ⟨w.heap.size, j, none⟩ = false from by obtain ⟨cs, h, _⟩ := hob; exact h.free j)
        obtain ⟨v0, hv0⟩ : ∃ v, wr.cell? ⟨w.heap.size, k * 3, none⟩ = some v := by obtain ⟨cs, h, hs, _⟩ := hob; exact has_cellAt h (by omega)
        obtain ⟨v1, hv1⟩ : ∃ v, wr.cell? ⟨w.heap.size, k * 3 + 1, none⟩ = some v := by obtain ⟨cs, h, hs, _⟩ := hob; exact has_cellAt h (by omega)
        obtain ⟨v2, hv2⟩ : ∃ v, wr.cell? ⟨w.heap.size, k * 3 + 2, none⟩ = some v := by obtain ⟨cs, h, hs, _⟩ := hob; exact has_cellAt h (by omega)
        have HR : Hid (OwnF w.heap.size n S A P (k + 1) (((wr.setCell ⟨w.heap.size, k * 3, none⟩ (.int .i64 (S k))).setCell ⟨w.heap.size, k * 3 + 1, none⟩ (.int .i64 (A k))).setCell ⟨w.heap.size, k * 3 + 2, none⟩ (.int .i64 (P k)))) := hob.step hlt
        have R2 : Below w.heap.size w (((wr.setCell ⟨w.heap.size, k * 3, none⟩ (.int .i64 (S k))).setCell ⟨w.heap.size, k * 3 + 1, none⟩ (.int .i64 (A k))).setCell ⟨w.heap.size, k * 3 + 2, none⟩ (.int .i64 (P k))) := (((hbel.setCell (Nat.le_refl _) _).setCell (Nat.le_refl _) _).setCell (Nat.le_refl _) _)
        clear hob hbel hc
        go_wp2
        go_roundw
        case rel => exact ⟨k + 1, by omega, by go_num, HR.out, R2⟩
        case measure => simp [intOf]; omega
      · have hkn : k = n := by omega
        subst hkn
        have R := hob.row
        clear hob hc
        go_wp2
        go_ret
        exact ⟨_, rfl, R, hbel⟩

set_option maxHeartbeats 1000000 in
theorem clone15 (a : Option Addr) (n c : Nat) (w : World) (S A P : Nat → Int) (hr : RowF w a n S A P) (hz : a = none → n = 0) (hn : n ≤ 4096) :
    Calls Try.prog 15 #[.slice a n c] w fun e w' => ∃ a', e = .returned (.slice a' n n) ∧ RowF w' a' n S A P ∧ Below w.heap.size w w' := by
  cases a with
  | some X =>
    rcases hr with rfl | ⟨b, off, hX, hb, hc⟩
    · exact clone15X X 0 c w S A P 0 0 (.inl rfl) hn
    · exact clone15X X n c w S A P b off (.inr ⟨Option.some.inj hX, hb, hc⟩) hn
  | none =>
    obtain rfl : n = 0 := hz rfl
    have q22 : ∀ (w : World) (a : Option Addr) (n c n' c' : Nat), (binOp .eql 23 (.slice a n c) (.slice none n' c')).run Try.prog w = .ok (.bool a.isNone) w := fun w a n c n' c' => Lib.run_eql_slice_nil w _ _ a n c n' c' Try.underlying23
    go_enter Try.func15, Try.ntmps15
    go_wp2
    go_ret
    exact ⟨none, rfl, .inl rfl, Below.refl _ _⟩

end Go.Proofs.Qxb6600004a
