import Derived.Test.Qxb6600004aHa
namespace Go.Proofs.Qxb6600004a
open Go.RowKit

theorem Try.info5 : (Try.prog.info? 5).map (fun i => (i.zero, i.size, i.bytes)) = some (some (.int .u8 0), 1, 1) := by kernel_rfl
theorem Try.info112 : (Try.prog.info? 112).map (fun i => (i.zero, i.size, i.bytes)) = some (some (.int .u8 0), 1, 1) := by kernel_rfl

/-- A row of the call's own that holds bytes. -/
def OwnBytes (B : Nat) (E : TypeId) (n : Nat) (wr : World) : Prop :=
  ∃ xs : List Value, wr.ownsRow B E 1 (.slice (some ⟨B, 0, none⟩) n n) n xs ∧ ∀ v ∈ xs, ∃ m : Int, v = .int .u8 m

theorem OwnBytes.free {B E n : Nat} {wr : World} (h : OwnBytes B E n wr) (j : Nat) : wr.frozen? ⟨B, j, none⟩ = false := by
  obtain ⟨xs, h, _⟩ := h
  exact h.frozenAt j

theorem OwnBytes.cell {B E n : Nat} {wr : World} (h : OwnBytes B E n wr) (j : Nat) (hj : j < n) : ∃ m : Int, wr.cell? ⟨B, j, none⟩ = some (.int .u8 m) := by
  obtain ⟨xs, h, hx⟩ := h
  have hl : xs.length = n := by simpa using h.1
  have := h.cellAt j (by omega)
  rw [this, List.getElem?_eq_getElem (by omega)]
  obtain ⟨m, hm⟩ := hx xs[j] (List.getElem_mem _)
  exact ⟨m, by rw [hm]⟩

theorem OwnBytes.set {B E n : Nat} {wr : World} (h : OwnBytes B E n wr) (j : Nat) (m : Int) : OwnBytes B E n (wr.setCell ⟨B, j, none⟩ (.int .u8 m)) := by
  obtain ⟨xs, h, hx⟩ := h
  refine ⟨_, (h.stored j (.int .u8 m)).1, fun v hv => ?_⟩
  rcases List.mem_or_eq_of_mem_set hv with h | h
  · exact hx v h
  · exact ⟨m, h⟩

theorem OwnBytes.row {B E n : Nat} {wr : World} (h : OwnBytes B E n wr) (hB : B < wr.heap.size) : ByteRow wr (some ⟨B, 0, none⟩) n := by
  refine .inr ⟨B, 0, fun i => if hi : i < n then Classical.choose (h.cell i hi) else 0, rfl, hB, fun i hi => ?_⟩
  simp only [dif_pos hi]
  have := Classical.choose_spec (h.cell i hi)
  simpa using this

theorem made_bytes {B E n : Nat} {w1 : World} (h : w1.ownsRow B E 1 (.slice (some ⟨B, 0, none⟩) n n) n (madeCells (Value.cells (.int .u8 0)) (n * 1)).toList) : OwnBytes B E n w1 := by
  refine ⟨_, h, fun v hv => ⟨0, ?_⟩⟩
  have e : (Value.cells (.int .u8 0)) = #[.int .u8 0] := rfl
  rw [e, toList_madeCells_one] at hv
  exact (List.mem_replicate.1 hv).2

theorem own_lt {B E size n cap g : Nat} {w1 : World} {xs : List Value} (h : w1.ownsRow B E size (.slice (some ⟨g, 0, none⟩) n cap) n xs) : g < w1.heap.size := by
  rcases h.2 with ⟨h', _⟩ | ⟨g', cap', cur, h', _, hg, _⟩
  · simp at h'
  · simp only [Value.slice.injEq, Option.some.injEq, Addr.mk.injEq, and_true, true_and] at h'
    obtain ⟨rfl, rfl⟩ := h'
    exact (Array.getElem?_eq_some_iff.1 hg).1

set_option maxHeartbeats 400000 in
theorem clone31X (X : Addr) (n c : Nat) (w : World) (b off : Nat) (f : Nat → Int) (hX : n = 0 ∨ (X = ⟨b, off, none⟩ ∧ b < w.heap.size ∧ ∀ i, i < n → w.cell? ⟨b, off + i, none⟩ = some (.int .u8 (f i)))) (hn : n ≤ 1048576) :
    Calls Try.prog 31 #[.slice (some X) n c] w fun e w' => ∃ a', e = .returned (.slice a' n n) ∧ a'.isNone = false ∧ ByteRow w' a' n ∧ Below w.heap.size w w' := by
  have q50 : ∀ (w : World) (a : Option Addr) (n c n' c' : Nat), (binOp .eql 50 (.slice a n c) (.slice none n' c')).run Try.prog w = .ok (.bool a.isNone) w := fun w a n c n' c' => Lib.run_eql_slice_nil w _ _ a n c n' c' Try.underlying50
  obtain ⟨i0, hi, hz0, hz1, hz2⟩ := info_parts Try.info5
  rcases hX with rfl | ⟨rfl, hb, hc⟩
  · go_enter Try.func31, Try.ntmps31
    go_wp2_with (at_make; refine wpList_make_full _ rfl _ _ 50 rfl w.heap.size 5 i0 (.int .u8 0) 1 Try.underlying50 hi hz0 hz1 _ _ _ _ 0 rfl rfl rfl rfl (by rw [hz2]; omega) (by unfold maxLen; omega) (Nat.le_refl _) ?_; intro w1 hown hgrow)
    have hob : OwnBytes w.heap.size 5 0 w1 := made_bytes hown
    have hbel : Below w.heap.size w w1 := (Below.refl _ w).grown hgrow (Nat.le_refl _) (by intro k hk; cases hk)
    have hsz : w.heap.size < w1.heap.size := own_lt hown
    clear hown hgrow hi hz0 hz1 hz2 i0
    go_loopw [4] (fun i wr => ∃ k : Nat, k ≤ 0 ∧ i = .int .i64 k ∧ OwnBytes w.heap.size 5 0 wr ∧ Below w.heap.size w wr ∧ w.heap.size < wr.heap.size) (fun i _ => 0 - (intOf i).toNat)
    case atStart => exact ⟨0, Nat.zero_le _, rfl, hob, hbel, hsz⟩
    case round =>
      clear hob hbel hsz
      obtain ⟨k, hk, rfl, hob, hbel, hsz⟩ := hrel
      by_cases hlt : k < 0
      · exact absurd hlt (by omega)
      · have hkn : k = 0 := by omega
        subst hkn
        have R := hob.row hsz
        clear hob
        go_wp2
        go_ret
        exact ⟨_, rfl, rfl, R, hbel⟩
  · go_enter Try.func31, Try.ntmps31
    go_wp2_with (at_make; refine wpList_make_full _ rfl _ _ 50 rfl w.heap.size 5 i0 (.int .u8 0) 1 Try.underlying50 hi hz0 hz1 _ _ _ _ n rfl rfl rfl rfl (by rw [hz2]; omega) (by unfold maxLen; omega) (Nat.le_refl _) ?_; intro w1 hown hgrow)
    have hob : OwnBytes w.heap.size 5 n w1 := made_bytes hown
    have hbel : Below w.heap.size w w1 := (Below.refl _ w).grown hgrow (Nat.le_refl _) (by intro k hk; cases hk)
    have hsz : w.heap.size < w1.heap.size := own_lt hown
    clear hown hgrow hi hz0 hz1 hz2 i0
    go_loopw [4] (fun i wr => ∃ k : Nat, k ≤ n ∧ i = .int .i64 k ∧ OwnBytes w.heap.size 5 n wr ∧ Below w.heap.size w wr ∧ w.heap.size < wr.heap.size) (fun i _ => n - (intOf i).toNat)
    case atStart => exact ⟨0, Nat.zero_le _, rfl, hob, hbel, hsz⟩
    case round =>
      clear hob hbel hsz
      obtain ⟨k, hk, rfl, hob, hbel, hsz⟩ := hrel
      by_cases hlt : k < n
      · have hcx : wr.cell? ⟨b, off + k, none⟩ = some (.int .u8 (f k)) := (hbel.cell (by exact hb)).trans (hc k hlt)
        have hfz : wr.frozen? ⟨w.heap.size, k, none⟩ = false := hob.free k
        obtain ⟨m, hm⟩ := hob.cell k hlt
        have R : OwnBytes w.heap.size 5 n (wr.setCell ⟨w.heap.size, k, none⟩ (.int .u8 (f k))) := hob.set k (f k)
        have R2 : Below w.heap.size w (wr.setCell ⟨w.heap.size, k, none⟩ (.int .u8 (f k))) := hbel.setCell (Nat.le_refl _) _
        clear hob hbel hc
        go_wp2
        go_roundw
        case rel => exact ⟨k + 1, by omega, by go_num, R, R2, by simpa using hsz⟩
        case measure => simp [intOf]; omega
      · have hkn : k = n := by omega
        subst hkn
        have R := hob.row hsz
        clear hob hc
        go_wp2
        go_ret
        exact ⟨_, rfl, rfl, R, hbel⟩

set_option maxHeartbeats 400000 in
theorem clone31 (a : Option Addr) (n c : Nat) (w : World) (hr : ByteRow w a n) (hn : n ≤ 1048576) :
    Calls Try.prog 31 #[.slice a n c] w fun e w' => ∃ a', e = .returned (.slice a' n n) ∧ a'.isNone = a.isNone ∧ ByteRow w' a' n ∧ Below w.heap.size w w' := by
  cases a with
  | some X =>
    rcases hr with rfl | ⟨b, off, f, hX, hb, hc⟩
    · exact clone31X X 0 c w 0 0 (fun _ => 0) (.inl rfl) hn
    · exact clone31X X n c w b off f (.inr ⟨Option.some.inj hX, hb, hc⟩) hn
  | none =>
    obtain rfl : n = 0 := by
      rcases hr with h | ⟨b, off, f, hX, _⟩
      · exact h
      · cases hX
    have q50 : ∀ (w : World) (a : Option Addr) (n c n' c' : Nat), (binOp .eql 50 (.slice a n c) (.slice none n' c')).run Try.prog w = .ok (.bool a.isNone) w := fun w a n c n' c' => Lib.run_eql_slice_nil w _ _ a n c n' c' Try.underlying50
    go_enter Try.func31, Try.ntmps31
    go_wp2
    go_ret
    exact ⟨none, rfl, rfl, .inl rfl, Below.refl _ _⟩

set_option maxHeartbeats 400000 in
theorem uses48X (X : Addr) (n c : Nat) (w : World) (b off : Nat) (f : Nat → Int) (hX : n = 0 ∨ (X = ⟨b, off, none⟩ ∧ b < w.heap.size ∧ ∀ i, i < n → w.cell? ⟨b, off + i, none⟩ = some (.int .u8 (f i)))) (hn : n ≤ 1048576) :
    Calls Try.prog 48 #[.slice (some X) n c] w fun e w' => ∃ a', e = .returned (.slice a' n n) ∧ a'.isNone = false ∧ ByteRow w' a' n ∧ Below w.heap.size w w' := by
  have q50 : ∀ (w : World) (a : Option Addr) (n c n' c' : Nat), (binOp .eql 50 (.slice a n c) (.slice none n' c')).run Try.prog w = .ok (.bool a.isNone) w := fun w a n c n' c' => Lib.run_eql_slice_nil w _ _ a n c n' c' Try.underlying50
  obtain ⟨i0, hi, hz0, hz1, hz2⟩ := info_parts Try.info112
  rcases hX with rfl | ⟨rfl, hb, hc⟩
  · go_enter Try.func48, Try.ntmps48
    go_wp2_with (at_make; refine wpList_make_full _ rfl _ _ 99 rfl w.heap.size 112 i0 (.int .u8 0) 1 Try.underlying99 hi hz0 hz1 _ _ _ _ 0 rfl rfl rfl rfl (by rw [hz2]; omega) (by unfold maxLen; omega) (Nat.le_refl _) ?_; intro w1 hown hgrow)
    have hob : OwnBytes w.heap.size 112 0 w1 := made_bytes hown
    have hbel : Below w.heap.size w w1 := (Below.refl _ w).grown hgrow (Nat.le_refl _) (by intro k hk; cases hk)
    have hsz : w.heap.size < w1.heap.size := own_lt hown
    clear hown hgrow hi hz0 hz1 hz2 i0
    go_loopw [4] (fun i wr => ∃ k : Nat, k ≤ 0 ∧ i = .int .i64 k ∧ OwnBytes w.heap.size 112 0 wr ∧ Below w.heap.size w wr ∧ w.heap.size < wr.heap.size) (fun i _ => 0 - (intOf i).toNat)
    case atStart => exact ⟨0, Nat.zero_le _, rfl, hob, hbel, hsz⟩
    case round =>
      clear hob hbel hsz
      obtain ⟨k, hk, rfl, hob, hbel, hsz⟩ := hrel
      by_cases hlt : k < 0
      · exact absurd hlt (by omega)
      · have hkn : k = 0 := by omega
        subst hkn
        have R := hob.row hsz
        clear hob
        go_wp2
        go_ret
        exact ⟨_, rfl, rfl, R, hbel⟩
  · go_enter Try.func48, Try.ntmps48
    go_wp2_with (at_make; refine wpList_make_full _ rfl _ _ 99 rfl w.heap.size 112 i0 (.int .u8 0) 1 Try.underlying99 hi hz0 hz1 _ _ _ _ n rfl rfl rfl rfl (by rw [hz2]; omega) (by unfold maxLen; omega) (Nat.le_refl _) ?_; intro w1 hown hgrow)
    have hob : OwnBytes w.heap.size 112 n w1 := made_bytes hown
    have hbel : Below w.heap.size w w1 := (Below.refl _ w).grown hgrow (Nat.le_refl _) (by intro k hk; cases hk)
    have hsz : w.heap.size < w1.heap.size := own_lt hown
    clear hown hgrow hi hz0 hz1 hz2 i0
    go_loopw [4] (fun i wr => ∃ k : Nat, k ≤ n ∧ i = .int .i64 k ∧ OwnBytes w.heap.size 112 n wr ∧ Below w.heap.size w wr ∧ w.heap.size < wr.heap.size) (fun i _ => n - (intOf i).toNat)
    case atStart => exact ⟨0, Nat.zero_le _, rfl, hob, hbel, hsz⟩
    case round =>
      clear hob hbel hsz
      obtain ⟨k, hk, rfl, hob, hbel, hsz⟩ := hrel
      by_cases hlt : k < n
      · have hcx : wr.cell? ⟨b, off + k, none⟩ = some (.int .u8 (f k)) := (hbel.cell (by exact hb)).trans (hc k hlt)
        have hfz : wr.frozen? ⟨w.heap.size, k, none⟩ = false := hob.free k
        obtain ⟨m, hm⟩ := hob.cell k hlt
        have R : OwnBytes w.heap.size 112 n (wr.setCell ⟨w.heap.size, k, none⟩ (.int .u8 (f k))) := hob.set k (f k)
        have R2 : Below w.heap.size w (wr.setCell ⟨w.heap.size, k, none⟩ (.int .u8 (f k))) := hbel.setCell (Nat.le_refl _) _
        clear hob hbel hc
        go_wp2
        go_roundw
        case rel => exact ⟨k + 1, by omega, by go_num, R, R2, by simpa using hsz⟩
        case measure => simp [intOf]; omega
      · have hkn : k = n := by omega
        subst hkn
        have R := hob.row hsz
        clear hob hc
        go_wp2
        go_ret
        exact ⟨_, rfl, rfl, R, hbel⟩

set_option maxHeartbeats 400000 in
theorem uses48 (a : Option Addr) (n c : Nat) (w : World) (hr : ByteRow w a n) (hn : n ≤ 1048576) :
    Calls Try.prog 48 #[.slice a n c] w fun e w' => ∃ a', e = .returned (.slice a' n n) ∧ a'.isNone = a.isNone ∧ ByteRow w' a' n ∧ Below w.heap.size w w' := by
  cases a with
  | some X =>
    rcases hr with rfl | ⟨b, off, f, hX, hb, hc⟩
    · exact uses48X X 0 c w 0 0 (fun _ => 0) (.inl rfl) hn
    · exact uses48X X n c w b off f (.inr ⟨Option.some.inj hX, hb, hc⟩) hn
  | none =>
    obtain rfl : n = 0 := by
      rcases hr with h | ⟨b, off, f, hX, _⟩
      · exact h
      · cases hX
    have q50 : ∀ (w : World) (a : Option Addr) (n c n' c' : Nat), (binOp .eql 50 (.slice a n c) (.slice none n' c')).run Try.prog w = .ok (.bool a.isNone) w := fun w a n c n' c' => Lib.run_eql_slice_nil w _ _ a n c n' c' Try.underlying50
    go_enter Try.func48, Try.ntmps48
    go_wp2
    go_ret
    exact ⟨none, rfl, rfl, .inl rfl, Below.refl _ _⟩

set_option maxHeartbeats 400000 in
theorem uint50X (X : Addr) (n c : Nat) (w : World) (b off : Nat) (f : Nat → Int) (hX : n = 0 ∨ (X = ⟨b, off, none⟩ ∧ b < w.heap.size ∧ ∀ i, i < n → w.cell? ⟨b, off + i, none⟩ = some (.int .u8 (f i)))) (hn : n ≤ 1048576) :
    Calls Try.prog 50 #[.slice (some X) n c] w fun e w' => ∃ a', e = .returned (.slice a' n n) ∧ a'.isNone = false ∧ ByteRow w' a' n ∧ Below w.heap.size w w' := by
  have q50 : ∀ (w : World) (a : Option Addr) (n c n' c' : Nat), (binOp .eql 99 (.slice a n c) (.slice none n' c')).run Try.prog w = .ok (.bool a.isNone) w := fun w a n c n' c' => Lib.run_eql_slice_nil w _ _ a n c n' c' Try.underlying99
  obtain ⟨i0, hi, hz0, hz1, hz2⟩ := info_parts Try.info5
  rcases hX with rfl | ⟨rfl, hb, hc⟩
  · go_enter Try.func50, Try.ntmps50
    go_wp2_with (at_make; refine wpList_make_full _ rfl _ _ 50 rfl w.heap.size 5 i0 (.int .u8 0) 1 Try.underlying50 hi hz0 hz1 _ _ _ _ 0 rfl rfl rfl rfl (by rw [hz2]; omega) (by unfold maxLen; omega) (Nat.le_refl _) ?_; intro w1 hown hgrow)
    have hob : OwnBytes w.heap.size 5 0 w1 := made_bytes hown
    have hbel : Below w.heap.size w w1 := (Below.refl _ w).grown hgrow (Nat.le_refl _) (by intro k hk; cases hk)
    have hsz : w.heap.size < w1.heap.size := own_lt hown
    clear hown hgrow hi hz0 hz1 hz2 i0
    go_loopw [4] (fun i wr => ∃ k : Nat, k ≤ 0 ∧ i = .int .i64 k ∧ OwnBytes w.heap.size 5 0 wr ∧ Below w.heap.size w wr ∧ w.heap.size < wr.heap.size) (fun i _ => 0 - (intOf i).toNat)
    case atStart => exact ⟨0, Nat.zero_le _, rfl, hob, hbel, hsz⟩
    case round =>
      clear hob hbel hsz
      obtain ⟨k, hk, rfl, hob, hbel, hsz⟩ := hrel
      by_cases hlt : k < 0
      · exact absurd hlt (by omega)
      · have hkn : k = 0 := by omega
        subst hkn
        have R := hob.row hsz
        clear hob
        go_wp2
        go_ret
        exact ⟨_, rfl, rfl, R, hbel⟩
  · go_enter Try.func50, Try.ntmps50
    go_wp2_with (at_make; refine wpList_make_full _ rfl _ _ 50 rfl w.heap.size 5 i0 (.int .u8 0) 1 Try.underlying50 hi hz0 hz1 _ _ _ _ n rfl rfl rfl rfl (by rw [hz2]; omega) (by unfold maxLen; omega) (Nat.le_refl _) ?_; intro w1 hown hgrow)
    have hob : OwnBytes w.heap.size 5 n w1 := made_bytes hown
    have hbel : Below w.heap.size w w1 := (Below.refl _ w).grown hgrow (Nat.le_refl _) (by intro k hk; cases hk)
    have hsz : w.heap.size < w1.heap.size := own_lt hown
    clear hown hgrow hi hz0 hz1 hz2 i0
    go_loopw [4] (fun i wr => ∃ k : Nat, k ≤ n ∧ i = .int .i64 k ∧ OwnBytes w.heap.size 5 n wr ∧ Below w.heap.size w wr ∧ w.heap.size < wr.heap.size) (fun i _ => n - (intOf i).toNat)
    case atStart => exact ⟨0, Nat.zero_le _, rfl, hob, hbel, hsz⟩
    case round =>
      clear hob hbel hsz
      obtain ⟨k, hk, rfl, hob, hbel, hsz⟩ := hrel
      by_cases hlt : k < n
      · have hcx : wr.cell? ⟨b, off + k, none⟩ = some (.int .u8 (f k)) := (hbel.cell (by exact hb)).trans (hc k hlt)
        have hfz : wr.frozen? ⟨w.heap.size, k, none⟩ = false := hob.free k
        obtain ⟨m, hm⟩ := hob.cell k hlt
        have R : OwnBytes w.heap.size 5 n (wr.setCell ⟨w.heap.size, k, none⟩ (.int .u8 (f k))) := hob.set k (f k)
        have R2 : Below w.heap.size w (wr.setCell ⟨w.heap.size, k, none⟩ (.int .u8 (f k))) := hbel.setCell (Nat.le_refl _) _
        clear hob hbel hc
        go_wp2
        go_roundw
        case rel => exact ⟨k + 1, by omega, by go_num, R, R2, by simpa using hsz⟩
        case measure => simp [intOf]; omega
      · have hkn : k = n := by omega
        subst hkn
        have R := hob.row hsz
        clear hob hc
        go_wp2
        go_ret
        exact ⟨_, rfl, rfl, R, hbel⟩

set_option maxHeartbeats 400000 in
theorem uint50 (a : Option Addr) (n c : Nat) (w : World) (hr : ByteRow w a n) (hn : n ≤ 1048576) :
    Calls Try.prog 50 #[.slice a n c] w fun e w' => ∃ a', e = .returned (.slice a' n n) ∧ a'.isNone = a.isNone ∧ ByteRow w' a' n ∧ Below w.heap.size w w' := by
  cases a with
  | some X =>
    rcases hr with rfl | ⟨b, off, f, hX, hb, hc⟩
    · exact uint50X X 0 c w 0 0 (fun _ => 0) (.inl rfl) hn
    · exact uint50X X n c w b off f (.inr ⟨Option.some.inj hX, hb, hc⟩) hn
  | none =>
    obtain rfl : n = 0 := by
      rcases hr with h | ⟨b, off, f, hX, _⟩
      · exact h
      · cases hX
    have q50 : ∀ (w : World) (a : Option Addr) (n c n' c' : Nat), (binOp .eql 99 (.slice a n c) (.slice none n' c')).run Try.prog w = .ok (.bool a.isNone) w := fun w a n c n' c' => Lib.run_eql_slice_nil w _ _ a n c n' c' Try.underlying99
    go_enter Try.func50, Try.ntmps50
    go_wp2
    go_ret
    exact ⟨none, rfl, rfl, .inl rfl, Below.refl _ _⟩

end Go.Proofs.Qxb6600004a
