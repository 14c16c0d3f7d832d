import Derived.Test.Qxb6600099aA
namespace Go.Proofs.Qxb6600099a
open Go.RowKit

/-- Block g holds just these cells, and none is frozen. -/
def Has (g : Nat) (cs : Array Value) (t : TypeId) (w : World) : Prop := w.heap[g]? = some (.cells cs t (0, 0))
theorem Has.drew {g : Nat} {cs : Array Value} {t : TypeId} {w : World} (h : Has g cs t w) : Has g cs t w.drew := h
theorem Has.lt {g : Nat} {cs : Array Value} {t : TypeId} {w : World} (h : Has g cs t w) : g < w.heap.size := (Array.getElem?_eq_some_iff.1 h).1
theorem Has.alloc {g : Nat} {cs : Array Value} {t : TypeId} {w : World} (h : Has g cs t w) (o : Obj) : Has g cs t (w.alloc o) := (Below.heap_alloc w o g h.lt).trans h
theorem Has.new (cs : Array Value) (t : TypeId) (w : World) : Has w.heap.size cs t (w.alloc (.cells cs t)) := heap_alloc_last w _
theorem Has.below {B g : Nat} {cs : Array Value} {t : TypeId} {w w' : World} (h : Has g cs t w) (hb : Below B w w') (hg : g < B) : Has g cs t w' := (hb.block g hg).trans h
theorem Has.cell {g : Nat} {cs : Array Value} {t : TypeId} {w : World} (h : Has g cs t w) (j : Nat) : w.cell? ⟨g, j, none⟩ = cs[j]? := cell_of_row w g j cs t (0, 0) h
theorem Has.free {g : Nat} {cs : Array Value} {t : TypeId} {w : World} (h : Has g cs t w) (j : Nat) : w.frozen? ⟨g, j, none⟩ = false := frozen_of_row w g j cs t h
theorem Has.setCell {g : Nat} {cs : Array Value} {t : TypeId} {w : World} (h : Has g cs t w) (j : Nat) (v : Value) : Has g (cs.setIfInBounds j v) t (w.setCell ⟨g, j, none⟩ v) := by
  rw [setCell_eq_setRow w g j cs t (0, 0) v h]
  exact setRow_heap w g cs _ t (0, 0) h
theorem Has.other {g : Nat} {cs : Array Value} {t : TypeId} {w : World} (h : Has g cs t w) {k j : Nat} (hk : g ≠ k) (v : Value) : Has g cs t (w.setCell ⟨k, j, none⟩ v) := (Below.heap_setCell w ⟨k, j, none⟩ v g hk).trans h
theorem own_has {B E size n g : Nat} {w1 : World} {xs : List Value} (h : w1.ownsRow B E size (.slice (some ⟨g, 0, none⟩) n n) n xs) : ∃ cur : Array Value, Has g cur E w1 ∧ cur.size = n * size := by
  rcases h.2 with ⟨h', _⟩ | ⟨g', cap', cur, h', _, hg, _, _, hs, _⟩
  · simp at h'
  · simp only [Value.slice.injEq, Option.some.injEq, Addr.mk.injEq, and_true, true_and] at h'
    obtain ⟨rfl, rfl⟩ := h'
    exact ⟨cur, hg, hs⟩

/-- Block g: a row of n bytes, the first k of them as T says. -/
def OwnT (g n : Nat) (T : Nat → Int) (k : Nat) (w : World) : Prop :=
  ∃ cs : Array Value, Has g cs 5 w ∧ cs.size = n ∧ ∀ i, i < k → cs[i]? = some (.int .u8 (T i))
theorem OwnT.step {g n : Nat} {T : Nat → Int} {k : Nat} {w : World} (h : OwnT g n T k w) (hk : k < n) : OwnT g n T (k + 1) (w.setCell ⟨g, k, none⟩ (.int .u8 (T k))) := by
  obtain ⟨cs, hh, hs, hc⟩ := h
  refine ⟨_, hh.setCell _ _, by simpa using hs, fun i hi => ?_⟩
  by_cases e : i = k
  · subst e
    rw [Array.getElem?_setIfInBounds_self_of_lt (by omega)]
  · rw [Array.getElem?_setIfInBounds_ne (by omega)]; exact hc i (by omega)
theorem OwnT.row {g n : Nat} {T : Nat → Int} {w : World} (h : OwnT g n T n w) (ht : ∀ i, i < n → 0 ≤ T i ∧ T i ≤ 255) : RowT w (some ⟨g, 0, none⟩) n T := by
  obtain ⟨cs, hh, hs, hc⟩ := h
  refine ⟨ht, .inr ⟨g, 0, rfl, hh.lt, fun i hi => ?_⟩⟩
  rw [Nat.zero_add, hh.cell]
  exact hc i hi
theorem OwnT.there {g n : Nat} {T : Nat → Int} {k : Nat} {w : World} (h : OwnT g n T k w) {j : Nat} (hj : j < n) : ∃ v, w.cell? ⟨g, j, none⟩ = some v := by
  obtain ⟨cs, hh, hs, hc⟩ := h
  exact ⟨cs[j]'(by omega), by rw [hh.cell]; exact Array.getElem?_eq_getElem (by omega)⟩
theorem OwnT.free {g n : Nat} {T : Nat → Int} {k : Nat} {w : World} (h : OwnT g n T k w) (j : Nat) : w.frozen? ⟨g, j, none⟩ = false := by
  obtain ⟨cs, hh, hs, hc⟩ := h
  exact hh.free j
theorem OwnT.lt {g n : Nat} {T : Nat → Int} {k : Nat} {w : World} (h : OwnT g n T k w) : g < w.heap.size := by
  obtain ⟨cs, hh, hs, hc⟩ := h
  exact hh.lt

theorem Try.info5 : (Try.prog.info? 5).map (fun i => (i.zero, i.size, i.bytes)) = some (some (.int .u8 0), 1, 1) := by kernel_rfl

/-! ### the guard -/
theorem zz10_yes (a : Option Addr) (n c : Nat) (i : Int) (w : World) (h : n ≤ 1048576) :
    Calls Try.prog 10 #[.slice a n c, .int .i64 i] w fun e w' => e = .returned (.bool true) ∧ w = w' := by
  go_enter Try.func10, Try.ntmps10
  go_wp2
  go_ret
  exact ⟨rfl, rfl⟩
theorem zz10_no (a : Option Addr) (n c : Nat) (i : Int) (w : World) (h : ¬ n ≤ 1048576) :
    Calls Try.prog 10 #[.slice a n c, .int .i64 i] w fun e w' => e = .returned (.bool false) ∧ w = w' := by
  go_enter Try.func10, Try.ntmps10
  go_wp2
  go_ret
  exact ⟨rfl, rfl⟩

/-! ### cloneBytes -/
/-- What cloneBytes answers. -/
def ClonePost (n : Nat) (T : Nat → Int) (w : World) (e : Ending) (w' : World) : Prop :=
  ∃ a', e = .returned (.slice a' n n) ∧ (a' = none → n = 0) ∧ RowT w' a' n T ∧ Below w.heap.size w w'

set_option maxHeartbeats 400000 in
theorem clone11X (X : Addr) (n c : Nat) (w : World) (b off : Nat) (T : Nat → Int) (hX : n = 0 ∨ (X = ⟨b, off, none⟩ ∧ b < w.heap.size ∧ ∀ i, i < n → w.cell? ⟨b, off + i, none⟩ = some (.int .u8 (T i)))) (hT : ∀ i, i < n → 0 ≤ T i ∧ T i ≤ 255) (hn : n ≤ 1048576) :
    Calls Try.prog 11 #[.slice (some X) n c] w (ClonePost n T w) := by
  have q22 : ∀ (w : World) (a : Option Addr) (n c n' c' : Nat), (binOp .eql 22 (.slice a n c) (.slice none n' c')).run Try.prog w = .ok (.bool a.isNone) w := fun w a n c n' c' => Lib.run_eql_slice_nil w _ _ a n c n' c' Try.underlying22
  obtain ⟨i0, hi, hz0, hz1, hz2⟩ := info_parts Try.info5
  have HT : Hid (∀ i, i < n → 0 ≤ T i ∧ T i ≤ 255) := hT
  clear hT
  go_enter Try.func11, Try.ntmps11
  go_wp2_with (at_make; refine wpList_make_full _ rfl _ _ 22 rfl w.heap.size 5 i0 (.int .u8 0) 1 Try.underlying22 hi hz0 hz1 _ _ _ _ n rfl rfl rfl rfl (by rw [hz2]; omega) (by unfold maxLen; omega) (Nat.le_refl _) ?_; intro w1 hown hgrow)
  have hob : OwnT w.heap.size n T 0 w1 := by obtain ⟨cur, h, hs⟩ := own_has hown; exact ⟨cur, h, by omega, fun i hi => absurd hi (by omega)⟩
  have hbel : Below w.heap.size w w1 := (Below.refl _ w).grown hgrow (Nat.le_refl _) (by intro k hk; cases hk)
  clear hown hgrow hi hz0 hz1 hz2 i0
  go_loopw [4] (fun i wr => ∃ k : Nat, k ≤ n ∧ i = .int .i64 k ∧ OwnT w.heap.size n T k wr ∧ Below w.heap.size w wr) (fun i _ => n - (intOf i).toNat)
  case atStart => exact ⟨0, Nat.zero_le _, rfl, hob, hbel⟩
  case round =>
    clear hob hbel
    obtain ⟨k, hk, rfl, hob, hbel⟩ := hrel
    by_cases hlt : k < n
    · rcases hX with hz | ⟨rfl, hb, hc⟩
      · omega
      have hcx : wr.cell? ⟨b, off + k, none⟩ = some (.int .u8 (T k)) := (hbel.cell (by exact hb)).trans (hc k hlt)
      have hfz : wr.frozen? ⟨w.heap.size, k, none⟩ = false := hob.free k
      obtain ⟨v, hv⟩ := hob.there hlt
      have R : OwnT w.heap.size n T (k + 1) (wr.setCell ⟨w.heap.size, k, none⟩ (.int .u8 (T k))) := hob.step hlt
      have R2 : Below w.heap.size w (wr.setCell ⟨w.heap.size, k, none⟩ (.int .u8 (T k))) := hbel.setCell (Nat.le_refl _) _
      clear hob hbel hc
      go_wp2
      go_roundw
      case rel => exact ⟨k + 1, by omega, by go_num, R, R2⟩
      case measure => simp [intOf]; omega
    · have hkn : k = n := by omega
      subst hkn
      have R := hob.row HT.out
      clear hob hX
      go_wp2
      go_ret
      exact ⟨_, rfl, (by simp), R, hbel⟩

theorem clone11 (a : Option Addr) (n c : Nat) (w : World) (T : Nat → Int) (r : RowT w a n T) (z : a = none → n = 0) (hn : n ≤ 1048576) :
    Calls Try.prog 11 #[.slice a n c] w (ClonePost n T w) := by
  cases a with
  | some X =>
    rcases r.2 with rfl | ⟨b, off, hX, hb, hc⟩
    · exact clone11X X 0 c w 0 0 T (.inl rfl) r.1 hn
    · exact clone11X X n c w b off T (.inr ⟨Option.some.inj hX, hb, hc⟩) r.1 hn
  | none =>
    obtain rfl : n = 0 := z rfl
    have q22 : ∀ (w : World) (a : Option Addr) (n c n' c' : Nat), (binOp .eql 22 (.slice a n c) (.slice none n' c')).run Try.prog w = .ok (.bool a.isNone) w := fun w a n c n' c' => Lib.run_eql_slice_nil w _ _ a n c n' c' Try.underlying22
    go_enter Try.func11, Try.ntmps11
    go_wp2
    go_ret
    exact ⟨none, rfl, fun _ => rfl, ⟨r.1, .inl rfl⟩, Below.refl _ _⟩

/-! ### breakSpelling, hasAt, modelBreak -/
/-- The six spellings. -/
def sp : Nat → List Int
  | 0 => [226, 128, 168]
  | 1 => [226, 128, 169]
  | 2 => [13, 10]
  | 3 => [194, 133]
  | 4 => [10]
  | 5 => [13]
  | _ => []
def spT (k i : Nat) : Int := (sp k).getD i 0
/-- What breakSpelling answers. -/
def SpellPost (k : Nat) (w : World) (e : Ending) (w' : World) : Prop :=
  ∃ g, e = .returned (.slice (some ⟨g, 0, none⟩) (sp k).length (sp k).length) ∧ RowT w' (some ⟨g, 0, none⟩) (sp k).length (spT k) ∧ Below w.heap.size w w'

theorem lit_row (w : World) (l : List Int) (hl : ∀ x ∈ l, 0 ≤ x ∧ x ≤ 255) : RowT (w.alloc (.cells (l.map (fun x => Value.int .u8 x)).toArray 5)) (some ⟨w.heap.size, 0, none⟩) l.length (fun i => l.getD i 0) := by
  refine ⟨fun i hi => ?_, .inr ⟨w.heap.size, 0, rfl, ?_, fun i hi => ?_⟩⟩
  · have : l.getD i 0 = l[i] := by simp [List.getD, hi]
    show 0 ≤ l.getD i 0 ∧ l.getD i 0 ≤ 255
    rw [this]
    exact hl _ (List.getElem_mem _)
  · exact (Has.new _ _ w).lt
  · rw [Nat.zero_add, (Has.new _ _ w).cell]
    simp [List.getD, hi]

theorem sp_ok (k : Nat) : ∀ x ∈ sp k, 0 ≤ x ∧ x ≤ 255 := by
  match k with
  | 0 | 1 | 2 | 3 | 4 | 5 => simp [sp]
  | k + 6 => simp [sp]

set_option maxHeartbeats 400000 in
theorem spell28 (k : Nat) (w : World) (hk : k < 6) : Calls Try.prog 28 #[.int .i64 (k : Int)] w (SpellPost k w) := by
  have R := lit_row w (sp k) (sp_ok k)
  have HB : Hid (Below w.heap.size w (w.alloc (.cells ((sp k).map (fun x => Value.int .u8 x)).toArray 5))) := (Below.refl _ _).alloc (Nat.le_refl _) _
  have HR : Hid (RowT (w.alloc (.cells ((sp k).map (fun x => Value.int .u8 x)).toArray 5)) (some ⟨w.heap.size, 0, none⟩) (sp k).length (fun i => (sp k).getD i 0)) := R
  clear R
  match k, hk with
  | 0, _ => go_enter Try.func28, Try.ntmps28; go_wp2; go_ret; exact ⟨_, rfl, HR.out, HB.out⟩
  | 1, _ => go_enter Try.func28, Try.ntmps28; go_wp2; go_ret; exact ⟨_, rfl, HR.out, HB.out⟩
  | 2, _ => go_enter Try.func28, Try.ntmps28; go_wp2; go_ret; exact ⟨_, rfl, HR.out, HB.out⟩
  | 3, _ => go_enter Try.func28, Try.ntmps28; go_wp2; go_ret; exact ⟨_, rfl, HR.out, HB.out⟩
  | 4, _ => go_enter Try.func28, Try.ntmps28; go_wp2; go_ret; exact ⟨_, rfl, HR.out, HB.out⟩
  | 5, _ => go_enter Try.func28, Try.ntmps28; go_wp2; go_ret; exact ⟨_, rfl, HR.out, HB.out⟩

/-- T holds P at i. -/
def At (T : Nat → Int) (n i : Nat) (P : Nat → Int) (m : Nat) : Prop := i + m ≤ n ∧ ∀ j, j < m → T (i + j) = P j
def AtPost (T : Nat → Int) (n i : Nat) (P : Nat → Int) (m : Nat) (w : World) (e : Ending) (w' : World) : Prop :=
  ∃ b, e = .returned (.bool b) ∧ (b = true ↔ At T n i P m) ∧ Below w.heap.size w w'

set_option maxRecDepth 100000 in
set_option maxHeartbeats 800000 in
theorem has29 (a : Option Addr) (n c i : Nat) (T : Nat → Int) (g m c2 : Nat) (P : Nat → Int) (w : World) (r1 : RowT w a n T) (r2 : RowT w (some ⟨g, 0, none⟩) m P) (hn : n ≤ 1048576) (hm : m ≤ 1048576) (hm0 : 0 < m) :
    Calls Try.prog 29 #[.slice a n c, .int .i64 (i : Int), .slice (some ⟨g, 0, none⟩) m c2] w (AtPost T n i P m w) := by
  by_cases h1 : n < i
  · have d1 : decide ((n : Int) < (i : Int)) = true := decide_eq_true (by omega)
    have d0 : decide ((i : Int) < 0) = false := decide_eq_false (by omega)
    clear r1 r2
    go_enter Try.func29, Try.ntmps29
    go_wp2
    go_ret
    exact ⟨false, rfl, by constructor; simp; intro h; have := h.1; omega, Below.refl _ _⟩
  have d1 : decide ((n : Int) < (i : Int)) = false := decide_eq_false (by omega)
  have d0 : decide ((i : Int) < 0) = false := decide_eq_false (by omega)
  by_cases h2 : n - i < m
  · have d2 : decide ((n : Int) - (i : Int) < (m : Int)) = true := decide_eq_true (by omega)
    clear r1 r2
    go_enter Try.func29, Try.ntmps29
    go_wp2
    go_ret
    exact ⟨false, rfl, by constructor; simp; intro h; have := h.1; omega, Below.refl _ _⟩
  have d2 : decide ((n : Int) - (i : Int) < (m : Int)) = false := decide_eq_false (by omega)
  have t1 := r1.1
  have t2 := r2.1
  rcases r1.2 with hz | ⟨b, off, rfl, hb, hc⟩
  · omega
  rcases r2.2 with hz | ⟨b', off', hX, hb', hc'⟩
  · omega
  simp only [Option.some.injEq, Addr.mk.injEq, and_true] at hX
  obtain ⟨rfl, rfl⟩ := hX
  have HC : Hid ((∀ i, i < n → w.cell? ⟨b, off + i, none⟩ = some (.int .u8 (T i))) ∧ (∀ i, i < n → 0 ≤ T i ∧ T i ≤ 255)) := ⟨hc, t1⟩
  have HC' : Hid ((∀ i, i < m → w.cell? ⟨g, 0 + i, none⟩ = some (.int .u8 (P i))) ∧ (∀ i, i < m → 0 ≤ P i ∧ P i ≤ 255)) := ⟨hc', t2⟩
  clear r1 r2 hc hc' t1 t2
  go_enter Try.func29, Try.ntmps29
  go_wp2
  go_loopw [7] (fun s wr => ∃ j : Nat, j ≤ m ∧ s = .int .i64 j ∧ (∀ x, x < j → T (i + x) = P x) ∧ Below w.heap.size w wr) (fun s _ => m - (intOf s).toNat)
  case atStart => exact ⟨0, Nat.zero_le _, rfl, fun x hx => absurd hx (by omega), Below.refl _ _⟩
  case round =>
    obtain ⟨j, hj, rfl, hx, hbel⟩ := hrel
    have HX : Hid (∀ x, x < j → T (i + x) = P x) := hx
    clear hx
    by_cases hlt : j < m
    · have q1 := (hbel.cell (p := ⟨b, off + (i + j), none⟩) hb).trans (HC.out.1 (i + j) (by omega))
      have q2 := (hbel.cell (p := ⟨g, 0 + j, none⟩) hb').trans (HC'.out.1 j hlt)
      rw [Nat.zero_add] at q2
      have t1 := HC.out.2 (i + j) (by omega)
      have t2 := HC'.out.2 j hlt
      have bk : (i : Int) + (j : Int) < (n : Int) := by omega
      have tn : ((i : Int) + (j : Int)).toNat = i + j := by omega
      have HB : Hid (Below w.heap.size w wr) := hbel
      clear hbel
      obtain ⟨x, hx⟩ : ∃ x, x = T (i + j) := ⟨_, rfl⟩
      obtain ⟨y, hy⟩ : ∃ y, y = P j := ⟨_, rfl⟩
      rw [← hx] at q1 t1
      rw [← hy] at q2 t2
      have Hx : Hid (x = T (i + j)) := hx
      have Hy : Hid (y = P j) := hy
      clear hx hy
      by_cases e : x = y
      · subst e
        have dx : (x != x) = false := by simp
        go_wp2_with (go_quiet (fail))
        go_roundw
        case rel =>
          refine ⟨j + 1, by omega, by go_num, fun z hz => ?_, HB.out.trans ⟨rfl, rfl, rfl, Nat.le_refl _, fun _ _ => rfl⟩⟩
          by_cases e : z = j
          · subst e; rw [← Hx.out]; exact Hy.out
          · exact HX.out z (by omega)
        case measure => simp [intOf]; omega
      · have dx : (x != y) = true := by simp [e]
        go_wp2_with (go_quiet (fail))
        go_ret
        refine ⟨false, rfl, ?_, HB.out.trans ⟨rfl, rfl, rfl, Nat.le_refl _, fun _ _ => rfl⟩⟩
        constructor
        · simp
        · intro h
          exact absurd (h.2 j hlt) (by rw [← Hx.out, ← Hy.out]; exact e)
    · obtain rfl : j = m := by omega
      have HB : Hid (Below w.heap.size w wr) := hbel
      clear hbel
      go_wp2
      go_ret
      exact ⟨true, rfl, ⟨fun _ => ⟨by omega, HX.out⟩, fun _ => rfl⟩, HB.out⟩
end Go.Proofs.Qxb6600099a
