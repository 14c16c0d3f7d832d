import Derived.Test.Qxb6600099aE
import Derived.Deep.DeepAppendRoom
import Derived.Deep.CutRange
namespace Go.Proofs.Qxb6600099a
open Go.RowKit

/-- Block g: a row of bytes that is being filled, xs of them laid. -/
def OwnL (g cap n : Nat) (xs : List Int) (w : World) : Prop :=
  xs.length = n ∧ w.ownsRow g 5 1 (.slice (some ⟨g, 0, none⟩) n cap) n (xs.map fun x => Value.int .u8 x)
theorem OwnL.cells {g cap n : Nat} {xs : List Int} {w : World} (h : OwnL g cap n xs w) : ∃ cur : Array Value, Has g cur 5 w ∧ n ≤ cap ∧ cap ≤ maxLen ∧ cur.size = cap ∧ cur.toList.take n = xs.map fun x => Value.int .u8 x := by
  rcases h.2.2 with ⟨h', _⟩ | ⟨g', cap', cur, h', _, hg, h1, h2, hs, ht⟩
  · simp at h'
  · simp only [Value.slice.injEq, Option.some.injEq, Addr.mk.injEq, and_true, true_and] at h'
    obtain ⟨rfl, rfl⟩ := h'
    exact ⟨cur, hg, h1, h2, by omega, by rw [Nat.mul_one] at ht; exact ht⟩
theorem OwnL.lt {g cap n : Nat} {xs : List Int} {w : World} (h : OwnL g cap n xs w) : g < w.heap.size := by
  obtain ⟨cur, hg, _⟩ := h.cells
  exact hg.lt
theorem OwnL.below {g cap n : Nat} {xs : List Int} {w w' : World} {B : Nat} (h : OwnL g cap n xs w) (hb : Below B w w') (hg : g < B) : OwnL g cap n xs w' := by
  obtain ⟨cur, h0, h1, h2, h3, h4⟩ := h.cells
  refine ⟨h.1, h.2.1, .inr ⟨g, cap, cur, rfl, Nat.le_refl _, h0.below hb hg, h1, h2, by omega, by rw [Nat.mul_one]; exact h4⟩⟩
theorem OwnL.row {g cap n : Nat} {xs : List Int} {w : World} (h : OwnL g cap n xs w) (hx : ∀ x ∈ xs, 0 ≤ x ∧ x ≤ 255) : RowT w (some ⟨g, 0, none⟩) n (fun i => xs.getD i 0) := by
  obtain ⟨cur, h0, h1, h2, h3, h4⟩ := h.cells
  have hl := h.1
  refine ⟨fun i hi => ?_, .inr ⟨g, 0, rfl, h0.lt, fun i hi => ?_⟩⟩
  · have : xs.getD i 0 = xs[i] := by simp [List.getD, hl, hi]
    show 0 ≤ xs.getD i 0 ∧ xs.getD i 0 ≤ 255
    rw [this]
    exact hx _ (List.getElem_mem _)
  · rw [Nat.zero_add, h0.cell]
    have : (cur.toList.take n)[i]? = (xs.map fun x => Value.int .u8 x)[i]? := by rw [h4]
    rw [List.getElem?_take_of_lt hi, Array.getElem?_toList] at this
    rw [this]
    simp [List.getD, hl, hi]

theorem zz15_yes (a : Option Addr) (n c : Nat) (w : World) (h : n ≤ 1048576) :
    Calls Try.prog 15 #[.slice a n c] w fun e w' => e = .returned (.bool true) ∧ w = w' := by
  go_enter Try.func15, Try.ntmps15
  go_wp2
  go_ret
  exact ⟨rfl, rfl⟩
theorem zz15_no (a : Option Addr) (n c : Nat) (w : World) (h : ¬ n ≤ 1048576) :
    Calls Try.prog 15 #[.slice a n c] w fun e w' => e = .returned (.bool false) ∧ w = w' := by
  go_enter Try.func15, Try.ntmps15
  go_wp2
  go_ret
  exact ⟨rfl, rfl⟩

/-- What singleBreak answers: a row of its own. -/
def SpellNew (k : Nat) (w : World) (e : Ending) (w' : World) : Prop :=
  ∃ g, e = .returned (.slice (some ⟨g, 0, none⟩) (sp k).length (sp k).length) ∧ RowT w' (some ⟨g, 0, none⟩) (sp k).length (spT k) ∧ Below w.heap.size w w' ∧ w.heap.size ≤ g
set_option maxHeartbeats 400000 in
theorem spell28n (k : Nat) (w : World) (hk : k < 6) : Calls Try.prog 28 #[.int .i64 (k : Int)] w (SpellNew k w) := by
  have R := lit_row w (sp k) (sp_ok k)
  have HB : Hid (Below w.heap.size w (w.alloc (.cells ((sp k).map (fun x => Value.int .u8 x)).toArray 5))) := (Below.refl _ _).alloc (Nat.le_refl _) _
  have HR : Hid (RowT (w.alloc (.cells ((sp k).map (fun x => Value.int .u8 x)).toArray 5)) (some ⟨w.heap.size, 0, none⟩) (sp k).length (fun i => (sp k).getD i 0)) := R
  clear R
  match k, hk with
  | 0, _ => go_enter Try.func28, Try.ntmps28; go_wp2; go_ret; exact ⟨_, rfl, HR.out, HB.out, Nat.le_refl _⟩
  | 1, _ => go_enter Try.func28, Try.ntmps28; go_wp2; go_ret; exact ⟨_, rfl, HR.out, HB.out, Nat.le_refl _⟩
  | 2, _ => go_enter Try.func28, Try.ntmps28; go_wp2; go_ret; exact ⟨_, rfl, HR.out, HB.out, Nat.le_refl _⟩
  | 3, _ => go_enter Try.func28, Try.ntmps28; go_wp2; go_ret; exact ⟨_, rfl, HR.out, HB.out, Nat.le_refl _⟩
  | 4, _ => go_enter Try.func28, Try.ntmps28; go_wp2; go_ret; exact ⟨_, rfl, HR.out, HB.out, Nat.le_refl _⟩
  | 5, _ => go_enter Try.func28, Try.ntmps28; go_wp2; go_ret; exact ⟨_, rfl, HR.out, HB.out, Nat.le_refl _⟩

set_option maxRecDepth 100000 in
set_option maxHeartbeats 400000 in
theorem single16 (c : Int) (w : World) (hc : 0 ≤ c ∧ c ≤ 255) : Calls Try.prog 16 #[.int .u8 c] w (SpellNew (ix c) w) := by
  have hr : 0 ≤ c % 5 ∧ c % 5 < 5 := ⟨Int.emod_nonneg _ (by omega), Int.emod_lt_of_pos _ (by omega)⟩
  by_cases c0 : c % 5 = 0
  · have e : ix c = 4 := by unfold ix; rw [if_pos c0]
    rw [e]
    go_enter Try.func16, Try.ntmps16
    go_wp2_with fail
    refine (spell28n 4 w (by omega)).mono ?_
    rintro e w' ⟨g, rfl, h1, h2, h3⟩
    have H : Hid _ := And.intro h1 (And.intro h2 h3)
    clear h1 h2 h3
    go_wp2
    go_ret
    exact ⟨g, rfl, H.out.1, H.out.2⟩
  by_cases c1 : c % 5 = 1
  · have e : ix c = 5 := by unfold ix; rw [if_neg c0, if_pos c1]
    rw [e]
    go_enter Try.func16, Try.ntmps16
    go_wp2_with fail
    refine (spell28n 5 w (by omega)).mono ?_
    rintro e w' ⟨g, rfl, h1, h2, h3⟩
    have H : Hid _ := And.intro h1 (And.intro h2 h3)
    clear h1 h2 h3
    go_wp2
    go_ret
    exact ⟨g, rfl, H.out.1, H.out.2⟩
  by_cases c2 : c % 5 = 2
  · have e : ix c = 3 := by unfold ix; rw [if_neg c0, if_neg c1, if_pos c2]
    rw [e]
    go_enter Try.func16, Try.ntmps16
    go_wp2_with fail
    refine (spell28n 3 w (by omega)).mono ?_
    rintro e w' ⟨g, rfl, h1, h2, h3⟩
    have H : Hid _ := And.intro h1 (And.intro h2 h3)
    clear h1 h2 h3
    go_wp2
    go_ret
    exact ⟨g, rfl, H.out.1, H.out.2⟩
  by_cases c3 : c % 5 = 3
  · have e : ix c = 0 := by unfold ix; rw [if_neg c0, if_neg c1, if_neg c2, if_pos c3]
    rw [e]
    go_enter Try.func16, Try.ntmps16
    go_wp2_with fail
    refine (spell28n 0 w (by omega)).mono ?_
    rintro e w' ⟨g, rfl, h1, h2, h3⟩
    have H : Hid _ := And.intro h1 (And.intro h2 h3)
    clear h1 h2 h3
    go_wp2
    go_ret
    exact ⟨g, rfl, H.out.1, H.out.2⟩
  · have e : ix c = 1 := by unfold ix; rw [if_neg c0, if_neg c1, if_neg c2, if_neg c3]
    rw [e]
    go_enter Try.func16, Try.ntmps16
    go_wp2_with fail
    refine (spell28n 1 w (by omega)).mono ?_
    rintro e w' ⟨g, rfl, h1, h2, h3⟩
    have H : Hid _ := And.intro h1 (And.intro h2 h3)
    clear h1 h2 h3
    go_wp2
    go_ret
    exact ⟨g, rfl, H.out.1, H.out.2⟩
end Go.Proofs.Qxb6600099a
