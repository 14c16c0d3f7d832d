import Derived.Test.Qxb6600099aB
namespace Go.Proofs.Qxb6600099a
open Go.RowKit

/-! ### The plain law: lb is the length of the first spelling that stands there -/
theorem at0 {T : Nat → Int} {n i : Nat} : At T n i (spT 0) 3 ↔ i + 3 ≤ n ∧ T i = 226 ∧ T (i + 1) = 128 ∧ T (i + 2) = 168 := by
  constructor
  · rintro ⟨h, hj⟩; exact ⟨h, hj 0 (by omega), hj 1 (by omega), hj 2 (by omega)⟩
  · rintro ⟨h, h0, h1, h2⟩; refine ⟨h, fun j hj => ?_⟩; match j, hj with | 0, _ => exact h0 | 1, _ => exact h1 | 2, _ => exact h2
theorem at1 {T : Nat → Int} {n i : Nat} : At T n i (spT 1) 3 ↔ i + 3 ≤ n ∧ T i = 226 ∧ T (i + 1) = 128 ∧ T (i + 2) = 169 := by
  constructor
  · rintro ⟨h, hj⟩; exact ⟨h, hj 0 (by omega), hj 1 (by omega), hj 2 (by omega)⟩
  · rintro ⟨h, h0, h1, h2⟩; refine ⟨h, fun j hj => ?_⟩; match j, hj with | 0, _ => exact h0 | 1, _ => exact h1 | 2, _ => exact h2
theorem at2 {T : Nat → Int} {n i : Nat} : At T n i (spT 2) 2 ↔ i + 2 ≤ n ∧ T i = 13 ∧ T (i + 1) = 10 := by
  constructor
  · rintro ⟨h, hj⟩; exact ⟨h, hj 0 (by omega), hj 1 (by omega)⟩
  · rintro ⟨h, h0, h1⟩; refine ⟨h, fun j hj => ?_⟩; match j, hj with | 0, _ => exact h0 | 1, _ => exact h1
theorem at3 {T : Nat → Int} {n i : Nat} : At T n i (spT 3) 2 ↔ i + 2 ≤ n ∧ T i = 194 ∧ T (i + 1) = 133 := by
  constructor
  · rintro ⟨h, hj⟩; exact ⟨h, hj 0 (by omega), hj 1 (by omega)⟩
  · rintro ⟨h, h0, h1⟩; refine ⟨h, fun j hj => ?_⟩; match j, hj with | 0, _ => exact h0 | 1, _ => exact h1
theorem at4 {T : Nat → Int} {n i : Nat} : At T n i (spT 4) 1 ↔ i + 1 ≤ n ∧ T i = 10 := by
  constructor
  · rintro ⟨h, hj⟩; exact ⟨h, hj 0 (by omega)⟩
  · rintro ⟨h, h0⟩; refine ⟨h, fun j hj => ?_⟩; match j, hj with | 0, _ => exact h0
theorem at5 {T : Nat → Int} {n i : Nat} : At T n i (spT 5) 1 ↔ i + 1 ≤ n ∧ T i = 13 := by
  constructor
  · rintro ⟨h, hj⟩; exact ⟨h, hj 0 (by omega)⟩
  · rintro ⟨h, h0⟩; refine ⟨h, fun j hj => ?_⟩; match j, hj with | 0, _ => exact h0

def AtK (T : Nat → Int) (n i k : Nat) : Prop := At T n i (spT k) (sp k).length

theorem lb_hit {T : Nat → Int} {n i k : Nat} (hk : k < 6) (h : AtK T n i k) (hno : ∀ j, j < k → ¬ AtK T n i j) : lb T n i = ((sp k).length : Int) := by
  match k, hk with
  | 0, _ =>
    obtain ⟨h0, h1, h2, h3⟩ := at0.1 h
    unfold lb
    rw [if_neg (by omega), if_neg (by omega), if_neg (by omega), if_neg (by omega), if_pos h1, if_pos ⟨by omega, h2, .inl h3⟩]; rfl
  | 1, _ =>
    obtain ⟨h0, h1, h2, h3⟩ := at1.1 h
    unfold lb
    rw [if_neg (by omega), if_neg (by omega), if_neg (by omega), if_neg (by omega), if_pos h1, if_pos ⟨by omega, h2, .inr h3⟩]; rfl
  | 2, _ =>
    obtain ⟨h0, h1, h2⟩ := at2.1 h
    unfold lb
    rw [if_neg (by omega), if_neg (by omega), if_pos h1, if_pos ⟨by omega, h2⟩]; rfl
  | 3, _ =>
    obtain ⟨h0, h1, h2⟩ := at3.1 h
    unfold lb
    rw [if_neg (by omega), if_neg (by omega), if_neg (by omega), if_pos h1, if_pos ⟨by omega, h2⟩]; rfl
  | 4, _ =>
    obtain ⟨h0, h1⟩ := at4.1 h
    unfold lb
    rw [if_neg (by omega), if_pos h1]; rfl
  | 5, _ =>
    obtain ⟨h0, h1⟩ := at5.1 h
    have := mt at2.2 (hno 2 (by omega))
    unfold lb
    rw [if_neg (by omega), if_neg (by omega), if_pos h1, if_neg (fun e => this ⟨by omega, h1, e.2⟩)]; rfl
theorem lb_miss {T : Nat → Int} {n i : Nat} (hno : ∀ j, j < 6 → ¬ AtK T n i j) : lb T n i = 0 := by
  have n0 := mt at0.2 (hno 0 (by omega))
  have n1 := mt at1.2 (hno 1 (by omega))
  have n3 := mt at3.2 (hno 3 (by omega))
  have n4 := mt at4.2 (hno 4 (by omega))
  have n5 := mt at5.2 (hno 5 (by omega))
  unfold lb
  by_cases h : n ≤ i
  · rw [if_pos h]
  · rw [if_neg h, if_neg (fun e => n4 ⟨by omega, e⟩), if_neg (fun e => n5 ⟨by omega, e⟩)]
    by_cases h1 : T i = 194
    · rw [if_pos h1, if_neg (fun e => n3 ⟨by omega, h1, e.2⟩)]
    · rw [if_neg h1]
      by_cases h2 : T i = 226
      · rw [if_pos h2, if_neg]
        rintro ⟨e1, e2, e3 | e3⟩
        · exact n0 ⟨by omega, h2, e2, e3⟩
        · exact n1 ⟨by omega, h2, e2, e3⟩
      · rw [if_neg h2]
theorem sp_len {k : Nat} (hk : k < 6) : 0 < (sp k).length ∧ (sp k).length ≤ 3 := by
  match k, hk with
  | 0, _ | 1, _ | 2, _ | 3, _ | 4, _ | 5, _ => simp [sp]

/-- What both answer: a number, and nothing that was there is written. -/
def NumPost (v : Int) (w : World) (e : Ending) (w' : World) : Prop := e = .returned (.int .i64 v) ∧ Below w.heap.size w w'

set_option maxRecDepth 100000 in
set_option maxHeartbeats 400000 in
theorem model13 (a : Option Addr) (n c i : Nat) (T : Nat → Int) (w : World) (r : RowT w a n T) (hn : n ≤ 1048576) :
    Calls Try.prog 13 #[.slice a n c, .int .i64 (i : Int)] w (NumPost (lb T n i) w) := by
  go_enter Try.func13, Try.ntmps13
  go_wp2
  go_loopw [5] (fun s wr => ∃ k : Nat, k ≤ 6 ∧ s = .int .i64 k ∧ (∀ j, j < k → ¬ AtK T n i j) ∧ Below w.heap.size w wr) (fun s _ => 6 - (intOf s).toNat)
  case atStart => exact ⟨0, Nat.zero_le _, rfl, fun j hj => absurd hj (by omega), Below.refl _ _⟩
  case round =>
    obtain ⟨k, hk, rfl, hno, hbel⟩ := hrel
    have HN : Hid (∀ j, j < k → ¬ AtK T n i j) := hno
    have HB : Hid (Below w.heap.size w wr) := hbel
    have rr := r.below hbel
    clear hno hbel
    by_cases hlt : k < 6
    · have hl := sp_len hlt
      go_wp2_with fail
      refine (spell28 k wr hlt).mono ?_
      rintro e w1 ⟨g, rfl, hr1, hw1⟩
      go_wp2_with fail
      refine (has29 a n c i T g (sp k).length (sp k).length (spT k) w1 (rr.below hw1) hr1 hn (by omega) (by omega)).mono ?_
      rintro e w2 ⟨b, rfl, hb, hw2⟩
      have HB2 : Hid (Below w.heap.size w w2) := (HB.out.trans (hw1.mono HB.out.size)).trans (hw2.mono (Nat.le_trans HB.out.size hw1.size))
      have HK : Hid (b = true ↔ AtK T n i k) := hb
      clear hb hw1 hw2 hr1 rr
      obtain ⟨m, hm⟩ : ∃ m, m = (sp k).length := ⟨_, rfl⟩
      rw [← hm]
      rw [← hm] at hl
      have HM : Hid (m = (sp k).length) := hm
      clear hm
      cases b with
      | true =>
        have HH : Hid (lb T n i = (m : Int)) := by show lb T n i = (m : Int); rw [lb_hit hlt (HK.out.1 rfl) HN.out, HM.out]
        clear HK
        go_wp2
        go_ret
        exact ⟨by rw [HH.out]; rfl, HB2.out⟩
      | false =>
        have HH : Hid (¬ AtK T n i k) := fun h => absurd (HK.out.2 h) (by simp)
        clear HK
        go_wp2
        go_roundw
        case rel =>
          refine ⟨k + 1, by omega, by go_num, fun j hj => ?_, HB2.out⟩
          by_cases e : j = k
          · subst e; exact HH.out
          · exact HN.out j (by omega)
        case measure => simp [intOf]; omega
    · obtain rfl : k = 6 := by omega
      clear rr
      go_wp2
      go_ret
      exact ⟨by rw [lb_miss HN.out]; rfl, HB.out⟩

/-- lineBreak, wherever i lies. -/
theorem line27 (p i : Nat) (a : Option Addr) (n c : Nat) (T : Nat → Int) (w : World) (hp : w.cell? ⟨p, 0, none⟩ = some (.slice a n c)) (r : RowT w a n T) (hnc : n ≤ c) (hn : n ≤ 1048576) :
    Calls Try.prog 27 #[.pointer (some ⟨p, 0, none⟩), .int .i64 (i : Int)] w (NumPost (lb T n i) w) := by
  by_cases h : i < n
  · rcases r.2 with hz | ⟨b, off, rfl, hb, hc⟩
    · omega
    exact line27_in p i b off n c T w hp h hnc hn r.1 hc
  · refine (line27_end p i a n c w hp (by omega)).mono ?_
    rintro e w' ⟨rfl, rfl⟩
    refine ⟨?_, Below.refl _ _⟩
    unfold lb
    rw [if_pos (by omega)]

set_option maxRecDepth 100000 in
set_option maxHeartbeats 400000 in
theorem line12 (a : Option Addr) (n c i : Nat) (T : Nat → Int) (w : World) (r : RowT w a n T) (hnc : n ≤ c) (hn : n ≤ 1048576) :
    Calls Try.prog 12 #[.slice a n c, .int .i64 (i : Int)] w (NumPost (lb T n i) w) := by
  go_enter Try.func12, Try.ntmps12
  go_wp2_with fail
  refine (line27 w.heap.size i a n c T _ (by rw [(Has.new _ _ w).cell]; rfl) (r.alloc _) hnc hn).mono ?_
  rintro e w' ⟨rfl, hw⟩
  have HB : Hid (Below w.heap.size w w') := ((Below.refl _ _).alloc (Nat.le_refl _) _).trans (hw.mono (by simp))
  clear hw
  generalize lb T n i = v at *
  go_wp2
  go_ret
  exact ⟨rfl, HB.out⟩

set_option maxRecDepth 100000 in
set_option maxHeartbeats 400000 in
theorem law3 (a : Option Addr) (n c : Nat) (i : Int) (T : Nat → Int) (w : World) (r : RowT w a n T) (z : a = none → n = 0) :
    Calls Try.prog 3 #[.slice a n c, .int .i64 i] w fun e w' => e = .returned (.bool true) ∧ Below w.heap.size w w' := by
  by_cases hn : n ≤ 1048576
  · by_cases hi : i < 0
    · go_enter Try.func3, Try.ntmps3
      go_wp2_with fail
      refine (zz10_yes a n c i w hn).mono ?_
      rintro e w' ⟨rfl, rfl⟩
      have d : decide (i < 0) = true := decide_eq_true hi
      go_wp2
      go_ret
      exact ⟨rfl, Below.refl _ _⟩
    · obtain ⟨k, rfl⟩ := Int.eq_ofNat_of_zero_le (a := i) (by omega)
      go_enter Try.func3, Try.ntmps3
      go_wp2_with fail
      refine (zz10_yes a n c k w hn).mono ?_
      rintro e w' ⟨rfl, rfl⟩
      go_wp2_with fail
      refine (clone11 a n c w T r z hn).mono ?_
      rintro e w1 ⟨a', rfl, z', r', hw1⟩
      clear r
      go_wp2_with fail
      refine (line12 a' n n k T w1 r' (Nat.le_refl _) hn).mono ?_
      rintro e w2 ⟨rfl, hw2⟩
      have r'' := r'.below hw2
      have HB : Hid (Below w.heap.size w w2) := hw1.trans (hw2.mono hw1.size)
      clear r' hw1 hw2
      go_wp2_with fail
      refine (model13 a' n n k T w2 r'' hn).mono ?_
      rintro e w3 ⟨rfl, hw3⟩
      have HB3 : Hid (Below w.heap.size w w3) := HB.out.trans (hw3.mono HB.out.size)
      clear r'' hw3 HB
      generalize lb T n k = v at *
      go_wp2
      go_ret
      exact ⟨by simp, HB3.out⟩
  · go_enter Try.func3, Try.ntmps3
    go_wp2_with fail
    refine (zz10_no a n c i w hn).mono ?_
    rintro e w' ⟨rfl, rfl⟩
    go_wp2
    go_ret
    exact ⟨rfl, Below.refl _ _⟩
end Go.Proofs.Qxb6600099a
