import Derived.Test.Qxb6600099aM
namespace Go.Proofs.Qxb6600099a
open Go.RowKit

set_option maxRecDepth 100000 in
set_option maxHeartbeats 1600000 in
theorem law8_main (a : Option Addr) (n c at' line column ind : Nat) (T : Nat → Int) (w : World) (r : RowT w a n T) (z : a = none → n = 0) (hn : n ≤ 1048576) (ha : at' ≤ n) (hl : line ≤ 1073741824) (hc : column ≤ 1073741824) (hi : 1 ≤ ind ∧ ind ≤ 1073741824) :
    Calls Try.prog 8 #[.slice a n c, .int .i64 (at' : Int), .int .i64 (line : Int), .int .i64 (column : Int), .int .i64 (ind : Int)] w fun e w' => e = .returned (.bool true) ∧ Below w.heap.size w w' := by
  go_enter Try.func8, Try.ntmps8
  go_wp2_with fail
  refine (zz22_yes a n c at' line column ind w hn).mono ?_
  rintro e w' ⟨rfl, rfl⟩
  go_wp2_with fail
  refine (clone11 a n c w T r z hn).mono ?_
  rintro e w1 ⟨a', rfl, z', r', hw1⟩
  have HW1 : Hid (Below w.heap.size w w1) := hw1
  clear r z hw1
  go_wp2_with fail
  refine (zz18 a' n n T at' line column (-1) ind w1 r' (Nat.le_refl _) hn ha hl hc (by omega) (by omega)).mono ?_
  rintro e w2 ⟨s, st, k, rfl, hs, hw2, hA⟩
  have i1 := hs.1.le
  have i2 := hs.1.ge
  have i3 := hs.1.col
  have i4 := hs.1.b
  have hlim := end_lim hs.1 (by omega)
  have HS : Hid (St T n at' column ind s) := hs
  have HW2 : Hid (Below w.heap.size w w2) := HW1.out.trans (hw2.mono HW1.out.size)
  have HR2 : Hid (RowT w2 a' n T) := r'.below hw2
  have hk : k = ind := by
    cases st with
    | true => exact (hA.1 rfl).2.2.2
    | false => have := (hA.2 rfl).2.2; rwa [if_neg (by omega)] at this
  subst hk
  have HA : Hid (Ans T n ind (-1) s st ind) := hA
  clear hs hw2 r' HW1 hA
  rw [Int.natCast_add]
  go_wp2_with fail
  refine (walk19 a' n n T at' column ind s w2 HR2.out HS.out hn hc).mono ?_
  rintro e w3 ⟨rfl, hw3⟩
  have HW3 : Hid (Below w.heap.size w w3) := HW2.out.trans (hw3.mono HW2.out.size)
  have HR3 : Hid (RowT w3 a' n T) := HR2.out.below hw3
  clear hw3 HR2 HW2 HS
  generalize s.first = F at *
  generalize s.later = L at *
  go_wp2_with fail
  refine (imax20 ind column w3).mono ?_
  rintro e wx ⟨rfl, rfl⟩
  obtain ⟨M, hM, hM2⟩ : ∃ M : Int, M = max (ind : Int) (column : Int) ∧ (F : Int) ≤ M := ⟨_, rfl, by omega⟩
  rw [← hM]
  clear hM
  cases st with
  | true =>
    obtain ⟨hcol, hp, ht, -⟩ := HA.out.1 rfl
    have hcol' : s.col < ind := hcol.resolve_left (by omega)
    rcases HR3.out.2 with hz | ⟨b, off, rfl, hb, hcc⟩
    · omega
    have hcx := hcc s.p hp
    rw [ht] at hcx
    clear HA hcc ht hcol HR3
    by_cases eb : 0 < s.b
    · go_wp2
      go_ret
      exact ⟨rfl, HW3.out⟩
    · go_wp2
      go_ret
      exact ⟨rfl, HW3.out⟩
  | false =>
    obtain ⟨hlb, hpk, -⟩ := HA.out.2 rfl
    have HL : Hid (lb T n s.p = 0) := hlb
    have HP : Hid ((ind = 0 ∨ s.col < ind) → pk T n s.p ≠ 32 ∧ pk T n s.p ≠ 9) := hpk
    clear HA hlb hpk
    by_cases hp : s.p < n
    · rcases HR3.out.2 with hz | ⟨b, off, rfl, hb, hcc⟩
      · omega
      have hcx := hcc s.p hp
      have hxx := HR3.out.1 s.p hp
      have HC : Hid (w3.cell? ⟨b, off + s.p, none⟩ = some (.int .u8 (T s.p))) := hcx
      clear hcx hcc
      by_cases eb : 0 < s.b
      · go_wp2_with fail
        refine (model13 (some ⟨b, off, none⟩) n n s.p T w3 HR3.out hn).mono ?_
        rintro e w4 ⟨rfl, hw4⟩
        rw [HL.out]
        have hcy := (hw4.cell (p := ⟨b, off + s.p, none⟩) (by exact hb)).trans HC.out
        have HW4 : Hid (Below w.heap.size w w4) := HW3.out.trans (hw4.mono HW3.out.size)
        clear hw4 HR3 HW3 HC
        by_cases hcol : s.col < ind
        · have hq := HP.out (.inr hcol)
          rw [show pk T n s.p = T s.p from if_pos hp] at hq
          obtain ⟨x, hx⟩ : ∃ x, x = T s.p := ⟨_, rfl⟩
          rw [← hx] at hcy hq hxx
          clear hx HP HL
          have h32 : (x == 32) = false := by simp [hq.1]
          have h9 : (x == 9) = false := by simp [hq.2]
          go_wp2
          go_ret
          exact ⟨rfl, HW4.out⟩
        · clear HP hcy hxx
          go_wp2
          go_ret
          exact ⟨rfl, HW4.out⟩
      · go_wp2_with fail
        refine (model13 (some ⟨b, off, none⟩) n n s.p T w3 HR3.out hn).mono ?_
        rintro e w4 ⟨rfl, hw4⟩
        rw [HL.out]
        have hcy := (hw4.cell (p := ⟨b, off + s.p, none⟩) (by exact hb)).trans HC.out
        have HW4 : Hid (Below w.heap.size w w4) := HW3.out.trans (hw4.mono HW3.out.size)
        clear hw4 HR3 HW3 HC
        by_cases hcol : s.col < ind
        · have hq := HP.out (.inr hcol)
          rw [show pk T n s.p = T s.p from if_pos hp] at hq
          obtain ⟨x, hx⟩ : ∃ x, x = T s.p := ⟨_, rfl⟩
          rw [← hx] at hcy hq hxx
          clear hx HP HL
          have h32 : (x == 32) = false := by simp [hq.1]
          have h9 : (x == 9) = false := by simp [hq.2]
          go_wp2
          go_ret
          exact ⟨rfl, HW4.out⟩
        · clear HP hcy hxx
          go_wp2
          go_ret
          exact ⟨rfl, HW4.out⟩
    · clear HR3 HP
      by_cases eb : 0 < s.b
      · go_wp2
        go_ret
        exact ⟨rfl, HW3.out⟩
      · go_wp2
        go_ret
        exact ⟨rfl, HW3.out⟩

set_option maxRecDepth 100000 in
set_option maxHeartbeats 800000 in
theorem law8 (a : Option Addr) (n c : Nat) (i j k l : Int) (T : Nat → Int) (w : World) (r : RowT w a n T) (z : a = none → n = 0) :
    Calls Try.prog 8 #[.slice a n c, .int .i64 i, .int .i64 j, .int .i64 k, .int .i64 l] w fun e w' => e = .returned (.bool true) ∧ Below w.heap.size w w' := by
  by_cases hn : n ≤ 1048576
  case neg =>
    go_enter Try.func8, Try.ntmps8
    go_wp2_with fail
    refine (zz22_no a n c i j k l w hn).mono ?_
    rintro e w' ⟨rfl, rfl⟩
    go_wp2
    go_ret
    exact ⟨rfl, Below.refl _ _⟩
  by_cases hi : i < 0 ∨ (n : Int) < i
  case pos =>
    clear r z
    go_enter Try.func8, Try.ntmps8
    go_wp2_with fail
    refine (zz22_yes a n c i j k l w hn).mono ?_
    rintro e w' ⟨rfl, rfl⟩
    go_wp2
    all_goals
      go_ret
      exact ⟨rfl, Below.refl _ _⟩
  by_cases hj : ((j < 0 ∨ 1073741824 < j) ∨ k < 0) ∨ 1073741824 < k
  case pos =>
    clear r z
    go_enter Try.func8, Try.ntmps8
    go_wp2_with fail
    refine (zz22_yes a n c i j k l w hn).mono ?_
    rintro e w' ⟨rfl, rfl⟩
    go_wp2
    all_goals
      go_ret
      exact ⟨rfl, Below.refl _ _⟩
  by_cases hl : l < 1 ∨ 1073741824 < l
  case pos =>
    clear r z
    go_enter Try.func8, Try.ntmps8
    go_wp2_with fail
    refine (zz22_yes a n c i j k l w hn).mono ?_
    rintro e w' ⟨rfl, rfl⟩
    go_wp2
    all_goals
      go_ret
      exact ⟨rfl, Below.refl _ _⟩
  obtain ⟨i', rfl⟩ := Int.eq_ofNat_of_zero_le (a := i) (by omega)
  obtain ⟨j', rfl⟩ := Int.eq_ofNat_of_zero_le (a := j) (by omega)
  obtain ⟨k', rfl⟩ := Int.eq_ofNat_of_zero_le (a := k) (by omega)
  obtain ⟨l', rfl⟩ := Int.eq_ofNat_of_zero_le (a := l) (by omega)
  exact law8_main a n c i' j' k' l' T w r z hn (by omega) (by omega) (by omega) (by omega)
end Go.Proofs.Qxb6600099a
