import Derived.Test.Qxb6600099aM
namespace Go.Proofs.Qxb6600099a
open Go.RowKit

theorem lb_none {T : Nat → Int} {n p : Nat} (h : T p = 9) : lb T n p = 0 := by
  have h1 := lb_le (T := T) (n := n) (i := p)
  by_cases e : 0 < lb T n p
  · exact absurd h (lb_in e).2.2
  · omega

set_option maxRecDepth 100000 in
set_option maxHeartbeats 1600000 in
theorem law6_main (a : Option Addr) (n c at' line column : Nat) (bi : Int) (T : Nat → Int) (w : World) (r : RowT w a n T) (z : a = none → n = 0) (hn : n ≤ 1048576) (ha : at' ≤ n) (hl : line ≤ 1073741824) (hc : column ≤ 1073741824) (hbi : -1 ≤ bi ∧ bi ≤ 1073741824) :
    Calls Try.prog 6 #[.slice a n c, .int .i64 (at' : Int), .int .i64 (line : Int), .int .i64 (column : Int), .int .i64 bi] w fun e w' => e = .returned (.bool true) ∧ Below w.heap.size w w' := by
  go_enter Try.func6, Try.ntmps6
  go_wp2_with fail
  refine (zz17_yes a n c at' line column bi w hn).mono ?_
  rintro e w' ⟨rfl, rfl⟩
  go_wp2_with fail
  refine (clone11 a n c w T r z hn).mono ?_
  rintro e w1 ⟨a', rfl, z', r', hw1⟩
  have HW1 : Hid (Below w.heap.size w w1) := hw1
  clear r z hw1
  go_wp2_with fail
  refine (zz18 a' n n T at' line column bi 0 w1 r' (Nat.le_refl _) hn ha hl hc hbi (by omega)).mono ?_
  rintro e w2 ⟨s, st, k, rfl, hs, hw2, hA⟩
  have i1 := hs.1.le
  have i2 := hs.1.ge
  have i3 := hs.1.col
  have i4 := hs.1.b
  have HS : Hid (St T n at' column 0 s) := hs
  have HW2 : Hid (Below w.heap.size w w2) := HW1.out.trans (hw2.mono HW1.out.size)
  have HR2 : Hid (RowT w2 a' n T) := r'.below hw2
  have HA : Hid (Ans T n 0 bi s st k) := hA
  clear hs hw2 r' HW1 hA
  rw [Int.natCast_add]
  go_wp2_with fail
  refine (walk19 a' n n T at' column 0 s w2 HR2.out HS.out hn hc).mono ?_
  rintro e w3 ⟨rfl, hw3⟩
  have HW3 : Hid (Below w.heap.size w w3) := HW2.out.trans (hw3.mono HW2.out.size)
  have HR3 : Hid (RowT w3 a' n T) := HR2.out.below hw3
  have HD : Hid (max s.first s.later = max (max s.f s.l) s.col) := end_deep HS.out.1
  clear hw3 HR2 HW2
  cases st with
  | true =>
    obtain ⟨_, hp, ht, rfl⟩ := HA.out.1 rfl
    rcases HR3.out.2 with hz | ⟨b, off, rfl, hb, hcc⟩
    · omega
    have hcx := hcc s.p hp
    rw [ht] at hcx
    have HL : Hid (lb T n s.p = 0) := lb_none ht
    clear HA hcc ht
    go_wp2_with fail
    refine (model13 (some ⟨b, off, none⟩) n n s.p T w3 HR3.out hn).mono ?_
    rintro e w4 ⟨rfl, hw4⟩
    rw [HL.out]
    have hcy := (hw4.cell (p := ⟨b, off + s.p, none⟩) (by exact hb)).trans hcx
    have HW4 : Hid (Below w.heap.size w w4) := HW3.out.trans (hw4.mono HW3.out.size)
    clear hw4 HR3 HW3 hcx
    go_wp2
    go_ret
    exact ⟨rfl, HW4.out⟩
  | false =>
    obtain ⟨hlb, hpk, hk⟩ := HA.out.2 rfl
    rw [if_pos rfl, ← HD.out] at hk
    have hM : max (s.first : Int) (s.later : Int) = ((max s.first s.later : Nat) : Int) := by omega
    have HL : Hid (lb T n s.p = 0) := hlb
    have hpk' := hpk (.inl rfl)
    generalize hMM : max s.first s.later = M at *
    have hMb : M ≤ 1075000000 := by
      have i5 := HS.out.1.f
      have i6 := HS.out.1.l
      have := HD.out
      omega
    have HK : Hid (k = max (max (M : Int) (bi + 1)) 1) := hk
    clear HA hlb hpk HD hMM HS hk
    by_cases hp : s.p < n
    · rcases HR3.out.2 with hz | ⟨b, off, rfl, hb, hcc⟩
      · omega
      have hcx := hcc s.p hp
      have hxx := HR3.out.1 s.p hp
      have e : pk T n s.p = T s.p := if_pos hp
      rw [e] at hpk'
      obtain ⟨x, hx⟩ : ∃ x, x = T s.p := ⟨_, rfl⟩
      rw [← hx] at hcx hpk' hxx
      clear hx e hcc
      have h32 : (x == 32) = false := by simp [hpk'.1]
      have h9 : (x == 9) = false := by simp [hpk'.2]
      go_wp2_with fail
      refine (model13 (some ⟨b, off, none⟩) n n s.p T w3 HR3.out hn).mono ?_
      rintro e w4 ⟨rfl, hw4⟩
      rw [HL.out]
      have hcy := (hw4.cell (p := ⟨b, off + s.p, none⟩) (by exact hb)).trans hcx
      have HW4 : Hid (Below w.heap.size w w4) := HW3.out.trans (hw4.mono HW3.out.size)
      clear hw4 HR3 HW3 hcx
      go_wp2_with fail
      refine (imax20 s.first s.later w4).mono ?_
      rintro e wx ⟨rfl, rfl⟩
      rw [hM]
      go_wp2_with fail
      refine (imax20 M (bi + 1) w4).mono ?_
      rintro e wx ⟨rfl, rfl⟩
      go_wp2_with fail
      refine (imax20 (max (M : Int) (bi + 1)) 1 w4).mono ?_
      rintro e wx ⟨rfl, rfl⟩
      rw [← HK.out]
      go_wp2
      go_ret
      exact ⟨by simp, HW4.out⟩
    · clear HR3
      go_wp2_with fail
      refine (imax20 s.first s.later w3).mono ?_
      rintro e wx ⟨rfl, rfl⟩
      rw [hM]
      go_wp2_with fail
      refine (imax20 M (bi + 1) w3).mono ?_
      rintro e wx ⟨rfl, rfl⟩
      go_wp2_with fail
      refine (imax20 (max (M : Int) (bi + 1)) 1 w3).mono ?_
      rintro e wx ⟨rfl, rfl⟩
      rw [← HK.out]
      go_wp2
      go_ret
      exact ⟨by simp, HW3.out⟩

set_option maxRecDepth 100000 in
set_option maxHeartbeats 800000 in
theorem law6 (a : Option Addr) (n c : Nat) (i j k l : Int) (T : Nat → Int) (w : World) (r : RowT w a n T) (z : a = none → n = 0) :
    Calls Try.prog 6 #[.slice a n c, .int .i64 i, .int .i64 j, .int .i64 k, .int .i64 l] w fun e w' => e = .returned (.bool true) ∧ Below w.heap.size w w' := by
  by_cases hn : n ≤ 1048576
  case neg =>
    go_enter Try.func6, Try.ntmps6
    go_wp2_with fail
    refine (zz17_no a n c i j k l w hn).mono ?_
    rintro e w' ⟨rfl, rfl⟩
    go_wp2
    all_goals
      go_ret
      exact ⟨rfl, Below.refl _ _⟩
  by_cases hi : i < 0 ∨ (n : Int) < i
  case pos =>
    clear r z
    go_enter Try.func6, Try.ntmps6
    go_wp2_with fail
    refine (zz17_yes a n c i j k l w hn).mono ?_
    rintro e w' ⟨rfl, rfl⟩
    go_wp2
    all_goals
      go_ret
      exact ⟨rfl, Below.refl _ _⟩
  by_cases hj : ((j < 0 ∨ 1073741824 < j) ∨ k < 0) ∨ 1073741824 < k
  case pos =>
    clear r z
    go_enter Try.func6, Try.ntmps6
    go_wp2_with fail
    refine (zz17_yes a n c i j k l w hn).mono ?_
    rintro e w' ⟨rfl, rfl⟩
    go_wp2
    all_goals
      go_ret
      exact ⟨rfl, Below.refl _ _⟩
  by_cases hl : l < -1 ∨ 1073741824 < l
  case pos =>
    clear r z
    go_enter Try.func6, Try.ntmps6
    go_wp2_with fail
    refine (zz17_yes a n c i j k l w hn).mono ?_
    rintro e w' ⟨rfl, rfl⟩
    go_wp2
    all_goals
      go_ret
      exact ⟨rfl, Below.refl _ _⟩
  obtain ⟨i', rfl⟩ := Int.eq_ofNat_of_zero_le (a := i) (by omega)
  obtain ⟨j', rfl⟩ := Int.eq_ofNat_of_zero_le (a := j) (by omega)
  obtain ⟨k', rfl⟩ := Int.eq_ofNat_of_zero_le (a := k) (by omega)
  exact law6_main a n c i' j' k' l T w r z hn (by omega) (by omega) (by omega) (by omega)
end Go.Proofs.Qxb6600099a
