import Derived.Test.Qxb6600099aJ
namespace Go.Proofs.Qxb6600099a
open Go.RowKit

set_option maxRecDepth 100000 in
set_option maxHeartbeats 1600000 in
theorem block30k (P : Nat) (a : Option Addr) (n c : Nat) (T : Nat → Int) (at' line column : Nat) (bi : Int) (ind : Nat) (w : World)
    (h : Has P (scan a n c at' line column bi false) 46 w) (hr : ∀ w', Below P w w' → RowT w' a n T) (hT : ∀ i, i < n → 0 ≤ T i ∧ T i ≤ 255) (hnc : n ≤ c) (hn : n ≤ 1048576) (ha : at' ≤ n) (hl : line ≤ 1073741824) (_hc : column ≤ 1073741824) (hi : 1 ≤ ind ∧ ind ≤ 1073741824) :
    Calls Try.prog 30 #[.pointer (some ⟨P, 0, none⟩), .int .i64 (ind : Int)] w (BlockPost P a n c T at' line column bi ind w) := by
  have HR : Hid (∀ w', Below P w w' → RowT w' a n T) := hr
  have HT : Hid (∀ i, i < n → 0 ≤ T i ∧ T i ≤ 255) := hT
  have H0 : Hid (Rel P a n c T at' line column bi ind w ⟨at', column, 0, 0, 0⟩ w) := ⟨St.first ha, h, Below.refl _ _⟩
  have dI : ((ind : Int) == 0) = false := by simp; omega
  clear hr hT h
  go_enter Try.func30, Try.ntmps30
  go_wp2_with fail
  go_loopw [5] (fun d wr => ∃ s : S, d = .int .i64 ((max s.f s.l : Nat) : Int) ∧ Rel P a n c T at' line column bi ind w s wr) (fun _ wr => n - posOf P wr)
  case atStart => exact ⟨_, rfl, H0.out⟩
  case round =>
    clear H0
    obtain ⟨s, rfl, hrel0⟩ := hrel
    have HS : Hid (Rel P a n c T at' line column bi ind w s wr) := hrel0
    have HD : Hid (s.p = posOf P wr) := (pos_scan hrel0.2.1).symm
    clear hrel0
    generalize hD : max s.f s.l = D at *
    go_wp2_with fail
    go_loopw [] (fun wr => ∃ s' : S, max s'.f s'.l = D ∧ s.p ≤ s'.p ∧ Rel P a n c T at' line column bi ind w s' wr) (fun wr => n - posOf P wr)
    case atStart => exact ⟨s, hD, Nat.le_refl _, HS.out⟩
    case round =>
      clear HS
      obtain ⟨s', hD', hsp, hrel⟩ := hrel
      have HQ : Hid (Rel P a n c T at' line column bi ind w s' wr) := hrel
      have i1 := hrel.1.1.le
      have i2 := hrel.1.1.ge
      have i3 := hrel.1.1.col
      have i4 := hrel.1.1.b
      have i5 := hrel.1.1.f
      have i6 := hrel.1.1.l
      have HPos : Hid (posOf P wr = s'.p) := pos_scan hrel.2.1
      have h0 : wr.cell? ⟨P, 0, none⟩ = some (.slice a n c) := hrel.2.1.cell 0
      have h1 : wr.cell? ⟨P, 1, none⟩ = some (.int .i64 (s'.p : Int)) := hrel.2.1.cell 1
      have h3 : wr.cell? ⟨P, 3, none⟩ = some (.int .i64 (s'.col : Int)) := hrel.2.1.cell 3
      clear hrel
      by_cases lim : s'.col < ind
      · go_wp2_with fail
        refine (peek33 P s'.p a n c T wr h0 h1 (HR.out wr HQ.out.2.2) i1 hn).mono ?_
        rintro e w2 ⟨rfl, hw2⟩
        have HQ2 : Hid (Rel P a n c T at' line column bi ind w s' w2) := ⟨HQ.out.1, HQ.out.2.1.below hw2 HQ.out.2.1.lt, HQ.out.2.2.trans (hw2.mono (Nat.le_of_lt HQ.out.2.1.lt))⟩
        clear HQ hw2 h0 h1 h3
        have g0 : w2.cell? ⟨P, 0, none⟩ = some (.slice a n c) := HQ2.out.2.1.cell 0
        have g1 : w2.cell? ⟨P, 1, none⟩ = some (.int .i64 (s'.p : Int)) := HQ2.out.2.1.cell 1
        have g3 : w2.cell? ⟨P, 3, none⟩ = some (.int .i64 (s'.col : Int)) := HQ2.out.2.1.cell 3
        obtain ⟨x, Hx⟩ : ∃ x, Hid (x = pk T n s'.p) := ⟨_, rfl⟩
        rw [← Hx.out]
        by_cases e32 : x = 32
        · have hq := pk_in Hx.out.symm (by omega)
          rw [e32] at hq
          clear Hx
          subst e32
          go_wp2_with fail
          refine (advance34 P s'.p (line + s'.b) s'.col bi a n c T w2 HQ2.out.2.1 (HR.out w2 HQ2.out.2.2) hq.1 hq.2 hn (by omega)).mono ?_
          rintro e w3 ⟨rfl, hh3, hw3⟩
          have HQ3 : Hid (Rel P a n c T at' line column bi ind w s'.sp w3) := ⟨HQ2.out.1.sp hq.1 hq.2 (.inr lim), hh3, HQ2.out.2.2.trans hw3⟩
          clear HQ2 hh3 hw3 g0 g1 g3
          go_wp2
          go_roundw
          case rel => exact ⟨s'.sp, hD', Nat.le_succ_of_le hsp, HQ3.out⟩
          case measure => rw [pos_scan HQ3.out.2.1, HPos.out]; have := hq.1; simp only [S.sp]; omega
        · go_wp2_with fail
          all_goals
            refine (peek33 P s'.p a n c T w2 g0 g1 (HR.out w2 HQ2.out.2.2) i1 hn).mono ?_
            rintro e w3 ⟨rfl, hw3⟩
            have HQ3 : Hid (Rel P a n c T at' line column bi ind w s' w3) := ⟨HQ2.out.1, HQ2.out.2.1.below hw3 HQ2.out.2.1.lt, HQ2.out.2.2.trans (hw3.mono (Nat.le_of_lt HQ2.out.2.1.lt))⟩
            clear HQ2 hw3 g0 g1 g3
            have k0 : w3.cell? ⟨P, 0, none⟩ = some (.slice a n c) := HQ3.out.2.1.cell 0
            have k1 : w3.cell? ⟨P, 1, none⟩ = some (.int .i64 (s'.p : Int)) := HQ3.out.2.1.cell 1
            rw [← Hx.out]
            by_cases e9 : x = 9
            · have hq := pk_in Hx.out.symm (by omega)
              rw [e9] at hq
              clear Hx
              subst e9
              have f13 := HQ3.out.2.1.free 13
              have c13 : w3.cell? ⟨P, 13, none⟩ = some (.bool false) := HQ3.out.2.1.cell 13
              go_wp2
              go_ret
              exact ⟨s', true, ind, rfl, HQ3.out.1, HQ3.out.2.1.setCell 13 _, HQ3.out.2.2.setCell (Nat.le_refl _) _, ⟨fun _ => ⟨.inr lim, hq.1, hq.2, rfl⟩, fun h => by cases h⟩⟩
            · have HX : Hid (pk T n s'.p ≠ 32 ∧ pk T n s'.p ≠ 9) := ⟨by rw [← Hx.out]; exact e32, by rw [← Hx.out]; exact e9⟩
              clear Hx
              go_wp2_with fail
              refine (line27 P s'.p a n c T w3 k0 (HR.out w3 HQ3.out.2.2) hnc hn).mono ?_
              rintro e w4 ⟨rfl, hw4⟩
              have HQ4 : Hid (Rel P a n c T at' line column bi ind w s' w4) := ⟨HQ3.out.1, HQ3.out.2.1.below hw4 HQ3.out.2.1.lt, HQ3.out.2.2.trans (hw4.mono (Nat.le_of_lt HQ3.out.2.1.lt))⟩
              clear HQ3 hw4 k0 k1
              have g5 : w4.cell? ⟨P, 5, none⟩ = some (.int .i64 bi) := HQ4.out.2.1.cell 5
              have hv := lb_le (T := T) (n := n) (i := s'.p)
              have hv3 := hv.2.2 i1
              obtain ⟨v, Hv⟩ : ∃ v, Hid (v = lb T n s'.p) := ⟨_, rfl⟩
              rw [← Hv.out] at hv hv3 ⊢
              by_cases ev : v = 0
              · have HV : Hid (lb T n s'.p = 0) := by rw [← Hv.out]; exact ev
                clear Hv
                subst ev
                go_wp2
                go_ret
                refine ⟨s', false, _, rfl, HQ4.out.1, HQ4.out.2.1, HQ4.out.2.2, ⟨(fun h => by cases h), fun _ => ⟨HV.out, fun _ => HX.out, ?_⟩⟩⟩
                rw [if_neg (by omega)]
              · obtain ⟨m, rfl⟩ := Int.eq_ofNat_of_zero_le hv.1
                have HV : Hid (0 < lb T n s'.p ∧ (lb T n s'.p).toNat = m) := ⟨by rw [← Hv.out]; omega, by rw [← Hv.out]; rfl⟩
                clear Hv
                have hm0 : 0 < m := by omega
                have hm1 : s'.p + m ≤ n := by omega
                go_wp2_with fail
                refine (newLine35 P s'.p (line + s'.b) s'.col m bi a n c w4 HQ4.out.2.1 (by omega) (by omega) (by omega)).mono ?_
                rintro e w5 ⟨rfl, hh5, hw5⟩
                have HQ5 : Hid (Rel P a n c T at' line column bi ind w (s'.br m) w5) := ⟨by rw [← HV.out.2]; exact HQ4.out.1.br HV.out.1, hh5, HQ4.out.2.2.trans hw5⟩
                have HD5 : Hid (max (s'.br m).f (s'.br m).l = max (max s'.f s'.l) s'.col) := br_deep HQ4.out.1.1 m
                clear HQ4 hh5 hw5 g5
                go_wp2
                go_roundw
                case rel =>
                  refine ⟨s'.br m, ?_, HQ5.out⟩
                  rw [HD5.out, hD']
                  congr 1
                  omega
                case measure => rw [pos_scan HQ5.out.2.1, ← HD.out]; simp only [S.br]; omega
      · go_wp2_with fail
        all_goals
          refine (line27 P s'.p a n c T wr h0 (HR.out wr HQ.out.2.2) hnc hn).mono ?_
          rintro e w4 ⟨rfl, hw4⟩
          have HQ4 : Hid (Rel P a n c T at' line column bi ind w s' w4) := ⟨HQ.out.1, HQ.out.2.1.below hw4 HQ.out.2.1.lt, HQ.out.2.2.trans (hw4.mono (Nat.le_of_lt HQ.out.2.1.lt))⟩
          clear HQ hw4 h0 h1 h3
          have g5 : w4.cell? ⟨P, 5, none⟩ = some (.int .i64 bi) := HQ4.out.2.1.cell 5
          have hv := lb_le (T := T) (n := n) (i := s'.p)
          have hv3 := hv.2.2 i1
          obtain ⟨v, Hv⟩ : ∃ v, Hid (v = lb T n s'.p) := ⟨_, rfl⟩
          rw [← Hv.out] at hv hv3 ⊢
          by_cases ev : v = 0
          · have HV : Hid (lb T n s'.p = 0) := by rw [← Hv.out]; exact ev
            clear Hv
            subst ev
            go_wp2
            go_ret
            refine ⟨s', false, _, rfl, HQ4.out.1, HQ4.out.2.1, HQ4.out.2.2, ⟨(fun h => by cases h), fun _ => ⟨HV.out, fun h => absurd (h.resolve_left (by omega)) lim, ?_⟩⟩⟩
            rw [if_neg (by omega)]
          · obtain ⟨m, rfl⟩ := Int.eq_ofNat_of_zero_le hv.1
            have HV : Hid (0 < lb T n s'.p ∧ (lb T n s'.p).toNat = m) := ⟨by rw [← Hv.out]; omega, by rw [← Hv.out]; rfl⟩
            clear Hv
            have hm0 : 0 < m := by omega
            have hm1 : s'.p + m ≤ n := by omega
            go_wp2_with fail
            refine (newLine35 P s'.p (line + s'.b) s'.col m bi a n c w4 HQ4.out.2.1 (by omega) (by omega) (by omega)).mono ?_
            rintro e w5 ⟨rfl, hh5, hw5⟩
            have HQ5 : Hid (Rel P a n c T at' line column bi ind w (s'.br m) w5) := ⟨by rw [← HV.out.2]; exact HQ4.out.1.br HV.out.1, hh5, HQ4.out.2.2.trans hw5⟩
            have HD5 : Hid (max (s'.br m).f (s'.br m).l = max (max s'.f s'.l) s'.col) := br_deep HQ4.out.1.1 m
            clear HQ4 hh5 hw5 g5
            go_wp2
            go_roundw
            case rel =>
              refine ⟨s'.br m, ?_, HQ5.out⟩
              rw [HD5.out, hD']
              congr 1
              omega
            case measure => rw [pos_scan HQ5.out.2.1, ← HD.out]; simp only [S.br]; omega
end Go.Proofs.Qxb6600099a
