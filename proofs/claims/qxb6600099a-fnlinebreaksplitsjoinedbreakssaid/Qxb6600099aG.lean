import Derived.Test.Qxb6600099aF
import Derived.Maps.AppendAt
namespace Go.Proofs.Qxb6600099a
open Go.RowKit

theorem RowT.ok {w : World} {a : Option Addr} {n : Nat} {T : Nat → Int} (h : RowT w a n T) {i : Nat} (hi : i < n) : 0 ≤ T i ∧ T i ≤ 255 := h.1 i hi

theorem RowT.grown {w w' : World} {g n : Nat} {k : Option Nat} {T : Nat → Int} (h : RowT w (some ⟨g, 0, none⟩) n T) (hg : w.grownBy w' k) (hne : some g ≠ k) : RowT w' (some ⟨g, 0, none⟩) n T := by
  refine ⟨h.1, ?_⟩
  rcases h.2 with h | ⟨b, off, ha, hlt, hc⟩
  · exact .inl h
  · simp only [Option.some.injEq, Addr.mk.injEq, and_true] at ha
    obtain ⟨rfl, rfl⟩ := ha
    exact .inr ⟨g, 0, rfl, Nat.lt_of_lt_of_le hlt hg.size, fun i hi => hg.cell (hc i hi) hne⟩

set_option maxRecDepth 100000 in
set_option maxHeartbeats 1600000 in
theorem law5 (a : Option Addr) (n c : Nat) (C : Nat → Int) (w : World) (r : RowT w a n C) (z : a = none → n = 0) :
    Calls Try.prog 5 #[.slice a n c] w fun e w' => e = .returned (.bool true) ∧ Below w.heap.size w w' := by
  by_cases hn : n ≤ 1048576
  case neg =>
    go_enter Try.func5, Try.ntmps5
    go_wp2_with fail
    refine (zz15_no a n c w hn).mono ?_
    rintro e w' ⟨rfl, rfl⟩
    go_wp2
    go_ret
    exact ⟨rfl, Below.refl _ _⟩
  by_cases hn' : n ≤ 65536
  case neg =>
    go_enter Try.func5, Try.ntmps5
    go_wp2_with fail
    refine (zz15_yes a n c w hn).mono ?_
    rintro e w' ⟨rfl, rfl⟩
    go_wp2
    go_ret
    exact ⟨rfl, Below.refl _ _⟩
  obtain ⟨i0, hi, hz0, hz1, hz2⟩ := info_parts Try.info5
  go_enter Try.func5, Try.ntmps5
  go_wp2_with fail
  refine (zz15_yes a n c w hn).mono ?_
  rintro e w' ⟨rfl, rfl⟩
  go_wp2_with fail
  refine (clone11 a n c w C r z hn).mono ?_
  rintro e w1 ⟨a', rfl, z', r', hw1⟩
  have HW1 : Hid (Below w.heap.size w w1) := hw1
  have HR : Hid (RowT w1 a' n C) := r'
  clear r z hw1 r'
  go_wp2_with (at_make; refine wpList_make_own _ rfl _ _ 22 rfl w1.heap.size 5 i0 (.int .u8 0) 1 Try.underlying22 hi hz0 hz1 .i64 .i64 _ (3 * n) rfl rfl (by first | rfl | omega) (by rw [hz2]; omega) (by unfold maxLen; omega) (Nat.le_refl _) ?_; intro w0 hown0 hgrow0)
  have HO : Hid (OwnL w1.heap.size (3 * n) 0 [] w0 ∧ Below w1.heap.size w1 w0) := ⟨⟨rfl, hown0⟩, (Below.refl _ _).grown hgrow0 (Nat.le_refl _) (fun k h => by cases h)⟩
  clear hown0 hgrow0
  go_loopw [3, 4] (fun t i wr => ∃ k : Nat, k ≤ n ∧ i = .int .i64 k ∧ t = .slice (some ⟨w1.heap.size, 0, none⟩) (txt C k).length (3 * n) ∧ OwnL w1.heap.size (3 * n) (txt C k).length (txt C k) wr ∧ Below w1.heap.size w1 wr) (fun _ i _ => n - (intOf i).toNat)
  case atStart => exact ⟨0, Nat.zero_le _, rfl, rfl, HO.out.1, HO.out.2⟩
  case round =>
    clear HO
    obtain ⟨k, hk, rfl, rfl, ho, hbel⟩ := hrel
    by_cases hlt : k < n
    · rcases HR.out.2 with hz | ⟨b, off, rfl, hb, hc⟩
      · omega
      have hcx : wr.cell? ⟨b, off + k, none⟩ = some (.int .u8 (C k)) := (hbel.cell (by exact hb)).trans (hc k hlt)
      have hck := HR.out.ok hlt
      have hsz := hbel.size
      have HX : Hid (OwnL w1.heap.size (3 * n) (txt C k).length (txt C k) wr ∧ Below w1.heap.size w1 wr) := ⟨ho, hbel⟩
      have hgl : w1.heap.size < wr.heap.size := ho.lt
      have htl := txt_len_le C k
      have hsl := sp_len (ix_lt (C k))
      clear hc ho hbel
      generalize hx : C k = x at hcx hck
      go_wp2_with fail
      refine (single16 x wr hck).mono ?_
      rintro e w2 ⟨g2, rfl, hr2, hw2, hg2⟩
      subst hx
      have HX2 : Hid (OwnL w1.heap.size (3 * n) (txt C k).length (txt C k) w2 ∧ Below w1.heap.size w1 w2) := ⟨HX.out.1.below hw2 hgl, HX.out.2.trans (hw2.mono hsz)⟩
      have HR2 : Hid (RowT w2 (some ⟨g2, 0, none⟩) (sp (ix (C k))).length (spT (ix (C k))) ∧ Below wr.heap.size wr w2) := ⟨hr2, hw2⟩
      have hw2s := hw2.size
      clear hr2 hw2 HX hcx hck
      generalize hL : (txt C k).length = L at *
      generalize hM : (sp (ix (C k))).length = M at *
      have hM3 : L + M ≤ 3 * n := by omega
      clear hsl HR
      go_wp2_with fail
      go_loopw [3, 6] (fun t i wq => ∃ j : Nat, j ≤ M ∧ i = .int .i64 j ∧ t = .slice (some ⟨w1.heap.size, 0, none⟩) (L + j) (3 * n) ∧ OwnL w1.heap.size (3 * n) (L + j) (txt C k ++ (sp (ix (C k))).take j) wq ∧ RowT wq (some ⟨g2, 0, none⟩) M (spT (ix (C k))) ∧ Below w1.heap.size w1 wq) (fun _ i _ => M - (intOf i).toNat)
      case atStart => exact ⟨0, Nat.zero_le _, rfl, rfl, by simpa using HX2.out.1, HR2.out.1, HX2.out.2⟩
      case round =>
        clear HX2 HR2
        obtain ⟨j, hj, rfl, rfl, ho, hr, hbel⟩ := hrel
        by_cases hlt2 : j < M
        · rcases hr.2 with hz | ⟨b3, off3, hX, hb3, hc3⟩
          · omega
          simp only [Option.some.injEq, Addr.mk.injEq, and_true] at hX
          obtain ⟨rfl, rfl⟩ := hX
          have hcy := hc3 j hlt2
          rw [Nat.zero_add] at hcy
          have hy := hr.ok hlt2
          have HH : Hid (OwnL w1.heap.size (3 * n) (L + j) (txt C k ++ (sp (ix (C k))).take j) wr ∧ RowT wr (some ⟨g2, 0, none⟩) M (spT (ix (C k))) ∧ Below w1.heap.size w1 wr) := ⟨ho, hr, hbel⟩
          have hsb := hbel.size
          clear hc3 hr hbel ho
          obtain ⟨y, Hy⟩ : ∃ y, Hid (y = spT (ix (C k)) j) := ⟨_, rfl⟩
          rw [← Hy.out] at hcy hy
          go_wp2_with (at_builtin; refine wpList_append_own_spare _ rfl (.tmp 40) (.tmp 45) 22 rfl w1.heap.size 5 i0 1 Try.underlying22 hi hz1 w1.heap.size (L + j) (3 * n) _ rfl (HH.out.1.2.alloc _) ⟨wr.heap.size, 0, none⟩ 1 1 [.int .u8 y] rfl rfl (cell_one_new _ _ _) (by intro u hu; simp at hu; subst hu; rfl) (by omega) ?_; intro w3 hown3 hgrow3)
          go_roundw
          case rel =>
            have ht : txt C k ++ (sp (ix (C k))).take (j + 1) = (txt C k ++ (sp (ix (C k))).take j) ++ [y] := by
              rw [List.append_assoc, List.take_succ_eq_append_getElem (by omega), Hy.out]
              unfold spT
              simp [List.getD, hM, hlt2]
            refine ⟨j + 1, by omega, by go_num, rfl, ⟨?_, ?_⟩, (HH.out.2.1.alloc _).grown hgrow3 (by simp; omega), (HH.out.2.2.alloc (by omega) _).grown hgrow3 (by simp; omega) (fun q hq => by cases hq; exact Nat.le_refl _)⟩
            · rw [ht, List.length_append, HH.out.1.1]; rfl
            · rw [ht, List.map_append]; exact hown3
          case measure => simp [intOf]; omega
        · obtain rfl : j = M := by omega
          have HH : Hid (OwnL w1.heap.size (3 * n) (L + j) (txt C k ++ (sp (ix (C k))).take j) wr ∧ Below w1.heap.size w1 wr) := ⟨ho, hbel⟩
          clear ho hr hbel
          go_wp2
          go_roundw
          case rel =>
            have ht : txt C k ++ (sp (ix (C k))).take j = txt C (k + 1) := by rw [← hM, List.take_length]; rfl
            have hl : (txt C (k + 1)).length = L + j := by rw [txt_len_succ, hL, hM]
            refine ⟨k + 1, by omega, by go_num, by rw [hl], ?_, HH.out.2⟩
            rw [hl, ← ht]; exact HH.out.1
          case measure => simp [intOf]; omega
    · obtain rfl : n = k := by omega
      have hLe := txt_len_le C n
      have hgl : w1.heap.size < wr.heap.size := ho.lt
      have HT : Hid (RowT wr (some ⟨w1.heap.size, 0, none⟩) (txt C n).length (tT C n)) := ho.row (txt_ok C n)
      have HC : Hid (RowT wr a' n C) := HR.out.below hbel
      have HW : Hid (Below w.heap.size w wr) := HW1.out.trans (hbel.mono HW1.out.size)
      clear hi hz0 hz1 hz2 i0 HR HW1
      clear ho hbel hlt hk
      obtain ⟨L, hL⟩ : ∃ L, L = (txt C n).length := ⟨_, rfl⟩
      rw [← hL] at HT hLe ⊢
      have HL : Hid (L = (txt C n).length) := hL
      clear hL
      obtain ⟨g, hg⟩ : ∃ g, g = w1.heap.size := ⟨_, rfl⟩
      rw [← hg] at HT hgl ⊢
      clear hg
      generalize wr = w4 at *
      go_wp2_with fail
      go_loopw [7, 8] (fun p i wr => ∃ q : Nat, q ≤ n ∧ i = .int .i64 q ∧ p = .int .i64 (txt C q).length ∧ Below w4.heap.size w4 wr) (fun _ i _ => n - (intOf i).toNat)
      case atStart => exact ⟨0, Nat.zero_le _, rfl, rfl, Below.refl _ _⟩
      case round =>
        obtain ⟨q, hq, rfl, rfl, hbel⟩ := hrel
        have HB : Hid (Below w4.heap.size w4 wr) := hbel
        have hws := hbel.size
        by_cases hlt : q < n
        · have rc := HC.out.below hbel
          rcases HC.out.2 with hz | ⟨b, off, rfl, hbb, hc4⟩
          · omega
          have hb : b < wr.heap.size := Nat.lt_of_lt_of_le hbb hws
          have hcx := (hbel.cell (p := ⟨b, off + q, none⟩) hbb).trans (hc4 q hlt)
          have hxx := rc.ok hlt
          have hPL := txt_le C hlt
          rw [← HL.out] at hPL
          have hM := sp_len (ix_lt (C q))
          have hlb := lb_single C hlt
          rw [← HL.out] at hlb
          have Hlb : Hid _ := hlb
          have Hsuc : Hid _ := txt_len_succ C q
          clear hbel rc hlb
          obtain ⟨x, Hx⟩ : ∃ x, Hid (x = C q) := ⟨_, rfl⟩
          rw [← Hx.out] at hcx hxx hM hPL
          obtain ⟨P, hP⟩ : ∃ P, P = (txt C q).length := ⟨_, rfl⟩
          rw [← hP] at hPL ⊢
          have HP : Hid (P = (txt C q).length) := hP
          clear hP
          go_wp2_with fail
          refine (single16 x wr hxx).mono ?_
          rintro e w5 ⟨g2, rfl, hr2, hw2, hg2⟩
          have HB5 : Hid (Below w4.heap.size w4 w5) := HB.out.trans (hw2.mono hws)
          have hcx5 := (hw2.cell (p := ⟨b, off + q, none⟩) (by exact hb)).trans hcx
          have HT5 : Hid (RowT w5 (some ⟨g, 0, none⟩) L (tT C n)) := HT.out.below HB5.out
          clear hr2 hw2 hg2 hcx
          obtain ⟨M, hM'⟩ : ∃ M, M = (sp (ix x)).length := ⟨_, rfl⟩
          rw [← hM'] at hM hPL ⊢
          have HM : Hid (M = (sp (ix x)).length) := hM'
          clear hM'
          have hr5 : 0 ≤ x % 5 ∧ x % 5 < 5 := ⟨Int.emod_nonneg _ (by omega), Int.emod_lt_of_pos _ (by omega)⟩
          by_cases c1 : x % 5 = 1
          · by_cases c2 : q + 1 < n
            · have hcy := (HB5.out.cell (p := ⟨b, off + (q + 1), none⟩) hbb).trans (hc4 (q + 1) c2)
              have hyy := HC.out.ok c2
              obtain ⟨y, Hy⟩ : ∃ y, Hid (y = C (q + 1)) := ⟨_, rfl⟩
              rw [← Hy.out] at hcy hyy
              clear hc4
              have hr6 : 0 ≤ y % 5 ∧ y % 5 < 5 := ⟨Int.emod_nonneg _ (by omega), Int.emod_lt_of_pos _ (by omega)⟩
              by_cases c3 : y % 5 = 0
              · have hp : pair C n q := ⟨by rw [← Hx.out]; exact c1, c2, by rw [← Hy.out]; exact c3⟩
                have HV : Hid (lb (tT C n) L P = 2) := by show lb (tT C n) L P = 2; rw [HP.out, Hlb.out, if_pos hp]
                have HS : Hid ((txt C (q + 2)).length = P + 2) := by show (txt C (q + 2)).length = P + 2; rw [pair_len C hp, HP.out]
                clear hp Hlb Hsuc
                go_wp2_with fail
                refine (line12 (some ⟨g, 0, none⟩) L (3 * n) P (tT C n) w5 HT5.out hLe (by omega)).mono ?_
                rintro e w6 ⟨rfl, hw6⟩
                have HB6 : Hid (Below w4.heap.size w4 w6) := HB5.out.trans (hw6.mono (HB5.out.size))
                clear hw6 HT5 HB5
                rw [HV.out]
                go_wp2
                go_roundw
                case rel =>
                  refine ⟨q + 2, by omega, by go_num, ?_, HB6.out⟩
                  rw [HS.out]; go_num
                case measure => simp [intOf]; omega
              · have hp : ¬ pair C n q := fun h => c3 (by rw [Hy.out]; exact h.2.2)
                have HV : Hid (lb (tT C n) L P = (M : Int)) := by show lb (tT C n) L P = (M : Int); rw [HP.out, Hlb.out, if_neg (fun h => hp h), ← Hx.out, ← HM.out]
                have HS : Hid ((txt C (q + 1)).length = P + M) := by show (txt C (q + 1)).length = P + M; rw [Hsuc.out, ← HP.out, ← Hx.out, ← HM.out]
                clear hp Hlb Hsuc
                go_wp2_with fail
                refine (line12 (some ⟨g, 0, none⟩) L (3 * n) P (tT C n) w5 HT5.out hLe (by omega)).mono ?_
                rintro e w6 ⟨rfl, hw6⟩
                have HB6 : Hid (Below w4.heap.size w4 w6) := HB5.out.trans (hw6.mono (HB5.out.size))
                clear hw6 HT5 HB5
                rw [HV.out]
                go_wp2
                go_roundw
                case rel =>
                  refine ⟨q + 1, by omega, by go_num, ?_, HB6.out⟩
                  rw [HS.out]; go_num
                case measure => simp [intOf]; omega
            · have hp : ¬ pair C n q := fun h => c2 h.2.1
              clear hc4
              have HV : Hid (lb (tT C n) L P = (M : Int)) := by show lb (tT C n) L P = (M : Int); rw [HP.out, Hlb.out, if_neg (fun h => hp h), ← Hx.out, ← HM.out]
              have HS : Hid ((txt C (q + 1)).length = P + M) := by show (txt C (q + 1)).length = P + M; rw [Hsuc.out, ← HP.out, ← Hx.out, ← HM.out]
              clear hp Hlb Hsuc
              go_wp2_with fail
              refine (line12 (some ⟨g, 0, none⟩) L (3 * n) P (tT C n) w5 HT5.out hLe (by omega)).mono ?_
              rintro e w6 ⟨rfl, hw6⟩
              have HB6 : Hid (Below w4.heap.size w4 w6) := HB5.out.trans (hw6.mono (HB5.out.size))
              clear hw6 HT5 HB5
              rw [HV.out]
              go_wp2
              go_roundw
              case rel =>
                refine ⟨q + 1, by omega, by go_num, ?_, HB6.out⟩
                rw [HS.out]; go_num
              case measure => simp [intOf]; omega
          · have hp : ¬ pair C n q := fun h => c1 (by rw [Hx.out]; exact h.1)
            clear hc4
            have HV : Hid (lb (tT C n) L P = (M : Int)) := by show lb (tT C n) L P = (M : Int); rw [HP.out, Hlb.out, if_neg (fun h => hp h), ← Hx.out, ← HM.out]
            have HS : Hid ((txt C (q + 1)).length = P + M) := by show (txt C (q + 1)).length = P + M; rw [Hsuc.out, ← HP.out, ← Hx.out, ← HM.out]
            clear hp Hlb Hsuc
            go_wp2_with fail
            refine (line12 (some ⟨g, 0, none⟩) L (3 * n) P (tT C n) w5 HT5.out hLe (by omega)).mono ?_
            rintro e w6 ⟨rfl, hw6⟩
            have HB6 : Hid (Below w4.heap.size w4 w6) := HB5.out.trans (hw6.mono (HB5.out.size))
            clear hw6 HT5 HB5
            rw [HV.out]
            go_wp2
            go_roundw
            case rel =>
              refine ⟨q + 1, by omega, by go_num, ?_, HB6.out⟩
              rw [HS.out]; go_num
            case measure => simp [intOf]; omega
        · obtain rfl : n = q := by omega
          have HT5 : Hid (RowT wr (some ⟨g, 0, none⟩) L (tT C n)) := HT.out.below HB.out
          have HV : Hid (lb (tT C n) L L = 0) := by show lb (tT C n) L L = 0; rw [HL.out]; exact lb_end C n
          rw [← HL.out]
          clear hbel HT HC
          go_wp2_with fail
          refine (line12 (some ⟨g, 0, none⟩) L (3 * n) L (tT C n) wr HT5.out hLe (by omega)).mono ?_
          rintro e w6 ⟨rfl, hw6⟩
          have HB6 : Hid (Below w.heap.size w w6) := (HW.out.trans (HB.out.mono HW.out.size)).trans (hw6.mono (Nat.le_trans HW.out.size hws))
          clear hw6 HT5 HB
          rw [HV.out]
          go_wp2
          go_ret
          exact ⟨rfl, HB6.out⟩
end Go.Proofs.Qxb6600099a
