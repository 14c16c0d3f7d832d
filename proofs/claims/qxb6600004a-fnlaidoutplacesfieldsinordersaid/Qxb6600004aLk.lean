import Derived.Test.Qxb6600004aLj
import Derived.Deep.CutRange
import Derived.Deep.LoopGhost
namespace Go.Proofs.Qxb6600004a
open Go.RowKit
open LO

/-- What the law needs of the layout, with the layout's own functions out of sight. -/
structure Lay (o t : Int) (nb nf : Nat) (bS bA fS fA fP : Nat → Int) (z al : Int) (OF E : Nat → Int) : Prop where
  okB : OkB bS bA nb
  okF : OkF fS fA fP nf
  ho : o ≤ 536870912
  ht : t ≤ 536870912
  hal : al = wF (wB o bA nb) fA nf
  z0 : 0 ≤ z
  zm : z % al = 0
  al1 : 1 ≤ al
  al2 : al ≤ 536870912
  ze : E nf + pos t ≤ z
  zb : z ≤ 1610612736
  e0 : E 0 = sumS bS nb
  es : ∀ j, E (j + 1) = OF j + fS j
  eb : ∀ j, j ≤ nf → 0 ≤ E j ∧ E j ≤ 536870912
  fld : ∀ j, j < nf → E j + pos (fP j) ≤ OF j ∧ OF j % fA j = 0 ∧ (0 < j ∨ nb = 0 → OF j - fA j < E j + pos (fP j)) ∧ 0 ≤ OF j ∧ OF j + fS j ≤ 536870912
  last : pos t = 0 → 0 < nf → fS (nf - 1) = 0 → 0 < z → OF (nf - 1) < z
  sb : ∀ k, k ≤ nb → 0 ≤ sumS bS k ∧ sumS bS k ≤ 536870912

theorem Lay.of {o t : Int} {nb nf : Nat} {bS bA fS fA fP : Nat → Int} (h : Shape o nb bS bA nf fS fA fP t) {s : LS} (hs : s = pre (stF (stB o bS bA nb) fS fA fP nf) t) :
    Lay o t nb nf bS bA fS fA fP (ru (endF s) s.al) s.al (offF (stB o bS bA nb) fS fA fP) (eF o bS bA nb fS fA fP) := by
  have l := law_size h hs
  refine ⟨h.okB, h.okF, h.ho, h.ht, law_al h hs, l.1, l.2.1, l.2.2.1, l.2.2.2.1, l.2.2.2.2.1, l.2.2.2.2.2, rfl, eF_succ o bS bA nb fS fA fP, eF_bd h, law_field h, law_last h hs, fun k hk => ?_⟩
  have okk : OkB bS bA k := fun i hi => h.okB i (by omega)
  have a := sumS_bd k okk
  have b := sB_mono nb k hk h.okB
  have := h.sum
  have := pos_nonneg o
  have := pos_nonneg t
  have := sF_mono nf 0 (Nat.zero_le _) h.okF
  simp only [sF] at this
  exact ⟨a.1, by omega⟩

set_option maxRecDepth 100000 in
set_option maxHeartbeats 2000000 in
theorem law3_main (o t : Int) (nb nf c1 c2 : Nat) (a1 a2 : Option Addr) (bS bA fS fA fP : Nat → Int) (w : World) (h0 : nb + nf ≤ 1048576) (hnb : nb ≤ 4096) (hnf : nf ≤ 4096) (h16 : 16 * nb + 24 * nf ≤ 1048576)
    (z1 : a1 = none → nb = 0) (z2 : a2 = none → nf = 0) (r1 : RowB w a1 nb bS bA) (r2 : RowF w a2 nf fS fA fP) :
    Calls Try.prog 3 #[.int .i64 o, .slice a1 nb c1, .slice a2 nf c2, .int .i64 t] w fun e w' => e = .returned (.bool true) ∧ Below w.heap.size w w' := by
  go_enter Try.func3, Try.ntmps3
  go_wp2_with fail
  refine (zz11_yes o t a1 a2 nb c1 nf c2 w h0).mono ?_
  rintro e w' ⟨rfl, rfl⟩
  go_wp2_with fail
  refine (big12_no a1 a2 nb c1 nf c2 w hnb hnf h16).mono ?_
  rintro e w' ⟨rfl, rfl⟩
  go_wp2_with fail
  refine (shape13 o t a1 a2 nb c1 nf c2 bS bA fS fA fP w hnb hnf r1 r2).mono ?_
  rintro e w1 ⟨b, rfl, hb, hw1⟩
  cases b with
  | false =>
    clear hb r1 r2
    go_wp2
    go_ret
    exact ⟨rfl, hw1⟩
  | true =>
    have hsh := hb rfl
    have r1' := r1.below hw1
    have r2' := r2.below hw1
    clear hb r1 r2
    have HSH : Hid (Shape o nb bS bA nf fS fA fP t) := hsh
    clear hsh
    go_wp2_with fail
    refine (clone14 a1 nb c1 w1 bS bA r1' z1 hnb).mono ?_
    rintro e w2 ⟨d1, rfl, rd1, hw2⟩
    have r2'' := r2'.below hw2
    clear r1' r2'
    go_wp2_with fail
    refine (clone15 a2 nf c2 w2 fS fA fP r2'' z2 hnf).mono ?_
    rintro e w3 ⟨d2, rfl, rd2, hw3⟩
    have rd1' := rd1.below hw3
    have HB : Hid (Below w.heap.size w w3) := (hw1.trans (hw2.mono hw1.size)).trans (hw3.mono (Nat.le_trans hw1.size hw2.size))
    clear hw1 hw2 hw3 rd1 r2''
    go_wp2_with fail
    refine (run16 o t nb nf nb nf d1 d2 bS bA fS fA fP w3 hnb hnf rd1' rd2 HSH.out).mono ?_
    rintro e w4 ⟨g, s, hs, rfl, rI, hw4⟩
    have q1 := rd1'.below hw4
    have q2 := rd2.below hw4
    have HB4 : Hid (Below w.heap.size w w4) := HB.out.trans (hw4.mono HB.out.size)
    have HL : Hid (Lay o t nb nf bS bA fS fA fP (ru (endF s) s.al) s.al (offF (stB o bS bA nb) fS fA fP) (eF o bS bA nb fS fA fP)) := Lay.of HSH.out hs
    clear rd1' rd2 hw4 HB HSH hs
    generalize offF (stB o bS bA nb) fS fA fP = OF at *
    generalize eF o bS bA nb fS fA fP = E at *
    generalize ru (endF s) s.al = z at *
    generalize s.al = al at *
    go_upto_if 57 with fail
    go_cut [12] from 55 to 58 (fun s12 w' => s12 = .int .i64 (w0 o) ∧ w' = w4)
    case first =>
      by_cases hp : (1 : Int) < o
      · have E1 : Hid (w0 o = o) := by show w0 o = o; unfold w0; rw [if_pos hp]
        go_wp2
        go_meet
        case rel => exact ⟨by rw [E1.out], rfl⟩
      · have E1 : Hid (w0 o = 1) := by show w0 o = 1; unfold w0; rw [if_neg hp]
        go_wp2
        go_meet
        case rel => exact ⟨by rw [E1.out], rfl⟩
    case rest =>
      obtain ⟨rfl, rfl⟩ := hcut
      have wb : ∀ k, k ≤ nb → 1 ≤ wB o bA k ∧ wB o bA k ≤ 536870912 := fun k hk => wB_bd (S := bS) HL.out.ho k (fun i hi => HL.out.okB i (by omega))
      have WB : Hid (∀ k, k ≤ nb → 1 ≤ wB o bA k ∧ wB o bA k ≤ 536870912) := wb
      clear wb
      go_wp2
      go_loop [12, 13, 14] (fun b e i => ∃ k : Nat, k ≤ nb ∧ i = .int .i64 k ∧ b = .int .i64 (wB o bA k) ∧ e = .int .i64 (sumS bS k)) (fun _ _ i => nb - (intOf i).toNat)
      case atStart => exact ⟨0, Nat.zero_le _, rfl, rfl, rfl⟩
      case round =>
        obtain ⟨k, hk, rfl, rfl, rfl⟩ := hrel
        by_cases hlt : k < nb
        · rcases q1 with hz | ⟨b, off, rfl, hb, hc⟩
          · omega
          have y1 := (hc k hlt).1
          have y2 := (hc k hlt).2
          have HE : Hid (sumS bS (k + 1) = sumS bS k + bS k) := rfl
          have HW : Hid (wB o bA (k + 1) = mx (wB o bA k) (bA k)) := rfl
          have b1 := HL.out.okB k hlt
          have b2 := WB.out k hk
          have b3 := HL.out.sb k hk
          clear hc q2 rI
          generalize sumS bS k = sk at *
          generalize wB o bA k = wk at *
          by_cases hA : wk < bA k
          · have d1 : decide (wk < bA k) = true := decide_eq_true hA
            go_wp2
            go_round
            case rel => exact ⟨k + 1, by omega, by go_num, by rw [HW.out]; unfold mx; rw [if_pos hA], by rw [HE.out]⟩
            case measure => simp [intOf]; omega
          · have d1 : decide (wk < bA k) = false := decide_eq_false hA
            go_wp2
            go_round
            case rel => exact ⟨k + 1, by omega, by go_num, by rw [HW.out]; unfold mx; rw [if_neg hA], by rw [HE.out]⟩
            case measure => simp [intOf]; omega
        · obtain rfl : k = nb := by omega
          clear q1
          have WF : Hid (∀ j, j ≤ nf → 1 ≤ wF (wB o bA k) fA j ∧ wF (wB o bA k) fA j ≤ 536870912) := fun j hj => wF_bd (S := fS) (P := fP) (WB.out k (Nat.le_refl _)) j (fun i hi => HL.out.okF i (by omega))
          have HAL : Hid (al = wF (wB o bA k) fA nf) := HL.out.hal
          have HE0 : Hid (E 0 = sumS bS k) := HL.out.e0
          generalize wB o bA k = wk at *
          generalize sumS bS k = sk at *
          clear WB
          go_wp2
          go_loop [12, 15] (fun b i => ∃ j : Nat, j ≤ nf ∧ i = .int .i64 j ∧ b = .int .i64 (wF wk fA j)) (fun _ i => nf - (intOf i).toNat)
          case atStart => exact ⟨0, Nat.zero_le _, rfl, rfl⟩
          case round =>
            obtain ⟨j, hj, rfl, rfl⟩ := hrel
            by_cases hlt : j < nf
            · rcases q2 with hz | ⟨b, off, rfl, hb, hc⟩
              · omega
              have y2 := (hc j hlt).2.1
              have HW : Hid (wF wk fA (j + 1) = mx (wF wk fA j) (fA j)) := rfl
              have b1 := HL.out.okF j hlt
              have b2 := WF.out j hj
              clear hc rI
              generalize wF wk fA j = wj at *
              by_cases hA : wj < fA j
              · have d1 : decide (wj < fA j) = true := decide_eq_true hA
                go_wp2
                go_round
                case rel => exact ⟨j + 1, by omega, by go_num, by rw [HW.out]; unfold mx; rw [if_pos hA]⟩
                case measure => simp [intOf]; omega
              · have d1 : decide (wj < fA j) = false := decide_eq_false hA
                go_wp2
                go_round
                case rel => exact ⟨j + 1, by omega, by go_num, by rw [HW.out]; unfold mx; rw [if_neg hA]⟩
                case measure => simp [intOf]; omega
            · obtain rfl : j = nf := by omega
              have HAL' := HAL.out
              rw [← HAL']
              clear HAL' HAL WF
              have b1 := HL.out.z0
              have b2 := HL.out.zm
              have b3 := HL.out.al1
              have b4 := HL.out.al2
              have b5 := HL.out.zb
              go_wp2
              have HE0' := HE0.out
              rw [← HE0']
              clear HE0 HE0'
              go_loopw [13, 16] (fun e i wr => ∃ m : Nat, m ≤ j ∧ i = .int .i64 m ∧ e = .int .i64 (E m) ∧ Below wc.heap.size wc wr) (fun _ i _ => j - (intOf i).toNat)
              case atStart => exact ⟨0, Nat.zero_le _, rfl, rfl, Below.refl _ _⟩
              case round =>
                obtain ⟨m, hm, rfl, rfl, hbel⟩ := hrel
                by_cases hlt : m < j
                · rcases q2 with hz | ⟨b, off, rfl, hb, hc⟩
                  · omega
                  obtain ⟨q1, q2, q3⟩ := hc m hlt
                  have y1 := (hbel.cell (p := ⟨b, off + m * 3, none⟩) hb).trans q1
                  have y2 := (hbel.cell (p := ⟨b, off + m * 3 + 1, none⟩) hb).trans q2
                  have y3 := (hbel.cell (p := ⟨b, off + m * 3 + 2, none⟩) hb).trans q3
                  rcases rI with hz | ⟨b', off', hX, hb', hc'⟩
                  · omega
                  have x := hc' m hlt
                  simp only [Option.some.injEq, Addr.mk.injEq, and_true] at hX
                  obtain ⟨rfl, rfl⟩ := hX
                  rw [Nat.zero_add] at x
                  have x1 := (hbel.cell (p := ⟨g, m, none⟩) hb').trans x
                  have R : ∀ o : Obj, Below wc.heap.size wc (wr.alloc o) := fun o => hbel.alloc hbel.size o
                  have gl : g < wr.heap.size := Nat.lt_of_lt_of_le hb' hbel.size
                  have HS : Hid (E (m + 1) = OF m + fS m) := HL.out.es m
                  obtain ⟨f1, f2, f3, f4, f5⟩ := HL.out.fld m hlt
                  have eb := HL.out.eb m hm
                  have okf := HL.out.okF m hlt
                  clear hc hc' q1 q2 q3 x hbel b1 b2 b3 b4 b5
                  generalize E m = e at *
                  generalize OF m = at_ at *
                  generalize fS m = fs at *
                  generalize fA m = fa at *
                  generalize fP m = fp at *
                  have HR : Hid (∀ o : Obj, Below wc.heap.size wc (wr.alloc o)) := R
                  clear R
                  by_cases hp : 0 < fp
                  · have dp : decide (0 < fp) = true := decide_eq_true hp
                    have ep : pos fp = fp := by unfold pos; rw [if_pos hp]
                    rw [ep] at f1 f3
                    clear ep
                    by_cases h2 : 0 < m
                    · have d2 : decide (0 < (m : Int)) = true := decide_eq_true (by omega)
                      have f3' := f3 (Or.inl h2)
                      clear f3
                      go_wp2
                      go_roundw
                      case rel => exact ⟨m + 1, by omega, by go_num, by rw [HS.out], HR.out _⟩
                      case measure => simp [intOf]; omega
                    · have d2 : decide (0 < (m : Int)) = false := decide_eq_false (by omega)
                      by_cases h3 : k = 0
                      · have d3 : ((k : Int) == 0) = true := by simp [h3]
                        have f3' := f3 (Or.inr h3)
                        clear f3 h3
                        go_wp2
                        go_roundw
                        case rel => exact ⟨m + 1, by omega, by go_num, by rw [HS.out], HR.out _⟩
                        case measure => simp [intOf]; omega
                      · have d3 : ((k : Int) == 0) = false := by simp [h3]
                        clear f3
                        go_wp2
                        go_roundw
                        case rel => exact ⟨m + 1, by omega, by go_num, by rw [HS.out], HR.out _⟩
                        case measure => simp [intOf]; omega
                  · have dp : decide (0 < fp) = false := decide_eq_false hp
                    have ep : pos fp = 0 := by unfold pos; rw [if_neg hp]
                    rw [ep] at f1 f3
                    clear ep
                    by_cases h2 : 0 < m
                    · have d2 : decide (0 < (m : Int)) = true := decide_eq_true (by omega)
                      have f3' := f3 (Or.inl h2)
                      clear f3
                      go_wp2
                      go_roundw
                      case rel => exact ⟨m + 1, by omega, by go_num, by rw [HS.out], HR.out _⟩
                      case measure => simp [intOf]; omega
                    · have d2 : decide (0 < (m : Int)) = false := decide_eq_false (by omega)
                      by_cases h3 : k = 0
                      · have d3 : ((k : Int) == 0) = true := by simp [h3]
                        have f3' := f3 (Or.inr h3)
                        clear f3 h3
                        go_wp2
                        go_roundw
                        case rel => exact ⟨m + 1, by omega, by go_num, by rw [HS.out], HR.out _⟩
                        case measure => simp [intOf]; omega
                      · have d3 : ((k : Int) == 0) = false := by simp [h3]
                        clear f3
                        go_wp2
                        go_roundw
                        case rel => exact ⟨m + 1, by omega, by go_num, by rw [HS.out], HR.out _⟩
                        case measure => simp [intOf]; omega
                · obtain rfl : m = j := by omega
                  have HR : Hid (Below w.heap.size w wr) := HB4.out.trans (hbel.mono HB4.out.size)
                  have ze := HL.out.ze
                  have eb := HL.out.eb m (Nat.le_refl _)
                  have ht := HL.out.ht
                  have HLA : Hid (pos t = 0 → 0 < m → fS (m - 1) = 0 → 0 < z → OF (m - 1) < z) := HL.out.last
                  generalize E m = e at *
                  by_cases hp : 0 < t
                  · have dp : decide (0 < t) = true := decide_eq_true hp
                    have ep : pos t = t := by unfold pos; rw [if_pos hp]
                    rw [ep] at ze
                    have d4 : (t == 0) = false := by simp; omega
                    clear ep q2 rI HLA hbel HL
                    go_wp2
                    go_ret
                    exact ⟨rfl, HR.out⟩
                  · have dp : decide (0 < t) = false := decide_eq_false hp
                    have ep : pos t = 0 := by unfold pos; rw [if_neg hp]
                    rw [ep] at ze
                    by_cases hm0 : 0 < m
                    · have d5 : decide (0 < (m : Int)) = true := decide_eq_true (by omega)
                      rcases q2 with hz | ⟨b, off, rfl, hb, hc⟩
                      · omega
                      obtain ⟨q1, _, _⟩ := hc (m - 1) (by omega)
                      have y1 := (hbel.cell (p := ⟨b, off + (m - 1) * 3, none⟩) hb).trans q1
                      rcases rI with hz | ⟨b', off', hX, hb', hc'⟩
                      · omega
                      have x := hc' (m - 1) (by omega)
                      simp only [Option.some.injEq, Addr.mk.injEq, and_true] at hX
                      obtain ⟨rfl, rfl⟩ := hX
                      rw [Nat.zero_add] at x
                      have x1 := (hbel.cell (p := ⟨g, m - 1, none⟩) hb').trans x
                      have gl : g < wr.heap.size := Nat.lt_of_lt_of_le hb' hbel.size
                      have HLB := HLA.out ep hm0
                      clear hc hc' q1 x hbel HLA ep HL
                      by_cases h5 : fS (m - 1) = 0
                      · have d6 : (fS (m - 1) == 0) = true := by simp [h5]
                        by_cases h6 : 0 < z
                        · have d7 : decide (0 < z) = true := decide_eq_true h6
                          have h7 := HLB h5 h6
                          clear HLB h5
                          go_wp2
                          go_ret
                          exact ⟨rfl, HR.out⟩
                        · have d7 : decide (0 < z) = false := decide_eq_false h6
                          clear HLB h5
                          go_wp2
                          go_ret
                          exact ⟨rfl, HR.out⟩
                      · have d6 : (fS (m - 1) == 0) = false := by simp [h5]
                        clear HLB h5
                        go_wp2
                        go_ret
                        exact ⟨rfl, HR.out⟩
                    · have d5 : decide (0 < (m : Int)) = false := decide_eq_false (by omega)
                      clear q2 rI HLA hbel HL
                      go_wp2
                      go_ret
                      exact ⟨rfl, HR.out⟩

set_option maxRecDepth 100000 in
set_option maxHeartbeats 1000000 in
theorem law3_no (o t : Int) (nb nf c1 c2 : Nat) (a1 a2 : Option Addr) (w : World) (h0 : ¬ nb + nf ≤ 1048576) :
    Calls Try.prog 3 #[.int .i64 o, .slice a1 nb c1, .slice a2 nf c2, .int .i64 t] w fun e w' => e = .returned (.bool true) ∧ Below w.heap.size w w' := by
  go_enter Try.func3, Try.ntmps3
  go_wp2_with fail
  refine (zz11_no o t a1 a2 nb c1 nf c2 w h0).mono ?_
  rintro e w' ⟨rfl, rfl⟩
  go_wp2
  go_ret
  exact ⟨rfl, Below.refl _ _⟩
set_option maxRecDepth 100000 in
set_option maxHeartbeats 1000000 in
theorem law3_big (o t : Int) (nb nf c1 c2 : Nat) (a1 a2 : Option Addr) (w : World) (h0 : nb + nf ≤ 1048576) (h : ¬ (nb ≤ 4096 ∧ nf ≤ 4096 ∧ 16 * nb + 24 * nf ≤ 1048576)) :
    Calls Try.prog 3 #[.int .i64 o, .slice a1 nb c1, .slice a2 nf c2, .int .i64 t] w fun e w' => e = .returned (.bool true) ∧ Below w.heap.size w w' := by
  go_enter Try.func3, Try.ntmps3
  go_wp2_with fail
  refine (zz11_yes o t a1 a2 nb c1 nf c2 w h0).mono ?_
  rintro e w' ⟨rfl, rfl⟩
  go_wp2_with fail
  refine (big12_yes a1 a2 nb c1 nf c2 w h0 h).mono ?_
  rintro e w' ⟨rfl, rfl⟩
  go_wp2
  go_ret
  exact ⟨rfl, Below.refl _ _⟩

theorem law3 (o t : Int) (nb nf c1 c2 : Nat) (a1 a2 : Option Addr) (bS bA fS fA fP : Nat → Int) (w : World)
    (z1 : a1 = none → nb = 0) (z2 : a2 = none → nf = 0) (r1 : RowB w a1 nb bS bA) (r2 : RowF w a2 nf fS fA fP) :
    Calls Try.prog 3 #[.int .i64 o, .slice a1 nb c1, .slice a2 nf c2, .int .i64 t] w fun e w' => e = .returned (.bool true) ∧ Below w.heap.size w w' := by
  by_cases h0 : nb + nf ≤ 1048576
  · by_cases h : nb ≤ 4096 ∧ nf ≤ 4096 ∧ 16 * nb + 24 * nf ≤ 1048576
    · exact law3_main o t nb nf c1 c2 a1 a2 bS bA fS fA fP w h0 h.1 h.2.1 h.2.2 z1 z2 r1 r2
    · exact law3_big o t nb nf c1 c2 a1 a2 w h0 h
  · exact law3_no o t nb nf c1 c2 a1 a2 w h0

end Go.Proofs.Qxb6600004a
