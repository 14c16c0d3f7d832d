import Derived.Test.Qxb6600004aLf
namespace Go.Proofs.Qxb6600004a
open Go.RowKit
namespace LO
def emB (t : Int) (S : Nat → Int) : Nat → Bool
  | 0 => decide (t ≤ 0)
  | k + 1 => emB t S k && (S k == 0)
def emF (b : Bool) (S P : Nat → Int) : Nat → Bool
  | 0 => b
  | k + 1 => emF b S P k && ((S k == 0) && decide (P k ≤ 0))
theorem emB_iff {t : Int} {S : Nat → Int} : ∀ k, emB t S k = true ↔ t ≤ 0 ∧ ∀ i, i < k → S i = 0
  | 0 => by simp [emB]
  | k + 1 => by
    simp only [emB, Bool.and_eq_true, emB_iff k, beq_iff_eq]
    constructor
    · rintro ⟨⟨h, h1⟩, h2⟩
      refine ⟨h, fun i hi => ?_⟩
      by_cases e : i = k
      · rw [e]; exact h2
      · exact h1 i (by omega)
    · rintro ⟨h, h1⟩
      exact ⟨⟨h, fun i hi => h1 i (by omega)⟩, h1 k (by omega)⟩
theorem emF_iff {b : Bool} {S P : Nat → Int} : ∀ k, emF b S P k = true ↔ b = true ∧ ∀ i, i < k → S i = 0 ∧ P i ≤ 0
  | 0 => by simp [emF]
  | k + 1 => by
    simp only [emF, Bool.and_eq_true, emF_iff k, beq_iff_eq, decide_eq_true_eq]
    constructor
    · rintro ⟨⟨h, h1⟩, h2⟩
      refine ⟨h, fun i hi => ?_⟩
      by_cases e : i = k
      · rw [e]; exact h2
      · exact h1 i (by omega)
    · rintro ⟨h, h1⟩
      exact ⟨⟨h, fun i hi => h1 i (by omega)⟩, h1 k (by omega)⟩

theorem zero_place {s : LS} {m sz a : Int} (h : Ok s m) (h1 : 0 ≤ sz) (h2 : 1 ≤ a) : (s.place sz a).e = 0 ↔ s.e = 0 ∧ sz = 0 := by
  show ru s.e a + sz = 0 ↔ _
  have g := ru_ge (n := s.e) h2
  have := h.1
  constructor
  · intro e; omega
  · rintro ⟨e, rfl⟩
    rw [e, ru_zero h2]; rfl
theorem zero_pre {s : LS} {m p : Int} (h : Ok s m) : (pre s p).e = 0 ↔ s.e = 0 ∧ p ≤ 0 := by
  unfold pre
  split
  · rw [zero_place h (by omega) (by omega)]
    omega
  · omega
theorem zero_stB {o : Int} {S A : Nat → Int} (ho : o ≤ 536870912) : ∀ k, OkB S A k → ((stB o S A k).e = 0 ↔ ∀ i, i < k → S i = 0)
  | 0, _ => by
    have := ok_s0 ho
    constructor
    · intro _ i hi; omega
    · intro _
      show (s0 o).e = 0
      unfold s0
      split
      · show ru 0 o + 0 = 0
        rw [ru_zero (by omega)]; rfl
      · rfl
  | k + 1, h => by
    have hk : OkB S A k := fun i hi => h i (by omega)
    have := h k (by omega)
    rw [show stB o S A (k + 1) = (stB o S A k).place (S k) (A k) from rfl, zero_place (ok_stB ho k hk) (by omega) (by omega), zero_stB ho k hk]
    constructor
    · rintro ⟨h1, h2⟩ i hi
      by_cases e : i = k
      · rw [e]; exact h2
      · exact h1 i (by omega)
    · intro h1
      exact ⟨fun i hi => h1 i (by omega), h1 k (by omega)⟩
theorem zero_stF {s : LS} {m : Int} {S A P : Nat → Int} (hs : Ok s m) : ∀ k, OkF S A P k → ((stF s S A P k).e = 0 ↔ s.e = 0 ∧ ∀ i, i < k → S i = 0 ∧ P i ≤ 0)
  | 0, _ => by
    show s.e = 0 ↔ _
    constructor
    · intro h; exact ⟨h, fun i hi => by omega⟩
    · exact fun h => h.1
  | k + 1, h => by
    have hk : OkF S A P k := fun i hi => h i (by omega)
    have := h k (by omega)
    rw [show stF s S A P (k + 1) = (pre (stF s S A P k) (P k)).place (S k) (A k) from rfl, zero_place (ok_stF hs k hk).pre (by omega) (by omega), zero_pre (ok_stF hs k hk), zero_stF hs k hk]
    constructor
    · rintro ⟨⟨⟨h0, h1⟩, h2⟩, h3⟩
      refine ⟨h0, fun i hi => ?_⟩
      by_cases e : i = k
      · rw [e]; exact ⟨h3, h2⟩
      · exact h1 i (by omega)
    · rintro ⟨h0, h1⟩
      exact ⟨⟨⟨h0, fun i hi => h1 i (by omega)⟩, (h1 k (by omega)).2⟩, (h1 k (by omega)).1⟩
theorem size_zero {s : LS} {m : Int} (h : Ok s m) : ru (endF s) s.al = 0 ↔ s.e = 0 := by
  have h1 := h.1
  have h3 := h.2.2.1
  have g := ru_ge (n := endF s) h3
  constructor
  · intro e
    have : s.e ≤ endF s := by unfold endF; split <;> omega
    omega
  · intro e
    have : endF s = 0 := by unfold endF; rw [if_neg (by omega)]; exact e
    rw [this, ru_zero h3]

/-- THE PLAIN LAW: the size is 0 just where nothing has a byte. -/
theorem law_zero {o t : Int} {nb nf : Nat} {bS bA fS fA fP : Nat → Int} (h : Shape o nb bS bA nf fS fA fP t) {s : LS} (hs : s = pre (stF (stB o bS bA nb) fS fA fP nf) t) :
    (ru (endF s) s.al == 0) = emF (emB t bS nb) fS fP nf := by
  have k1 := ok_stB h.ho nb h.okB
  have k2 := ok_stF k1 nf h.okF
  have k3 := k2.pre (p := t)
  rw [← hs] at k3
  rw [Bool.eq_iff_iff, beq_iff_eq, size_zero k3, hs, zero_pre k2, zero_stF k1 nf h.okF, zero_stB h.ho nb h.okB, emF_iff, emB_iff]
  constructor
  · rintro ⟨⟨a, b⟩, c⟩; exact ⟨⟨c, a⟩, b⟩
  · rintro ⟨⟨c, a⟩, b⟩; exact ⟨⟨a, b⟩, c⟩
theorem law_off {o t : Int} {nb nf : Nat} {bS bA fS fA fP : Nat → Int} (h : Shape o nb bS bA nf fS fA fP t) (he : emF (emB t bS nb) fS fP nf = true) (j : Nat) (hj : j < nf) :
    offF (stB o bS bA nb) fS fA fP j = 0 := by
  have k1 := ok_stB h.ho nb h.okB
  have okj : OkF fS fA fP j := fun i hi => h.okF i (by omega)
  have k2 := ok_stF k1 j okj
  rw [emF_iff, emB_iff] at he
  have e1 : (stF (stB o bS bA nb) fS fA fP j).e = 0 := (zero_stF k1 j okj).2 ⟨(zero_stB h.ho nb h.okB).2 he.1.2, fun i hi => he.2 i (by omega)⟩
  have e2 : (pre (stF (stB o bS bA nb) fS fA fP j) (fP j)).e = 0 := (zero_pre k2).2 ⟨e1, (he.2 j hj).2⟩
  have := h.okF j hj
  unfold offF
  rw [e2, ru_zero (by omega)]
end LO
open LO

/-- What both laws say of their first steps: too big, or of no shape: true; else on with copies. -/
abbrev TruePost (w : World) (e : Ending) (w' : World) : Prop := e = .returned (.bool true) ∧ Below w.heap.size w w'

set_option maxRecDepth 100000 in
set_option maxHeartbeats 2000000 in
theorem law5_main (o t : Int) (nb nf c1 c2 : Nat) (a1 a2 : Option Addr) (bS bA fS fA fP : Nat → Int) (w : World) (h0 : nb + nf ≤ 1048576) (hnb : nb ≤ 4096) (hnf : nf ≤ 4096) (h16 : 16 * nb + 24 * nf ≤ 1048576)
    (z1 : a1 = none → nb = 0) (z2 : a2 = none → nf = 0) (r1 : RowB w a1 nb bS bA) (r2 : RowF w a2 nf fS fA fP) :
    Calls Try.prog 5 #[.int .i64 o, .slice a1 nb c1, .slice a2 nf c2, .int .i64 t] w fun e w' => e = .returned (.bool true) ∧ Below w.heap.size w w' := by
  go_enter Try.func5, Try.ntmps5
  go_wp2_with fail
  refine (zz19_yes o t a1 a2 nb c1 nf c2 w h0).mono ?_
  rintro e w' ⟨rfl, rfl⟩
  go_wp2_with fail
  refine (big12_no a1 a2 nb c1 nf c2 w hnb hnf h16).mono ?_
  rintro e w' ⟨rfl, rfl⟩
  go_wp2_with fail
  refine (shape13 o t a1 a2 nb c1 nf c2 bS bA fS fA fP w hnb hnf r1 r2).mono ?_
  rintro e w1 ⟨b, rfl, hb, hw1⟩
  cases b with
  | false =>
    clear hb r1 r2
    go_wp2
    go_ret
    exact ⟨rfl, hw1⟩
  | true =>
    have hsh := hb rfl
    have r1' := r1.below hw1
    have r2' := r2.below hw1
    clear hb r1 r2
    have HSH : Hid (Shape o nb bS bA nf fS fA fP t) := hsh
    clear hsh
    go_wp2_with fail
    refine (clone14 a1 nb c1 w1 bS bA r1' z1 hnb).mono ?_
    rintro e w2 ⟨d1, rfl, rd1, hw2⟩
    have r2'' := r2'.below hw2
    clear r1' r2'
    go_wp2_with fail
    refine (clone15 a2 nf c2 w2 fS fA fP r2'' z2 hnf).mono ?_
    rintro e w3 ⟨d2, rfl, rd2, hw3⟩
    have rd1' := rd1.below hw3
    have HB : Hid (Below w.heap.size w w3) := (hw1.trans (hw2.mono hw1.size)).trans (hw3.mono (Nat.le_trans hw1.size hw2.size))
    clear hw1 hw2 hw3 rd1 r2''
    go_wp2_with fail
    refine (run16 o t nb nf nb nf d1 d2 bS bA fS fA fP w3 hnb hnf rd1' rd2 HSH.out).mono ?_
    rintro e w4 ⟨g, s, hs, rfl, rI, hw4⟩
    have q1 := rd1'.below hw4
    have q2 := rd2.below hw4
    have HB4 : Hid (Below w.heap.size w w4) := HB.out.trans (hw4.mono HB.out.size)
    have hlaw := law_zero HSH.out hs
    have hoff := law_off HSH.out
    clear rd1' rd2 hw4 HB
    obtain ⟨z, hz⟩ : ∃ z : Int, z = ru (endF s) s.al := ⟨_, rfl⟩
    rw [← hz] at hlaw
    rw [← hz]
    have HL : Hid ((z == 0) = emF (emB t bS nb) fS fP nf) := hlaw
    have HOF : Hid (∀ (_ : emF (emB t bS nb) fS fP nf = true) (j : Nat), j < nf → offF (stB o bS bA nb) fS fA fP j = 0) := hoff
    clear hlaw hoff hz hs HSH
    generalize offF (stB o bS bA nb) fS fA fP = OF at *
    go_wp2
    go_loop [12, 13] (fun b i => ∃ k : Nat, k ≤ nb ∧ i = .int .i64 k ∧ b = .bool (emB t bS k)) (fun _ i => nb - (intOf i).toNat)
    case atStart => exact ⟨0, Nat.zero_le _, rfl, rfl⟩
    case round =>
      obtain ⟨k, hk, rfl, rfl⟩ := hrel
      by_cases hlt : k < nb
      · rcases q1 with hz | ⟨b, off, rfl, hb, hc⟩
        · omega
        have y1 := (hc k hlt).1
        have HE : Hid (emB t bS (k + 1) = (emB t bS k && (bS k == 0))) := rfl
        clear hc q2 rI
        generalize emB t bS k = eb at *
        by_cases hS : bS k = 0
        · have d1 : (bS k != 0) = false := by simp [hS]
          have HS : Hid (bS k = 0) := hS
          clear hS
          go_wp2
          go_round
          case rel => exact ⟨k + 1, by omega, by go_num, by rw [HE.out, HS.out]; simp⟩
          case measure => simp [intOf]; omega
        · have d1 : (bS k != 0) = true := by simp [hS]
          have HS : Hid (¬ bS k = 0) := hS
          clear hS
          go_wp2
          go_round
          case rel => exact ⟨k + 1, by omega, by go_num, by rw [HE.out]; simp [HS.out]⟩
          case measure => simp [intOf]; omega
      · obtain rfl : k = nb := by omega
        clear q1
        generalize emB t bS k = eb at *
        go_wp2
        go_loop [12, 14] (fun b i => ∃ j : Nat, j ≤ nf ∧ i = .int .i64 j ∧ b = .bool (emF eb fS fP j)) (fun _ i => nf - (intOf i).toNat)
        case atStart => exact ⟨0, Nat.zero_le _, rfl, rfl⟩
        case round =>
          obtain ⟨j, hj, rfl, rfl⟩ := hrel
          by_cases hlt : j < nf
          · rcases q2 with hz | ⟨b, off, rfl, hb, hc⟩
            · omega
            have y1 := (hc j hlt).1
            have y3 := (hc j hlt).2.2
            have HE : Hid (emF eb fS fP (j + 1) = (emF eb fS fP j && ((fS j == 0) && decide (fP j ≤ 0)))) := rfl
            clear hc rI
            generalize emF eb fS fP j = ef at *
            by_cases hS : fS j = 0
            · have d1 : (fS j != 0) = false := by simp [hS]
              have HS : Hid (fS j = 0) := hS
              clear hS
              by_cases hP : 0 < fP j
              · have d2 : decide (0 < fP j) = true := decide_eq_true hP
                go_wp2
                go_round
                case rel => exact ⟨j + 1, by omega, by go_num, by rw [HE.out, HS.out]; simp; omega⟩
                case measure => simp [intOf]; omega
              · have d2 : decide (0 < fP j) = false := decide_eq_false hP
                have HP : Hid (decide (fP j ≤ 0) = true) := decide_eq_true (by omega)
                go_wp2
                go_round
                case rel => exact ⟨j + 1, by omega, by go_num, by rw [HE.out, HS.out, HP.out]; simp⟩
                case measure => simp [intOf]; omega
            · have d1 : (fS j != 0) = true := by simp [hS]
              have HS : Hid (¬ fS j = 0) := hS
              clear hS
              go_wp2
              go_round
              case rel => exact ⟨j + 1, by omega, by go_num, by rw [HE.out]; simp [HS.out]⟩
              case measure => simp [intOf]; omega
          · obtain rfl : j = nf := by omega
            clear q2
            generalize emF eb fS fP j = em at *
            cases em with
            | false =>
              have hzz : (z == 0) = false := HL.out
              clear HL HOF rI
              go_wp2
              go_ret
              exact ⟨rfl, HB4.out⟩
            | true =>
              have hzz : (z == 0) = true := HL.out
              have ho := HOF.out rfl
              have HO : Hid (∀ i, i < j → OF i = 0) := ho
              clear HL HOF ho
              go_wp2
              go_loop [15] (fun i => ∃ k : Nat, k ≤ j ∧ i = .int .i64 k) (fun i => j - (intOf i).toNat)
              case atStart => exact ⟨0, Nat.zero_le _, rfl⟩
              case round =>
                obtain ⟨m, hm, rfl⟩ := hrel
                by_cases hlt : m < j
                · rcases rI with hz | ⟨b, off, hX, hb, hc⟩
                  · omega
                  have y := hc m hlt
                  simp only [Option.some.injEq, Addr.mk.injEq, and_true] at hX
                  obtain ⟨rfl, rfl⟩ := hX
                  rw [HO.out m hlt, Nat.zero_add] at y
                  clear hc
                  go_wp2
                  go_round
                  case rel => exact ⟨m + 1, by omega, by go_num⟩
                  case measure => simp [intOf]; omega
                · go_wp2
                  go_ret
                  exact ⟨rfl, HB4.out⟩

end Go.Proofs.Qxb6600004a
