import Derived.Test.Qxb6600004aLa
namespace Go.Proofs.Qxb6600004a
open Go.RowKit
namespace LO

/-- The positive part. -/
def pos (x : Int) : Int := if 0 < x then x else 0
theorem pos_nonneg (x : Int) : 0 ≤ pos x := by unfold pos; split <;> omega

/-- The sum of sizes and alignments of the first k blanks; of sizes, alignments and pads of the first k fields. -/
def sB (S A : Nat → Int) : Nat → Int
  | 0 => 0
  | k + 1 => sB S A k + (S k + A k)
def sF (S A P : Nat → Int) : Nat → Int
  | 0 => 0
  | k + 1 => sF S A P k + (S k + A k + pos (P k))

def OkB (S A : Nat → Int) (k : Nat) : Prop := ∀ i, i < k → 0 ≤ S i ∧ S i ≤ 536870912 ∧ 1 ≤ A i ∧ A i ≤ 536870912
def OkF (S A P : Nat → Int) (k : Nat) : Prop := ∀ i, i < k → 0 ≤ S i ∧ S i ≤ 536870912 ∧ 1 ≤ A i ∧ A i ≤ 536870912 ∧ P i ≤ 536870912

theorem OkB.succ {S A : Nat → Int} {k : Nat} (h : OkB S A k) (hk : 0 ≤ S k ∧ S k ≤ 536870912 ∧ 1 ≤ A k ∧ A k ≤ 536870912) : OkB S A (k + 1) := fun i hi => by
  by_cases e : i = k
  · subst e; exact hk
  · exact h i (by omega)
theorem OkF.succ {S A P : Nat → Int} {k : Nat} (h : OkF S A P k) (hk : 0 ≤ S k ∧ S k ≤ 536870912 ∧ 1 ≤ A k ∧ A k ≤ 536870912 ∧ P k ≤ 536870912) : OkF S A P (k + 1) := fun i hi => by
  by_cases e : i = k
  · subst e; exact hk
  · exact h i (by omega)

/-- What gb1LOShape makes sure of. -/
structure Shape (o : Int) (nb : Nat) (bS bA : Nat → Int) (nf : Nat) (fS fA fP : Nat → Int) (t : Int) : Prop where
  ho : o ≤ 536870912
  ht : t ≤ 536870912
  okB : OkB bS bA nb
  okF : OkF fS fA fP nf
  sum : pos o + pos t + sB bS bA nb + sF fS fA fP nf ≤ 536870912

/-- Blanks, fields: the cells of a slice of structs. -/
def RowB (w : World) (a : Option Addr) (n : Nat) (S A : Nat → Int) : Prop :=
  n = 0 ∨ ∃ b off, a = some ⟨b, off, none⟩ ∧ b < w.heap.size ∧ ∀ i, i < n → w.cell? ⟨b, off + i * 2, none⟩ = some (.int .i64 (S i)) ∧ w.cell? ⟨b, off + i * 2 + 1, none⟩ = some (.int .i64 (A i))
def RowF (w : World) (a : Option Addr) (n : Nat) (S A P : Nat → Int) : Prop :=
  n = 0 ∨ ∃ b off, a = some ⟨b, off, none⟩ ∧ b < w.heap.size ∧ ∀ i, i < n → w.cell? ⟨b, off + i * 3, none⟩ = some (.int .i64 (S i)) ∧ w.cell? ⟨b, off + i * 3 + 1, none⟩ = some (.int .i64 (A i)) ∧ w.cell? ⟨b, off + i * 3 + 2, none⟩ = some (.int .i64 (P i))
end LO
open LO

/-- What gb1LOShape answers. -/
def ShapePost (o : Int) (nb : Nat) (bS bA : Nat → Int) (nf : Nat) (fS fA fP : Nat → Int) (t : Int) (w : World) (e : Ending) (w' : World) : Prop :=
  ∃ b, e = .returned (.bool b) ∧ (b = true → Shape o nb bS bA nf fS fA fP t) ∧ Below w.heap.size w w'

set_option maxRecDepth 100000 in
set_option maxHeartbeats 1000000 in
theorem shape13 (o t : Int) (a1 a2 : Option Addr) (n1 c1 n2 c2 : Nat) (bS bA fS fA fP : Nat → Int) (w : World) (h1 : n1 ≤ 4096) (h2 : n2 ≤ 4096)
    (r1 : RowB w a1 n1 bS bA) (r2 : RowF w a2 n2 fS fA fP) :
    Calls Try.prog 13 #[.int .i64 o, .slice a1 n1 c1, .slice a2 n2 c2, .int .i64 t] w (ShapePost o n1 bS bA n2 fS fA fP t w) := by
  by_cases ho : (536870912 : Int) < o
  · have d1 : decide ((536870912 : Int) < o) = true := decide_eq_true ho
    go_enter Try.func13, Try.ntmps13
    go_wp2
    go_ret
    exact ⟨false, rfl, (by simp), Below.refl _ _⟩
  have d1 : decide ((536870912 : Int) < o) = false := decide_eq_false ho
  by_cases ht : (536870912 : Int) < t
  · have d2 : decide ((536870912 : Int) < t) = true := decide_eq_true ht
    go_enter Try.func13, Try.ntmps13
    go_wp2
    go_ret
    exact ⟨false, rfl, (by simp), Below.refl _ _⟩
  have d2 : decide ((536870912 : Int) < t) = false := decide_eq_false ht
  have p1 := pos_nonneg o
  have p2 := pos_nonneg t
  have p3 : pos o ≤ 536870912 := by unfold pos; split <;> omega
  have p4 : pos t ≤ 536870912 := by unfold pos; split <;> omega
  go_enter Try.func13, Try.ntmps13
  go_upto_if 20 with fail
  go_cut [9] from 13 (fun s9 w' => s9 = .int .i64 (pos o) ∧ w' = w)
  case first =>
    by_cases hp : (0 : Int) < o
    · have e : pos o = o := by unfold pos; rw [if_pos hp]
      have E : Hid (pos o = o) := e
      clear e p3 p1
      go_wp2
      go_meet
      case rel => exact ⟨by rw [E.out], rfl⟩
    · have e : pos o = 0 := by unfold pos; rw [if_neg hp]
      have E : Hid (pos o = 0) := e
      clear e p3 p1
      go_wp2
      go_meet
      case rel => exact ⟨by rw [E.out], rfl⟩
  case rest =>
    obtain ⟨rfl, rfl⟩ := hcut
    go_upto_if 23 with fail
    go_cut [9] from 13 (fun s9 w' => s9 = .int .i64 (pos o + pos t) ∧ w' = wc)
    case first =>
      by_cases hp : (0 : Int) < t
      · have e : pos t = t := by unfold pos; rw [if_pos hp]
        have E : Hid (pos t = t) := e
        clear e p4 p2
        go_wp2
        go_meet
        case rel => exact ⟨by rw [E.out], rfl⟩
      · have e : pos t = 0 := by unfold pos; rw [if_neg hp]
        have E : Hid (pos t = 0) := e
        clear e p4 p2
        go_wp2
        go_meet
        case rel => exact ⟨by rw [E.out]; simp, rfl⟩
    case rest =>
      obtain ⟨rfl, rfl⟩ := hcut
      obtain ⟨T, hT⟩ : ∃ T, T = pos o + pos t := ⟨_, rfl⟩
      rw [← hT]
      have HT : Hid (T = pos o + pos t) := hT
      have t0 : 0 ≤ T := by omega
      have t1 : T ≤ 1073741824 := by omega
      clear hT p1 p2 p3 p4
      by_cases hTL : (536870912 : Int) < T
      · go_wp2
        go_ret
        exact ⟨false, rfl, (by simp), Below.refl _ _⟩
      go_wp2
      go_loop [9, 10] (fun tt i => ∃ k : Nat, k ≤ n1 ∧ i = .int .i64 k ∧ tt = .int .i64 (T + sB bS bA k) ∧ OkB bS bA k ∧ T + sB bS bA k ≤ 536870912 ∧ 0 ≤ sB bS bA k) (fun _ i => n1 - (intOf i).toNat)
      case atStart => exact ⟨0, Nat.zero_le _, rfl, by simp [sB], fun i hi => absurd hi (by omega), by simp [sB]; omega, by simp [sB]⟩
      case round =>
        obtain ⟨k, hk, rfl, rfl, hok, hle, h0⟩ := hrel
        by_cases hlt : k < n1
        · rcases r1 with hz | ⟨b, off, rfl, hb, hc⟩
          · omega
          obtain ⟨q1, q2⟩ := hc k hlt
          have HS : Hid (sB bS bA (k + 1) = sB bS bA k + (bS k + bA k)) := rfl
          have HO : Hid (OkB bS bA k) := hok
          clear hc r2 hok
          generalize sB bS bA k = Sk at *
          obtain ⟨s, hs⟩ : ∃ s, s = bS k := ⟨_, rfl⟩
          obtain ⟨a, ha⟩ : ∃ a, a = bA k := ⟨_, rfl⟩
          rw [← hs] at q1
          rw [← ha] at q2
          have Hs : Hid (s = bS k) := hs
          have Ha : Hid (a = bA k) := ha
          clear hs ha
          by_cases g1 : s < 0
          · have e1 : decide (s < 0) = true := decide_eq_true g1
            go_wp2
            go_ret
            exact ⟨false, rfl, (by simp), Below.refl _ _⟩
          have e1 : decide (s < 0) = false := decide_eq_false g1
          by_cases g2 : 536870912 < s
          · have e2 : decide (536870912 < s) = true := decide_eq_true g2
            go_wp2
            go_ret
            exact ⟨false, rfl, (by simp), Below.refl _ _⟩
          have e2 : decide (536870912 < s) = false := decide_eq_false g2
          by_cases g3 : a < 1
          · have e3 : decide (a < 1) = true := decide_eq_true g3
            go_wp2
            go_ret
            exact ⟨false, rfl, (by simp), Below.refl _ _⟩
          have e3 : decide (a < 1) = false := decide_eq_false g3
          by_cases g4 : 536870912 < a
          · have e4 : decide (536870912 < a) = true := decide_eq_true g4
            go_wp2
            go_ret
            exact ⟨false, rfl, (by simp), Below.refl _ _⟩
          have e4 : decide (536870912 < a) = false := decide_eq_false g4
          go_wp2
          · go_ret
            exact ⟨false, rfl, (by simp), Below.refl _ _⟩
          · go_ret
            exact ⟨false, rfl, (by simp), Below.refl _ _⟩
          · go_round
            case rel =>
              have hs := Hs.out
              have ha := Ha.out
              exact ⟨k + 1, by omega, by go_num, by rw [HS.out, ← hs, ← ha]; go_num, HO.out.succ (by rw [← hs, ← ha]; omega), by rw [HS.out, ← hs, ← ha]; omega, by rw [HS.out, ← hs, ← ha]; omega⟩
            case measure => simp [intOf]; omega
        · have hkn : k = n1 := by omega
          subst hkn
          have HB : Hid (OkB bS bA k) := hok
          have HX : Hid (0 ≤ sB bS bA k) := h0
          have HQ : Hid (∃ X, X = T + sB bS bA k ∧ T = pos o + pos t) := ⟨_, rfl, HT.out⟩
          obtain ⟨X, hX⟩ : ∃ X, X = T + sB bS bA k := ⟨_, rfl⟩
          rw [← hX]
          have HXX : Hid (X = T + sB bS bA k) := hX
          have x0 : 0 ≤ X := by omega
          have x1 : X ≤ 536870912 := by omega
          clear hX hok hle h0 HQ t0 t1 hTL
          go_wp2
          go_loopw [9, 11] (fun tt i wr => ∃ j : Nat, j ≤ n2 ∧ i = .int .i64 j ∧ tt = .int .i64 (X + sF fS fA fP j) ∧ OkF fS fA fP j ∧ X + sF fS fA fP j ≤ 536870912 ∧ 0 ≤ sF fS fA fP j ∧ Below wc.heap.size wc wr) (fun _ i _ => n2 - (intOf i).toNat)
          case atStart => exact ⟨0, Nat.zero_le _, rfl, by simp [sF], fun i hi => absurd hi (by omega), by simp [sF]; omega, by simp [sF], Below.refl _ _⟩
          case round =>
            obtain ⟨j, hj, rfl, rfl, hok, hle, h0, hbel⟩ := hrel
            by_cases hlt : ¬ j < n2
            · have hkn : j = n2 := by omega
              subst hkn
              have HR : Hid (Below wc.heap.size wc wr ∧ OkF fS fA fP j ∧ X + sF fS fA fP j ≤ 536870912) := ⟨hbel, hok, hle⟩
              clear hbel hok hle h0
              go_wp2
              go_ret
              refine ⟨true, rfl, fun _ => ⟨by omega, by omega, HB.out, HR.out.2.1, ?_⟩, HR.out.1⟩
              have := HR.out.2.2
              rw [HXX.out, HT.out] at this
              exact this
            replace hlt : j < n2 := by omega
            rcases r2 with hz | ⟨b, off, rfl, hb, hc⟩
            · omega
            obtain ⟨q1, q2, q3⟩ := hc j hlt
            have y1 := (hbel.cell (p := ⟨b, off + j * 3, none⟩) hb).trans q1
            have y2 := (hbel.cell (p := ⟨b, off + j * 3 + 1, none⟩) hb).trans q2
            have y3 := (hbel.cell (p := ⟨b, off + j * 3 + 2, none⟩) hb).trans q3
            have HS : Hid (sF fS fA fP (j + 1) = sF fS fA fP j + (fS j + fA j + pos (fP j))) := rfl
            have HO : Hid (OkF fS fA fP j) := hok
            have R : ∀ o : Obj, Below wc.heap.size wc (wr.alloc o) := fun o => hbel.alloc hbel.size o
            clear hc hok q1 q2 q3 hbel r1
            generalize sF fS fA fP j = Sj at *
            obtain ⟨s, hs⟩ : ∃ s, s = fS j := ⟨_, rfl⟩
            obtain ⟨a, ha⟩ : ∃ a, a = fA j := ⟨_, rfl⟩
            obtain ⟨p, hp⟩ : ∃ p, p = fP j := ⟨_, rfl⟩
            rw [← hs] at y1
            rw [← ha] at y2
            rw [← hp] at y3
            have Hs : Hid (s = fS j) := hs
            have Ha : Hid (a = fA j) := ha
            have Hp : Hid (p = fP j) := hp
            clear hs ha hp
            by_cases g1 : s < 0
            · have e1 : decide (s < 0) = true := decide_eq_true g1
              go_wp2
              go_ret
              exact ⟨false, rfl, (by simp), R _⟩
            have e1 : decide (s < 0) = false := decide_eq_false g1
            by_cases g2 : 536870912 < s
            · have e2 : decide (536870912 < s) = true := decide_eq_true g2
              go_wp2
              go_ret
              exact ⟨false, rfl, (by simp), R _⟩
            have e2 : decide (536870912 < s) = false := decide_eq_false g2
            by_cases g3 : a < 1
            · have e3 : decide (a < 1) = true := decide_eq_true g3
              go_wp2
              go_ret
              exact ⟨false, rfl, (by simp), R _⟩
            have e3 : decide (a < 1) = false := decide_eq_false g3
            by_cases g4 : 536870912 < a
            · have e4 : decide (536870912 < a) = true := decide_eq_true g4
              go_wp2
              go_ret
              exact ⟨false, rfl, (by simp), R _⟩
            have e4 : decide (536870912 < a) = false := decide_eq_false g4
            by_cases g5 : 536870912 < p
            · have e5 : decide (536870912 < p) = true := decide_eq_true g5
              go_wp2
              go_ret
              exact ⟨false, rfl, (by simp), R _⟩
            have e5 : decide (536870912 < p) = false := decide_eq_false g5
            by_cases g6 : 0 < p
            · go_wp2
              · go_ret
                exact ⟨false, rfl, (by simp), R _⟩
              · go_ret
                exact ⟨false, rfl, (by simp), R _⟩
              · go_ret
                exact ⟨false, rfl, (by simp), R _⟩
              · go_roundw
                case rel =>
                  have hs := Hs.out
                  have ha := Ha.out
                  have hp := Hp.out
                  have hpp : pos (fP j) = p := by rw [← hp]; unfold pos; rw [if_pos g6]
                  exact ⟨j + 1, by omega, by go_num, by rw [HS.out, ← hs, ← ha, hpp]; go_num, HO.out.succ (by rw [← hs, ← ha, ← hp]; omega), by rw [HS.out, ← hs, ← ha, hpp]; omega, by rw [HS.out, ← hs, ← ha, hpp]; omega, R _⟩
                case measure => simp [intOf]; omega
            · go_wp2
              · go_ret
                exact ⟨false, rfl, (by simp), R _⟩
              · go_ret
                exact ⟨false, rfl, (by simp), R _⟩
              · go_roundw
                case rel =>
                  have hs := Hs.out
                  have ha := Ha.out
                  have hp := Hp.out
                  have hpp : pos (fP j) = 0 := by rw [← hp]; unfold pos; rw [if_neg g6]
                  exact ⟨j + 1, by omega, by go_num, by rw [HS.out, ← hs, ← ha, hpp]; go_num, HO.out.succ (by rw [← hs, ← ha, ← hp]; omega), by rw [HS.out, ← hs, ← ha, hpp]; omega, by rw [HS.out, ← hs, ← ha, hpp]; omega, R _⟩
                case measure => simp [intOf]; omega

end Go.Proofs.Qxb6600004a
