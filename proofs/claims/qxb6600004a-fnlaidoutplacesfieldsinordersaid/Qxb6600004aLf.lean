import Derived.Test.Qxb6600004aLe
namespace Go.Proofs.Qxb6600004a
open Go.RowKit
namespace LO
/-- Blanks first, then fields. -/
def cat (nb : Nat) (f h : Nat → Int) (i : Nat) : Int := if i < nb then f i else h (i - nb)
theorem cat_lt {nb : Nat} {f h : Nat → Int} {i : Nat} (hi : i < nb) : cat nb f h i = f i := by unfold cat; rw [if_pos hi]
theorem cat_ge (nb : Nat) (f h : Nat → Int) (j : Nat) : cat nb f h (nb + j) = h j := by unfold cat; rw [if_neg (by omega)]; congr 1; omega
theorem cat_fun (nb : Nat) (f h : Nat → Int) : (fun j => cat nb f h (nb + j)) = h := funext fun j => cat_ge nb f h j
theorem sB_congr {S A S' A' : Nat → Int} : ∀ k, (∀ i, i < k → S i = S' i ∧ A i = A' i) → sB S A k = sB S' A' k
  | 0, _ => rfl
  | k + 1, h => by simp only [sB]; rw [sB_congr k (fun i hi => h i (by omega)), (h k (by omega)).1, (h k (by omega)).2]
theorem stB_congr {o : Int} {S A S' A' : Nat → Int} : ∀ k, (∀ i, i < k → S i = S' i ∧ A i = A' i) → stB o S A k = stB o S' A' k
  | 0, _ => rfl
  | k + 1, h => by simp only [stB]; rw [stB_congr k (fun i hi => h i (by omega)), (h k (by omega)).1, (h k (by omega)).2]
theorem Shape.cat {o t : Int} {nb nf : Nat} {bS bA fS fA fP : Nat → Int} (h : Shape o nb bS bA nf fS fA fP t) :
    Shape o nb (LO.cat nb bS fS) (LO.cat nb bA fA) nf (fun j => LO.cat nb bS fS (nb + j)) (fun j => LO.cat nb bA fA (nb + j)) fP t := by
  rw [cat_fun, cat_fun]
  refine ⟨h.ho, h.ht, fun i hi => ?_, h.okF, ?_⟩
  · rw [cat_lt hi, cat_lt hi]; exact h.okB i hi
  · rw [sB_congr nb (S' := bS) (A' := bA) (fun i hi => ⟨cat_lt hi, cat_lt hi⟩)]
    exact h.sum

theorem OwnI.set {g n : Nat} {F : Nat → Int} {k : Nat} {w : World} (h : OwnI g n F k w) {g' j : Nat} (hg : g ≠ g') (v : Value) : OwnI g n F k (w.setCell ⟨g', j, none⟩ v) := by
  obtain ⟨cs, hh, hs⟩ := h
  exact ⟨cs, hh.other hg v, hs⟩
theorem OwnI.below {g n : Nat} {F : Nat → Int} {k : Nat} {w w' : World} (h : OwnI g n F k w) (hb : Below w.heap.size w w') : OwnI g n F k w' := by
  obtain ⟨cs, hh, hs⟩ := h
  exact ⟨cs, hh.below hb hh.lt, hs⟩
theorem OwnI.lt {g n : Nat} {F : Nat → Int} {k : Nat} {w : World} (h : OwnI g n F k w) : g < w.heap.size := by
  obtain ⟨cs, hh, hs⟩ := h
  exact hh.lt

/-- gb1LORun's three rows. -/
structure O3 (w : World) (gS gA gP n nf : Nat) (mS mA P : Nat → Int) (k j : Nat) (W : World) : Prop where
  bel : Below w.heap.size w W
  s : OwnI gS n mS k W
  a : OwnI gA n mA k W
  p : OwnI gP nf P j W
  n1 : gS ≠ gA
  n2 : gS ≠ gP
  n3 : gA ≠ gP
  l1 : w.heap.size ≤ gS
  l2 : w.heap.size ≤ gA
  l3 : w.heap.size ≤ gP
theorem O3.step {w : World} {gS gA gP n nf : Nat} {mS mA P : Nat → Int} {k j : Nat} {W : World} (h : O3 w gS gA gP n nf mS mA P k j W) (hk : k < n) :
    O3 w gS gA gP n nf mS mA P (k + 1) j ((W.setCell ⟨gS, k, none⟩ (.int .i64 (mS k))).setCell ⟨gA, k, none⟩ (.int .i64 (mA k))) :=
  ⟨(h.bel.setCell (by exact h.l1) _).setCell (by exact h.l2) _, (h.s.step hk).set h.n1 _, (h.a.set (Ne.symm h.n1) _).step hk, (h.p.set (Ne.symm h.n2) _).set (Ne.symm h.n3) _, h.n1, h.n2, h.n3, h.l1, h.l2, h.l3⟩
theorem O3.stepP {w : World} {gS gA gP n nf : Nat} {mS mA P : Nat → Int} {k j : Nat} {W : World} (h : O3 w gS gA gP n nf mS mA P k j W) (hj : j < nf) :
    O3 w gS gA gP n nf mS mA P k (j + 1) (W.setCell ⟨gP, j, none⟩ (.int .i64 (P j))) :=
  ⟨h.bel.setCell (by exact h.l3) _, h.s.set h.n2 _, h.a.set h.n3 _, h.p.step hj, h.n1, h.n2, h.n3, h.l1, h.l2, h.l3⟩
end LO
open LO

/-- What gb1LORun answers. -/
def RunPost (o : Int) (nb nf : Nat) (bS bA fS fA fP : Nat → Int) (t : Int) (w : World) (e : Ending) (w' : World) : Prop :=
  ∃ (g : Nat) (s : LS), s = pre (stF (stB o bS bA nb) fS fA fP nf) t ∧
    e = .returned (.tuple #[.slice (some ⟨g, 0, none⟩) nf nf, .int .i64 (ru (endF s) s.al), .int .i64 s.al]) ∧
    RowI w' (some ⟨g, 0, none⟩) nf (offF (stB o bS bA nb) fS fA fP) ∧ Below w.heap.size w w'

set_option maxRecDepth 100000 in
set_option maxHeartbeats 4000000 in
theorem run16 (o t : Int) (nb nf c1 c2 : Nat) (a1 a2 : Option Addr) (bS bA fS fA fP : Nat → Int) (w : World) (hnb : nb ≤ 4096) (hnf : nf ≤ 4096)
    (r1 : RowB w a1 nb bS bA) (r2 : RowF w a2 nf fS fA fP) (hsh : Shape o nb bS bA nf fS fA fP t) :
    Calls Try.prog 16 #[.int .i64 o, .slice a1 nb c1, .slice a2 nf c2, .int .i64 t] w (RunPost o nb nf bS bA fS fA fP t w) := by
  obtain ⟨i0, hi, hz0, hz1, hz2⟩ := info_parts Try.info3
  have tok1 : True := trivial
  have HSH : Hid (Shape o nb bS bA nf fS fA fP t) := hsh
  clear hsh
  go_enter Try.func16, Try.ntmps16
  go_wp2_with (first
    | (at_make; refine wpList_make_full _ rfl (.tmp 22) (.tmp 22) 28 rfl w.heap.size 3 i0 (.int .i64 0) 1 Try.underlying28 hi hz0 hz1 _ _ _ _ (nb + nf) rfl rfl (by omega) (by omega) (by rw [hz2]; omega) (by unfold maxLen; omega) (Nat.le_refl _) ?_; intro w1 hown1 hgrow1)
    | (at_make; refine wpList_make_full _ rfl (.tmp 24) (.tmp 24) 28 rfl w1.heap.size 3 i0 (.int .i64 0) 1 Try.underlying28 hi hz0 hz1 _ _ _ _ (nb + nf) rfl rfl (by omega) (by omega) (by rw [hz2]; omega) (by unfold maxLen; omega) (Nat.le_refl _) ?_; intro w2 hown2 hgrow2)
    | (at_make; refine wpList_make_full _ rfl (.tmp 27) (.tmp 27) 28 rfl w2.heap.size 3 i0 (.int .i64 0) 1 Try.underlying28 hi hz0 hz1 _ _ _ _ nf rfl rfl rfl rfl (by rw [hz2]; omega) (by unfold maxLen; omega) (Nat.le_refl _) ?_; intro w3 hown3 hgrow3))
  have b1 : Below w.heap.size w w1 := (Below.refl _ w).grown hgrow1 (Nat.le_refl _) (by intro k hk; cases hk)
  have b2 : Below w1.heap.size w1 w2 := (Below.refl _ w1).grown hgrow2 (Nat.le_refl _) (by intro k hk; cases hk)
  have b3 : Below w2.heap.size w2 w3 := (Below.refl _ w2).grown hgrow3 (Nat.le_refl _) (by intro k hk; cases hk)
  have O0 : O3 w w.heap.size w1.heap.size w2.heap.size (nb + nf) nf (cat nb bS fS) (cat nb bA fA) fP 0 0 w3 := by
    obtain ⟨q1, h1, s1⟩ := own_has hown1
    obtain ⟨q2, h2, s2⟩ := own_has hown2
    obtain ⟨q3, h3, s3⟩ := own_has hown3
    have e1 := h1.lt
    have e2 := h2.lt
    have e0 := b1.size
    have z1 : OwnI w.heap.size (nb + nf) (cat nb bS fS) 0 w1 := ⟨q1, h1, by omega, fun i hi => absurd hi (by omega)⟩
    have z2 : OwnI w1.heap.size (nb + nf) (cat nb bA fA) 0 w2 := ⟨q2, h2, by omega, fun i hi => absurd hi (by omega)⟩
    exact ⟨b1.trans ((b2.mono (by omega)).trans (b3.mono (by omega))), (z1.below b2).below b3, z2.below b3, ⟨q3, h3, by omega, fun i hi => absurd hi (by omega)⟩, by omega, by omega, by omega, by omega, by omega, by omega⟩
  have l12 : w.heap.size < w1.heap.size := by obtain ⟨q1, h1, s1⟩ := own_has hown1; exact h1.lt
  have l23 : w1.heap.size < w2.heap.size := by obtain ⟨q1, h1, s1⟩ := own_has hown2; exact h1.lt
  clear hown1 hown2 hown3 hgrow1 hgrow2 hgrow3 b1 b2 b3 hi hz0 hz1 hz2 i0
  generalize w1.heap.size = gA at *
  generalize w2.heap.size = gP at *
  go_loopw [15] (fun i wr => ∃ k : Nat, k ≤ nb ∧ i = .int .i64 k ∧ O3 w w.heap.size gA gP (nb + nf) nf (cat nb bS fS) (cat nb bA fA) fP k 0 wr) (fun i _ => nb - (intOf i).toNat)
  case atStart => exact ⟨0, Nat.zero_le _, rfl, O0⟩
  case round =>
    clear O0
    obtain ⟨k, hk, rfl, hO⟩ := hrel
    by_cases hlt : k < nb
    · rcases r1 with hz | ⟨b, off, rfl, hb, hc⟩
      · omega
      have q1 := (hO.bel.cell (p := ⟨b, off + k * 2, none⟩) hb).trans (hc k hlt).1
      have q2 := (hO.bel.cell (p := ⟨b, off + k * 2 + 1, none⟩) hb).trans (hc k hlt).2
      have hbS : b ≠ w.heap.size := by omega
      have hbA : b ≠ gA := by omega
      obtain ⟨v1, hv1⟩ := hO.s.there (j := k) (by omega)
      obtain ⟨v2, hv2⟩ := hO.a.there (j := k) (by omega)
      have f1 := hO.s.free k
      have f2 := hO.a.free k
      have HR : Hid (O3 w w.heap.size gA gP (nb + nf) nf (cat nb bS fS) (cat nb bA fA) fP (k + 1) 0 ((wr.setCell ⟨w.heap.size, k, none⟩ (.int .i64 (bS k))).setCell ⟨gA, k, none⟩ (.int .i64 (bA k)))) := by
        have := hO.step (by omega)
        rwa [cat_lt hlt, cat_lt hlt] at this
      have bk : (k : Int) < (nb : Int) + (nf : Int) := by omega
      clear hO hc r2
      go_wp2
      go_roundw
      case rel => exact ⟨k + 1, by omega, by go_num, HR.out⟩
      case measure => simp [intOf]; omega
    · obtain rfl : k = nb := by omega
      go_wp2
      go_loopw [16] (fun i wr => ∃ j : Nat, j ≤ nf ∧ i = .int .i64 j ∧ O3 w w.heap.size gA gP (k + nf) nf (cat k bS fS) (cat k bA fA) fP (k + j) j wr) (fun i _ => nf - (intOf i).toNat)
      case atStart => exact ⟨0, Nat.zero_le _, rfl, hO⟩
      case round =>
        clear hO
        obtain ⟨j, hj, rfl, hO⟩ := hrel
        by_cases hlt : j < nf
        · rcases r2 with hz | ⟨b, off, rfl, hb, hc⟩
          · omega
          have q1 := (hO.bel.cell (p := ⟨b, off + j * 3, none⟩) hb).trans (hc j hlt).1
          have q2 := (hO.bel.cell (p := ⟨b, off + j * 3 + 1, none⟩) hb).trans (hc j hlt).2.1
          have q3 := (hO.bel.cell (p := ⟨b, off + j * 3 + 2, none⟩) hb).trans (hc j hlt).2.2
          have hbS : b ≠ w.heap.size := by omega
          have hbA : b ≠ gA := by omega
          have hbP : b ≠ gP := by omega
          obtain ⟨v1, hv1⟩ := hO.s.there (j := k + j) (by omega)
          obtain ⟨v2, hv2⟩ := hO.a.there (j := k + j) (by omega)
          obtain ⟨v3, hv3⟩ := hO.p.there (j := j) hlt
          have f1 := hO.s.free (k + j)
          have f2 := hO.a.free (k + j)
          have f3 := hO.p.free j
          have HR : Hid (O3 w w.heap.size gA gP (k + nf) nf (cat k bS fS) (cat k bA fA) fP (k + (j + 1)) (j + 1) (((wr.setCell ⟨w.heap.size, k + j, none⟩ (.int .i64 (fS j))).setCell ⟨gA, k + j, none⟩ (.int .i64 (fA j))).setCell ⟨gP, j, none⟩ (.int .i64 (fP j)))) := by
            have := (hO.step (by omega)).stepP hlt
            rwa [cat_ge, cat_ge] at this
          have bk : (k : Int) + (j : Int) < (k : Int) + (nf : Int) := by omega
          clear hO hc r1
          go_wp2
          go_roundw
          case rel => exact ⟨j + 1, by omega, by go_num, HR.out⟩
          case measure => simp [intOf]; omega
        · obtain rfl : j = nf := by omega
          have HB : Hid (Below w.heap.size w wr) := hO.bel
          have rS := hO.s.row
          have rA := hO.a.row
          have rP := hO.p.row
          clear hO r1 r2
          go_wp2_with fail
          refine (laid37 o t k j (k + j) j (k + j) (k + j) (some ⟨gP, 0, none⟩) (some ⟨w.heap.size, 0, none⟩) (some ⟨gA, 0, none⟩) (cat k bS fS) (cat k bA fA) fP _ hnb hnf rfl rP rS rA HSH.out.cat).mono ?_
          rintro e w9 ⟨g, s, hs, rfl, hrow, hb9⟩
          rw [cat_fun, cat_fun, stB_congr k (S' := bS) (A' := bA) (fun i hi => ⟨cat_lt hi, cat_lt hi⟩)] at hs hrow
          have HP : Hid (s = pre (stF (stB o bS bA k) fS fA fP j) t ∧ RowI w9 (some ⟨g, 0, none⟩) j (offF (stB o bS bA k) fS fA fP) ∧ Below w.heap.size w w9) := ⟨hs, hrow, HB.out.trans (hb9.mono HB.out.size)⟩
          obtain ⟨z, hz⟩ : ∃ z : Int, z = ru (endF s) s.al := ⟨_, rfl⟩
          rw [← hz]
          have Hz : Hid (z = ru (endF s) s.al) := hz
          clear hz hs hrow hb9 HB rS rA rP HSH
          go_wp2
          go_ret3
          exact ⟨g, s, HP.out.1, by rw [← Hz.out]; rfl, HP.out.2.1, HP.out.2.2⟩

end Go.Proofs.Qxb6600004a
