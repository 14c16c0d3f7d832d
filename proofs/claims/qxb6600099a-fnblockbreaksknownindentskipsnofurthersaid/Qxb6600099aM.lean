import Derived.Test.Qxb6600099aL
namespace Go.Proofs.Qxb6600099a
open Go.RowKit

theorem inv_it {T : Nat → Int} {n at' column K : Nat} (ha : at' ≤ n) (h : ∀ j, j < K → can T n (it T n ⟨at', column, 0, 0, 0⟩ j)) : ∀ k, k ≤ K → Inv at' column 0 n (it T n ⟨at', column, 0, 0, 0⟩ k)
  | 0, _ => Inv.first ha
  | k + 1, hk => by
    have ih := inv_it ha h k (by omega)
    have hc := h k (by omega)
    show Inv at' column 0 n (step T n _)
    unfold step
    split
    · exact ih.sp hc.1 (.inl rfl)
    · rename_i hne
      have hb := hc.2.resolve_left hne
      have h2 := lb_le (T := T) (n := n) (i := (it T n ⟨at', column, 0, 0, 0⟩ k).p)
      have h3 := h2.2.2 (by have := hc.1; omega)
      exact ih.br (by omega) (by omega)

def WalkPost (s : S) (w : World) (e : Ending) (w' : World) : Prop :=
  e = .returned (.tuple #[.bool true, .int .i64 s.b, .int .i64 s.col, .int .i64 s.first, .int .i64 s.later]) ∧ Below w.heap.size w w'

set_option maxRecDepth 100000 in
set_option maxHeartbeats 1600000 in
theorem walk19 (a : Option Addr) (n c : Nat) (T : Nat → Int) (at' column ind : Nat) (s : S) (w : World) (r : RowT w a n T) (hs : St T n at' column ind s) (hn : n ≤ 1048576) (hc : column ≤ 1073741824) :
    Calls Try.prog 19 #[.slice a n c, .int .i64 (at' : Int), .int .i64 (s.p : Int), .int .i64 (column : Int)] w (WalkPost s w) := by
  obtain ⟨hinv, K, hK, hsK⟩ := hs
  have hsn := hinv.le
  have HI : Hid (∀ k, k ≤ K → Inv at' column 0 n (it T n ⟨at', column, 0, 0, 0⟩ k)) := inv_it (Nat.le_trans hinv.ge hinv.le) hK
  have HK : Hid (∀ j, j < K → can T n (it T n ⟨at', column, 0, 0, 0⟩ j)) := hK
  have HS : Hid (s = it T n ⟨at', column, 0, 0, 0⟩ K) := hsK
  have HR : Hid (RowT w a n T) := r
  clear hinv hK hsK r
  go_enter Try.func19, Try.ntmps19
  go_wp2_with fail
  go_loopw [13, 14, 15, 16, 17] (fun vp vc vb vf vl wr => ∃ k : Nat, k ≤ K ∧ ∃ t : S, t = it T n ⟨at', column, 0, 0, 0⟩ k ∧ vp = .int .i64 t.p ∧ vc = .int .i64 t.col ∧ vb = .int .i64 t.b ∧ vf = .int .i64 t.f ∧ vl = .int .i64 t.l ∧ Below w.heap.size w wr) (fun vp _ _ _ _ _ => s.p - (intOf vp).toNat)
  case atStart => exact ⟨0, Nat.zero_le _, _, rfl, rfl, rfl, rfl, rfl, rfl, Below.refl _ _⟩
  case round =>
    obtain ⟨k, hk, t, ht, rfl, rfl, rfl, rfl, rfl, hbel⟩ := hrel
    have hti := HI.out k hk
    rw [← ht] at hti
    have i1 := hti.le
    have i2 := hti.ge
    have i3 := hti.col
    have i4 := hti.b
    have i5 := hti.f
    have i6 := hti.l
    have hup := it_upto HK.out hk
    rw [← ht, ← HS.out] at hup
    have Ht : Hid (t = it T n ⟨at', column, 0, 0, 0⟩ k) := ht
    have HB : Hid (Below w.heap.size w wr) := hbel
    have rr := HR.out.below hbel
    clear ht hbel hti
    by_cases hlt : t.p < s.p
    · have hkK : k < K := by
        rcases Nat.lt_or_eq_of_le hk with h' | rfl
        · exact h'
        · rw [Ht.out, HS.out] at hlt; omega
      have hcan := HK.out k hkK
      rw [← Ht.out] at hcan
      rcases rr.2 with hz | ⟨b, off, rfl, hb, hcc⟩
      · omega
      have hcx := hcc t.p hcan.1
      have hxx := rr.1 t.p hcan.1
      by_cases e32 : T t.p = 32
      · have HN : Hid (t.sp = it T n ⟨at', column, 0, 0, 0⟩ (k + 1)) := by
          show t.sp = step T n _
          rw [← Ht.out]; unfold step; rw [if_pos e32]
        rw [e32] at hcx
        clear hcan rr hcc hxx e32
        go_wp2
        go_roundw
        case rel => exact ⟨k + 1, hkK, t.sp, HN.out, by simp only [S.sp]; go_num, by simp only [S.sp]; go_num, rfl, rfl, rfl, HB.out⟩
        case measure => simp [intOf]; omega
      · have hlb := hcan.2.resolve_left e32
        have HN : Hid (t.br (lb T n t.p).toNat = it T n ⟨at', column, 0, 0, 0⟩ (k + 1)) := by
          show t.br _ = step T n _
          rw [← Ht.out]; unfold step; rw [if_neg e32]
        have hle := lb_le (T := T) (n := n) (i := t.p)
        have hle3 := hle.2.2 i1
        obtain ⟨x, hx⟩ : ∃ x, x = T t.p := ⟨_, rfl⟩
        rw [← hx] at hcx hxx e32
        have h32 : (x == 32) = false := by simp [e32]
        clear hcan hcc e32 hx
        go_wp2_with fail
        refine (model13 (some ⟨b, off, none⟩) n c t.p T wr rr hn).mono ?_
        rintro e w2 ⟨rfl, hw2⟩
        have HB2 : Hid (Below w.heap.size w w2) := HB.out.trans (hw2.mono HB.out.size)
        clear hw2 HB rr hcx
        obtain ⟨v, hv⟩ : ∃ v, v = lb T n t.p := ⟨_, rfl⟩
        rw [← hv] at hlb hle hle3 HN ⊢
        obtain ⟨m, rfl⟩ := Int.eq_ofNat_of_zero_le hle.1
        clear hv
        have hm0 : 0 < m := by omega
        have hm1 : t.p + m ≤ n := by omega
        have HN2 : Hid (t.br m = it T n ⟨at', column, 0, 0, 0⟩ (k + 1)) := HN.out
        clear HN hle hle3 hlb
        by_cases eb : t.b = 0
        · have db : ((t.b : Int) == 0) = true := by simp [eb]
          have HE : Hid (t.b = 0) := eb
          clear eb
          go_wp2
          go_roundw
          case rel =>
            refine ⟨k + 1, hkK, t.br m, HN2.out, ?_, rfl, ?_, ?_, ?_, HB2.out⟩
            · simp only [S.br]; go_num
            · simp only [S.br]; go_num
            · simp only [S.br]; rw [if_pos HE.out]
            · simp only [S.br]; rw [if_pos HE.out]
          case measure => simp [intOf]; omega
        · have db : ((t.b : Int) == 0) = false := by simp [eb]
          have HE : Hid (¬ t.b = 0) := eb
          clear eb
          by_cases el : t.l < t.col
          · have HM : Hid (max t.l t.col = t.col) := by show max t.l t.col = t.col; omega
            go_wp2
            go_roundw
            case rel =>
              refine ⟨k + 1, hkK, t.br m, HN2.out, ?_, rfl, ?_, ?_, ?_, HB2.out⟩
              · simp only [S.br]; go_num
              · simp only [S.br]; go_num
              · simp only [S.br]; rw [if_neg HE.out]
              · simp only [S.br]; rw [if_neg HE.out, HM.out]
            case measure => simp [intOf]; omega
          · have HM : Hid (max t.l t.col = t.l) := by show max t.l t.col = t.l; omega
            go_wp2
            go_roundw
            case rel =>
              refine ⟨k + 1, hkK, t.br m, HN2.out, ?_, rfl, ?_, ?_, ?_, HB2.out⟩
              · simp only [S.br]; go_num
              · simp only [S.br]; go_num
              · simp only [S.br]; rw [if_neg HE.out]
              · simp only [S.br]; rw [if_neg HE.out, HM.out]
            case measure => simp [intOf]; omega
    · have hkK : k = K := by omega
      subst hkK
      obtain rfl : s = t := HS.out.trans Ht.out.symm
      clear rr HS Ht hup hlt
      by_cases eb : s.b = 0
      · have db : ((s.b : Int) == 0) = true := by simp [eb]
        have HE : Hid (s.b = 0) := eb
        clear eb
        go_wp2
        refine bodyPost_ret (results_tmp5 rfl _ _ _) rfl ?_
        refine ⟨?_, HB.out⟩
        unfold S.first S.later
        rw [if_pos HE.out, if_pos HE.out]; rfl
      · have db : ((s.b : Int) == 0) = false := by simp [eb]
        have HE : Hid (¬ s.b = 0) := eb
        clear eb
        by_cases el : s.l < s.col
        · have HM : Hid (max s.l s.col = s.col) := by show max s.l s.col = s.col; omega
          go_wp2
          refine bodyPost_ret (results_tmp5 rfl _ _ _) rfl ?_
          refine ⟨?_, HB.out⟩
          unfold S.first S.later
          rw [if_neg HE.out, if_neg HE.out, HM.out]; rfl
        · have HM : Hid (max s.l s.col = s.l) := by show max s.l s.col = s.l; omega
          go_wp2
          refine bodyPost_ret (results_tmp5 rfl _ _ _) rfl ?_
          refine ⟨?_, HB.out⟩
          unfold S.first S.later
          rw [if_neg HE.out, if_neg HE.out, HM.out]; rfl
end Go.Proofs.Qxb6600099a
