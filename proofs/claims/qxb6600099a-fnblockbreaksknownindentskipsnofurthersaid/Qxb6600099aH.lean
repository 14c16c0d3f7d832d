import Derived.Test.Qxb6600099aC
namespace Go.Proofs.Qxb6600099a

/-- Where walkBlanks stands: the place, the column, the breaks so far, where the first line's spaces ended, and the deepest end of a later one. -/
structure S where
  p : Nat
  col : Nat
  b : Nat
  f : Nat
  l : Nat
def S.sp (s : S) : S := ⟨s.p + 1, s.col + 1, s.b, s.f, s.l⟩
def S.br (s : S) (m : Nat) : S := ⟨s.p + m, 0, s.b + 1, if s.b = 0 then s.col else s.f, if s.b = 0 then s.l else max s.l s.col⟩
def can (T : Nat → Int) (n : Nat) (s : S) : Prop := s.p < n ∧ (T s.p = 32 ∨ 0 < lb T n s.p)
def step (T : Nat → Int) (n : Nat) (s : S) : S := if T s.p = 32 then s.sp else s.br (lb T n s.p).toNat
def it (T : Nat → Int) (n : Nat) (s0 : S) : Nat → S
  | 0 => s0
  | k + 1 => step T n (it T n s0 k)

theorem lb_in {T : Nat → Int} {n i : Nat} (h : 0 < lb T n i) : i < n ∧ T i ≠ 32 ∧ T i ≠ 9 := by
  unfold lb at h
  by_cases h0 : n ≤ i
  · rw [if_pos h0] at h; omega
  · refine ⟨by omega, fun e => ?_, fun e => ?_⟩ <;>
    · rw [if_neg h0, if_neg (by omega), if_neg (by omega), if_neg (by omega), if_neg (by omega)] at h
      omega
theorem lb_le {T : Nat → Int} {n i : Nat} : 0 ≤ lb T n i ∧ lb T n i ≤ 3 ∧ (i ≤ n → (i : Int) + lb T n i ≤ n) := by
  unfold lb
  repeat' split
  all_goals omega

theorem it_lt {T : Nat → Int} {n : Nat} {s0 : S} {K : Nat} (h : ∀ j, j < K → can T n (it T n s0 j)) : ∀ d, d ≤ K → (it T n s0 (K - d)).p + d ≤ (it T n s0 K).p
  | 0, _ => by simp
  | d + 1, hd => by
    have ih := it_lt h d (by omega)
    have hc := h (K - (d + 1)) (by omega)
    have e : K - d = (K - (d + 1)) + 1 := by omega
    rw [e] at ih
    have : (it T n s0 (K - (d + 1))).p + 1 ≤ (it T n s0 (K - (d + 1) + 1)).p := by
      show _ ≤ (step T n (it T n s0 (K - (d + 1)))).p
      unfold step
      split
      · simp [S.sp]
      · rename_i hne
        have := hc.2.resolve_left hne
        simp only [S.br]; omega
    omega
theorem it_before {T : Nat → Int} {n : Nat} {s0 : S} {K k : Nat} (h : ∀ j, j < K → can T n (it T n s0 j)) (hk : k ≤ K) (hp : (it T n s0 k).p < (it T n s0 K).p) : k < K := by
  rcases Nat.lt_or_eq_of_le hk with h' | rfl
  · exact h'
  · omega
theorem it_upto {T : Nat → Int} {n : Nat} {s0 : S} {K k : Nat} (h : ∀ j, j < K → can T n (it T n s0 j)) (hk : k ≤ K) : (it T n s0 k).p + (K - k) ≤ (it T n s0 K).p := by
  have := it_lt h (K - k) (by omega)
  rwa [show K - (K - k) = k by omega] at this

/-- What holds of every state on the way. -/
structure Inv (at' column ind n : Nat) (s : S) : Prop where
  ge : at' ≤ s.p
  le : s.p ≤ n
  col : s.col + at' ≤ column + s.p
  b : s.b + at' ≤ s.p
  f : s.f + at' ≤ column + s.p
  l : s.l + at' ≤ column + s.p
  zero : s.b = 0 → s.f = 0 ∧ s.l = 0
  one : ind ≠ 0 → s.b = 0 → s.col ≤ max ind column
  more : ind ≠ 0 → s.b ≠ 0 → s.col ≤ ind ∧ s.f ≤ max ind column ∧ s.l ≤ ind
theorem Inv.first {at' column ind n : Nat} (h : at' ≤ n) : Inv at' column ind n ⟨at', column, 0, 0, 0⟩ where
  ge := Nat.le_refl _
  le := h
  col := Nat.le_refl _
  b := by simp
  f := by simp
  l := by simp
  zero := fun _ => ⟨rfl, rfl⟩
  one := fun _ _ => by simp only; omega
  more := fun _ h => absurd rfl h
theorem Inv.sp {at' column ind n : Nat} {s : S} (h : Inv at' column ind n s) (hp : s.p < n) (hl : ind = 0 ∨ s.col < ind) : Inv at' column ind n s.sp := by
  obtain ⟨h1, h2, h3, h4, h5, h6, h7, h8, h9⟩ := h
  refine ⟨?_, ?_, ?_, ?_, ?_, ?_, h7, fun a b => ?_, fun a b => ?_⟩
  · simp only [S.sp]; omega
  · simp only [S.sp]; omega
  · simp only [S.sp]; omega
  · simp only [S.sp]; omega
  · simp only [S.sp]; omega
  · simp only [S.sp]; omega
  · have := h8 a b; simp only [S.sp]; omega
  · have := h9 a b; simp only [S.sp]; omega
theorem Inv.br {at' column ind n : Nat} {s : S} {m : Nat} (h : Inv at' column ind n s) (hm : 0 < m) (hp : s.p + m ≤ n) : Inv at' column ind n (s.br m) := by
  obtain ⟨h1, h2, h3, h4, h5, h6, h7, h8, h9⟩ := h
  by_cases e : s.b = 0
  · have hz := h7 e
    refine ⟨?_, ?_, ?_, ?_, ?_, ?_, fun a => ?_, fun a b => ?_, fun a b => ?_⟩
    · simp only [S.br]; omega
    · simp only [S.br]; omega
    · simp only [S.br]; omega
    · simp only [S.br]; omega
    · simp only [S.br, e, if_true]; omega
    · simp only [S.br, e, if_true]; omega
    · simp only [S.br] at a; omega
    · simp only [S.br] at b; omega
    · have := h8 a e; simp only [S.br, e, if_true]; omega
  · refine ⟨?_, ?_, ?_, ?_, ?_, ?_, fun a => ?_, fun a b => ?_, fun a b => ?_⟩
    · simp only [S.br]; omega
    · simp only [S.br]; omega
    · simp only [S.br]; omega
    · simp only [S.br]; omega
    · simp only [S.br, e, if_false]; omega
    · simp only [S.br, e, if_false]; omega
    · simp only [S.br] at a; omega
    · simp only [S.br] at b; omega
    · have := h9 a e; simp only [S.br, e, if_false]; omega

/-- The scanner stands where K steps of walkBlanks lead to. -/
def St (T : Nat → Int) (n at' column ind : Nat) (s : S) : Prop :=
  Inv at' column ind n s ∧ ∃ K, (∀ j, j < K → can T n (it T n ⟨at', column, 0, 0, 0⟩ j)) ∧ s = it T n ⟨at', column, 0, 0, 0⟩ K
theorem St.first {T : Nat → Int} {n at' column ind : Nat} (h : at' ≤ n) : St T n at' column ind ⟨at', column, 0, 0, 0⟩ :=
  ⟨Inv.first h, 0, fun j hj => absurd hj (by omega), rfl⟩
theorem St.sp {T : Nat → Int} {n at' column ind : Nat} {s : S} (h : St T n at' column ind s) (hp : s.p < n) (ht : T s.p = 32) (hl : ind = 0 ∨ s.col < ind) : St T n at' column ind s.sp := by
  obtain ⟨hi, K, hK, rfl⟩ := h
  refine ⟨hi.sp hp hl, K + 1, fun j hj => ?_, ?_⟩
  · by_cases e : j = K
    · subst e; exact ⟨hp, .inl ht⟩
    · exact hK j (by omega)
  · show _ = step T n _
    unfold step
    rw [if_pos ht]
theorem St.br {T : Nat → Int} {n at' column ind : Nat} {s : S} (h : St T n at' column ind s) (hb : 0 < lb T n s.p) : St T n at' column ind (s.br (lb T n s.p).toNat) := by
  obtain ⟨hi, K, hK, rfl⟩ := h
  have h1 := lb_in hb
  have h2 := lb_le (T := T) (n := n) (i := (it T n ⟨at', column, 0, 0, 0⟩ K).p)
  have h3 := h2.2.2 (by omega)
  refine ⟨hi.br (by omega) (by omega), K + 1, fun j hj => ?_, ?_⟩
  · by_cases e : j = K
    · subst e; exact ⟨h1.1, .inr hb⟩
    · exact hK j (by omega)
  · show _ = step T n _
    unfold step
    rw [if_neg h1.2.1]

/-- The two answers of walkBlanks at the end. -/
def S.first (s : S) : Nat := if s.b = 0 then s.col else s.f
def S.later (s : S) : Nat := if s.b = 0 then s.l else max s.l s.col
theorem br_deep {at' column ind n : Nat} {s : S} (h : Inv at' column ind n s) (m : Nat) : max (s.br m).f (s.br m).l = max (max s.f s.l) s.col := by
  by_cases e : s.b = 0
  · have := h.zero e
    simp only [S.br, e, if_true]; omega
  · simp only [S.br, e, if_false]; omega
theorem end_deep {at' column ind n : Nat} {s : S} (h : Inv at' column ind n s) : max s.first s.later = max (max s.f s.l) s.col := by
  by_cases e : s.b = 0
  · have := h.zero e
    simp only [S.first, S.later, e, if_true]; omega
  · simp only [S.first, S.later, e, if_false]; omega
theorem end_lim {at' column ind n : Nat} {s : S} (h : Inv at' column ind n s) (hi : ind ≠ 0) : s.first ≤ max ind column ∧ s.later ≤ ind := by
  by_cases e : s.b = 0
  · have := h.zero e
    have := h.one hi e
    simp only [S.first, S.later, e, if_true]; omega
  · have := h.more hi e
    simp only [S.first, S.later, e, if_false]; omega
end Go.Proofs.Qxb6600099a
