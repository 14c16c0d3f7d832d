import Derived.Test.Qxb6600099aC
namespace Go.Proofs.Qxb6600099a

/-- singleBreak's choice among the six spellings. -/
def ix (c : Int) : Nat :=
  if c % 5 = 0 then 4 else if c % 5 = 1 then 5 else if c % 5 = 2 then 3 else if c % 5 = 3 then 0 else 1
theorem ix_lt (c : Int) : ix c < 6 := by
  unfold ix
  repeat' split
  all_goals omega
/-- The text that the first k codes spell. -/
def txt (C : Nat → Int) : Nat → List Int
  | 0 => []
  | k + 1 => txt C k ++ sp (ix (C k))
theorem txt_len_succ (C : Nat → Int) (k : Nat) : (txt C (k + 1)).length = (txt C k).length + (sp (ix (C k))).length := by simp [txt]
theorem txt_len_le (C : Nat → Int) : ∀ k, (txt C k).length ≤ 3 * k
  | 0 => by simp [txt]
  | k + 1 => by
    have := txt_len_le C k
    have := (sp_len (ix_lt (C k))).2
    rw [txt_len_succ]; omega
theorem txt_ok (C : Nat → Int) : ∀ k, ∀ x ∈ txt C k, 0 ≤ x ∧ x ≤ 255
  | 0 => by simp [txt]
  | k + 1 => by
    intro x hx
    simp only [txt, List.mem_append] at hx
    rcases hx with h | h
    · exact txt_ok C k x h
    · exact sp_ok _ x h
theorem txt_mono (C : Nat → Int) (n : Nat) : ∀ d, ∃ r, txt C (n + d) = txt C n ++ r
  | 0 => ⟨[], by simp⟩
  | d + 1 => by
    obtain ⟨r, h⟩ := txt_mono C n d
    exact ⟨r ++ sp (ix (C (n + d))), by rw [← Nat.add_assoc]; simp only [txt]; rw [h, List.append_assoc]⟩
/-- Behind the first k codes stands the k-th one's spelling. -/
theorem txt_at (C : Nat → Int) {n k : Nat} (hk : k < n) : ∃ r, txt C n = txt C k ++ (sp (ix (C k)) ++ r) := by
  obtain ⟨d, rfl⟩ : ∃ d, n = k + 1 + d := ⟨n - (k + 1), by omega⟩
  obtain ⟨r, h⟩ := txt_mono C (k + 1) d
  exact ⟨r, by rw [h]; simp [txt]⟩
def tT (C : Nat → Int) (n i : Nat) : Int := (txt C n).getD i 0
theorem tT_at (C : Nat → Int) {n k j : Nat} (hk : k < n) (hj : j < (sp (ix (C k))).length) : tT C n ((txt C k).length + j) = (sp (ix (C k))).getD j 0 := by
  obtain ⟨r, h⟩ := txt_at C hk
  unfold tT
  rw [h]
  simp only [List.getD_eq_getElem?_getD]
  rw [List.getElem?_append_right (by omega), Nat.add_sub_cancel_left, List.getElem?_append_left hj]
theorem txt_le (C : Nat → Int) {n k : Nat} (hk : k < n) : (txt C k).length + (sp (ix (C k))).length ≤ (txt C n).length := by
  obtain ⟨r, h⟩ := txt_at C hk
  rw [h]; simp only [List.length_append]; omega

/-- How far the law steps from code k. -/
abbrev pair (C : Nat → Int) (n k : Nat) : Prop := C k % 5 = 1 ∧ k + 1 < n ∧ C (k + 1) % 5 = 0

/-- THE PLAIN LAW: where code k's spelling begins, lineBreak reads it; a CR with an LF behind it as one. -/
theorem lb_single (C : Nat → Int) {n k : Nat} (hk : k < n) : lb (tT C n) (txt C n).length (txt C k).length = if pair C n k then 2 else ((sp (ix (C k))).length : Int) := by
  have hle := txt_le C hk
  have hl := sp_len (ix_lt (C k))
  have h0 := tT_at C hk (j := 0) hl.1
  rw [Nat.add_zero] at h0
  have hr : 0 ≤ C k % 5 ∧ C k % 5 < 5 := ⟨Int.emod_nonneg _ (by omega), Int.emod_lt_of_pos _ (by omega)⟩
  unfold lb
  rw [if_neg (by omega)]
  by_cases c1 : C k % 5 = 1
  · have e : ix (C k) = 5 := by unfold ix; rw [if_neg (by omega), if_pos c1]
    rw [e] at h0 hle
    have h0' : tT C n (txt C k).length = 13 := h0
    simp only [sp, List.length_cons, List.length_nil] at hle
    rw [if_neg (by rw [h0']; decide), if_pos h0']
    by_cases hn : k + 1 < n
    · have hle' := txt_le C hn
      have hl' := sp_len (ix_lt (C (k + 1)))
      have g0 := tT_at C hn (j := 0) hl'.1
      rw [txt_len_succ, e] at g0 hle'
      have g0' : tT C n ((txt C k).length + 1) = (sp (ix (C (k + 1)))).getD 0 0 := g0
      rw [show (sp 5).length = 1 from rfl] at hle'
      have hr' : 0 ≤ C (k + 1) % 5 ∧ C (k + 1) % 5 < 5 := ⟨Int.emod_nonneg _ (by omega), Int.emod_lt_of_pos _ (by omega)⟩
      by_cases c0 : C (k + 1) % 5 = 0
      · have e' : ix (C (k + 1)) = 4 := by unfold ix; rw [if_pos c0]
        rw [if_pos ⟨by omega, by rw [g0', e']; rfl⟩, if_pos ⟨c1, hn, c0⟩]
      · rw [if_neg, if_neg (show ¬ pair C n k from fun h => c0 h.2.2), e]; rfl
        rintro ⟨_, h⟩
        rw [g0'] at h
        revert h
        unfold ix
        rw [if_neg c0]
        split
        · decide
        · split
          · decide
          · split <;> decide
    · have hkn : k + 1 = n := by omega
      have : (txt C n).length = (txt C k).length + 1 := by rw [← hkn, txt_len_succ, e]; rfl
      rw [if_neg (by omega), if_neg (show ¬ pair C n k from fun h => hn h.2.1), e]; rfl
  · rw [if_neg (show ¬ pair C n k from fun h => c1 h.1)]
    by_cases c0 : C k % 5 = 0
    · have e : ix (C k) = 4 := by unfold ix; rw [if_pos c0]
      rw [e] at h0 ⊢
      rw [if_pos (show _ = (10 : Int) from h0)]; rfl
    · by_cases c2 : C k % 5 = 2
      · have e : ix (C k) = 3 := by unfold ix; rw [if_neg c0, if_neg c1, if_pos c2]
        have h1 := tT_at C hk (j := 1) (by rw [e]; decide)
        rw [e] at h0 h1 hle ⊢
        have h0' : tT C n (txt C k).length = 194 := h0
        have h1' : tT C n ((txt C k).length + 1) = 133 := h1
        simp only [sp, List.length_cons, List.length_nil] at hle
        rw [if_neg (by rw [h0']; decide), if_neg (by rw [h0']; decide), if_pos h0', if_pos ⟨by omega, h1'⟩]; rfl
      · by_cases c3 : C k % 5 = 3
        · have e : ix (C k) = 0 := by unfold ix; rw [if_neg c0, if_neg c1, if_neg c2, if_pos c3]
          have h1 := tT_at C hk (j := 1) (by rw [e]; decide)
          have h2 := tT_at C hk (j := 2) (by rw [e]; decide)
          rw [e] at h0 h1 h2 hle ⊢
          have h0' : tT C n (txt C k).length = 226 := h0
          have h1' : tT C n ((txt C k).length + 1) = 128 := h1
          have h2' : tT C n ((txt C k).length + 2) = 168 := h2
          simp only [sp, List.length_cons, List.length_nil] at hle
          rw [if_neg (by rw [h0']; decide), if_neg (by rw [h0']; decide), if_neg (by rw [h0']; decide), if_pos h0', if_pos ⟨by omega, h1', .inl h2'⟩]; rfl
        · have e : ix (C k) = 1 := by unfold ix; rw [if_neg c0, if_neg c1, if_neg c2, if_neg c3]
          have h1 := tT_at C hk (j := 1) (by rw [e]; decide)
          have h2 := tT_at C hk (j := 2) (by rw [e]; decide)
          rw [e] at h0 h1 h2 hle ⊢
          have h0' : tT C n (txt C k).length = 226 := h0
          have h1' : tT C n ((txt C k).length + 1) = 128 := h1
          have h2' : tT C n ((txt C k).length + 2) = 169 := h2
          simp only [sp, List.length_cons, List.length_nil] at hle
          rw [if_neg (by rw [h0']; decide), if_neg (by rw [h0']; decide), if_neg (by rw [h0']; decide), if_pos h0', if_pos ⟨by omega, h1', .inr h2'⟩]; rfl
theorem pair_len (C : Nat → Int) {n k : Nat} (h : pair C n k) : (txt C (k + 2)).length = (txt C k).length + 2 := by
  have e : ix (C k) = 5 := by unfold ix; rw [if_neg (by have := h.1; omega), if_pos h.1]
  have e' : ix (C (k + 1)) = 4 := by unfold ix; rw [if_pos h.2.2]
  rw [show k + 2 = (k + 1) + 1 from rfl, txt_len_succ, txt_len_succ, e, e']; rfl
theorem lb_end (C : Nat → Int) (n : Nat) : lb (tT C n) (txt C n).length (txt C n).length = 0 := by
  unfold lb
  rw [if_pos (Nat.le_refl _)]
end Go.Proofs.Qxb6600099a
