import Derived.Test.Qxb6600004aLf
namespace Go.Proofs.Qxb6600004a
namespace LO
/-- The alignment that the law wants, and the blanks' total size. -/
def w0 (o : Int) : Int := if 1 < o then o else 1
def wB (o : Int) (A : Nat → Int) : Nat → Int
  | 0 => w0 o
  | k + 1 => mx (wB o A k) (A k)
def wF (w : Int) (A : Nat → Int) : Nat → Int
  | 0 => w
  | k + 1 => mx (wF w A k) (A k)
def sumS (S : Nat → Int) : Nat → Int
  | 0 => 0
  | k + 1 => sumS S k + S k

theorem mx_one {a : Int} (h : 1 ≤ a) : mx a 1 = a := by unfold mx; split <;> omega
theorem pre_al {s : LS} {m p : Int} (h : Ok s m) : (pre s p).al = s.al := by
  unfold pre
  split
  · exact mx_one h.2.2.1
  · rfl
theorem pre_e {s : LS} {p : Int} : (pre s p).e = s.e + pos p := by
  unfold pre pos
  split
  · show ru s.e 1 + p = _
    rw [ru_one]
  · omega
theorem s0_al (o : Int) : (s0 o).al = w0 o := by
  unfold s0 w0
  split
  · show mx 1 o = _
    unfold mx
    rfl
  · rw [if_neg (by omega)]
theorem stB_al (o : Int) (S A : Nat → Int) : ∀ k, (stB o S A k).al = wB o A k
  | 0 => s0_al o
  | k + 1 => by show mx (stB o S A k).al (A k) = mx (wB o A k) (A k); rw [stB_al o S A k]
theorem stF_al {s : LS} {m : Int} {S A P : Nat → Int} (hs : Ok s m) : ∀ k, OkF S A P k → (stF s S A P k).al = wF s.al A k
  | 0, _ => rfl
  | k + 1, h => by
    have hk : OkF S A P k := fun i hi => h i (by omega)
    show mx (pre (stF s S A P k) (P k)).al (A k) = mx (wF s.al A k) (A k)
    rw [pre_al (ok_stF hs k hk), stF_al hs k hk]
theorem sumS_le {o : Int} {S A : Nat → Int} (ho : o ≤ 536870912) : ∀ k, OkB S A k → sumS S k ≤ (stB o S A k).e
  | 0, _ => (ok_s0 ho).1
  | k + 1, h => by
    have hk : OkB S A k := fun i hi => h i (by omega)
    have := sumS_le (o := o) ho k hk
    have := h k (by omega)
    have := ru_ge (n := (stB o S A k).e) (a := A k) (by omega)
    show sumS S k + S k ≤ ru (stB o S A k).e (A k) + S k
    omega
theorem sumS_bd {S A : Nat → Int} : ∀ k, OkB S A k → 0 ≤ sumS S k ∧ sumS S k ≤ sB S A k
  | 0, _ => by simp [sumS, sB]
  | k + 1, h => by
    have := sumS_bd (S := S) (A := A) k (fun i hi => h i (by omega))
    have := h k (by omega)
    simp only [sumS, sB]
    omega
theorem w0_bd {o : Int} (ho : o ≤ 536870912) : 1 ≤ w0 o ∧ w0 o ≤ 536870912 := by unfold w0; split <;> omega
theorem wB_bd {o : Int} {S A : Nat → Int} (ho : o ≤ 536870912) : ∀ k, OkB S A k → 1 ≤ wB o A k ∧ wB o A k ≤ 536870912
  | 0, _ => w0_bd ho
  | k + 1, h => by
    have := wB_bd (S := S) ho k (fun i hi => h i (by omega))
    have := h k (by omega)
    show 1 ≤ mx _ _ ∧ mx _ _ ≤ _
    unfold mx
    split <;> omega
theorem wF_bd {w : Int} {S A P : Nat → Int} (hw : 1 ≤ w ∧ w ≤ 536870912) : ∀ k, OkF S A P k → 1 ≤ wF w A k ∧ wF w A k ≤ 536870912
  | 0, _ => hw
  | k + 1, h => by
    have := wF_bd (S := S) (P := P) hw k (fun i hi => h i (by omega))
    have := h k (by omega)
    show 1 ≤ mx _ _ ∧ mx _ _ ≤ _
    unfold mx
    split <;> omega

/-- Where the law takes a field's predecessor to end. -/
def eF (o : Int) (bS bA : Nat → Int) (nb : Nat) (fS fA fP : Nat → Int) (j : Nat) : Int := if j = 0 then sumS bS nb else (stF (stB o bS bA nb) fS fA fP j).e

theorem eF_le {o t : Int} {nb nf : Nat} {bS bA fS fA fP : Nat → Int} (h : Shape o nb bS bA nf fS fA fP t) (j : Nat) : eF o bS bA nb fS fA fP j ≤ (stF (stB o bS bA nb) fS fA fP j).e := by
  unfold eF
  split
  · rename_i e
    subst e
    exact sumS_le h.ho nb h.okB
  · exact Int.le_refl _
theorem eF_bd {o t : Int} {nb nf : Nat} {bS bA fS fA fP : Nat → Int} (h : Shape o nb bS bA nf fS fA fP t) (j : Nat) (hj : j ≤ nf) : 0 ≤ eF o bS bA nb fS fA fP j ∧ eF o bS bA nb fS fA fP j ≤ 536870912 := by
  have k1 := ok_stB h.ho nb h.okB
  have k2 := ok_stF k1 j (fun i hi => h.okF i (by omega))
  have m := sF_mono nf j hj h.okF
  have s := h.sum
  have p := pos_nonneg t
  have e := eF_le h j
  have := k2.2.1
  refine ⟨?_, by omega⟩
  unfold eF
  split
  · exact (sumS_bd nb h.okB).1
  · exact k2.1
theorem eF_succ (o : Int) (bS bA : Nat → Int) (nb : Nat) (fS fA fP : Nat → Int) (j : Nat) : eF o bS bA nb fS fA fP (j + 1) = offF (stB o bS bA nb) fS fA fP j + fS j := by
  unfold eF
  rw [if_neg (by omega)]
  rfl
/-- Each field: no earlier than the end before it and its pad; at a multiple of its alignment; at the least such where the end is known. -/
theorem law_field {o t : Int} {nb nf : Nat} {bS bA fS fA fP : Nat → Int} (h : Shape o nb bS bA nf fS fA fP t) (j : Nat) (hj : j < nf) :
    eF o bS bA nb fS fA fP j + pos (fP j) ≤ offF (stB o bS bA nb) fS fA fP j ∧ offF (stB o bS bA nb) fS fA fP j % fA j = 0 ∧
    (0 < j ∨ nb = 0 → offF (stB o bS bA nb) fS fA fP j - fA j < eF o bS bA nb fS fA fP j + pos (fP j)) ∧ 0 ≤ offF (stB o bS bA nb) fS fA fP j ∧ offF (stB o bS bA nb) fS fA fP j + fS j ≤ 536870912 := by
  have hf := h.okF j hj
  have ha : 1 ≤ fA j := by omega
  have e := eF_le h j
  have g := ru_ge (n := (pre (stF (stB o bS bA nb) fS fA fP j) (fP j)).e) ha
  have l := ru_le (n := (pre (stF (stB o bS bA nb) fS fA fP j) (fP j)).e) ha
  have b0 := eF_bd h j (by omega)
  have b1 := eF_bd h (j + 1) (by omega)
  have pp := pos_nonneg (fP j)
  rw [eF_succ] at b1
  rw [pre_e] at g l
  unfold offF at b1 ⊢
  rw [pre_e] at b1 ⊢
  refine ⟨by omega, ru_mod, fun hc => ?_, by omega, by omega⟩
  have : eF o bS bA nb fS fA fP j = (stF (stB o bS bA nb) fS fA fP j).e := by
    unfold eF
    split
    · rename_i e0
      have hn : nb = 0 := by omega
      subst e0 hn
      show sumS bS 0 = (s0 o).e
      have := (ok_s0 h.ho)
      unfold s0
      split
      · show (0 : Int) = ru 0 o + 0
        rw [ru_zero (by omega)]; rfl
      · rfl
    · rfl
  omega
/-- The alignment, the size. -/
theorem law_al {o t : Int} {nb nf : Nat} {bS bA fS fA fP : Nat → Int} (h : Shape o nb bS bA nf fS fA fP t) {s : LS} (hs : s = pre (stF (stB o bS bA nb) fS fA fP nf) t) : s.al = wF (wB o bA nb) fA nf := by
  have k1 := ok_stB h.ho nb h.okB
  have k2 := ok_stF k1 nf h.okF
  rw [hs, pre_al k2, stF_al k1 nf h.okF, stB_al]
theorem law_size {o t : Int} {nb nf : Nat} {bS bA fS fA fP : Nat → Int} (h : Shape o nb bS bA nf fS fA fP t) {s : LS} (hs : s = pre (stF (stB o bS bA nb) fS fA fP nf) t) :
    0 ≤ ru (endF s) s.al ∧ ru (endF s) s.al % s.al = 0 ∧ 1 ≤ s.al ∧ s.al ≤ 536870912 ∧ eF o bS bA nb fS fA fP nf + pos t ≤ ru (endF s) s.al ∧ ru (endF s) s.al ≤ 1610612736 := by
  have k1 := ok_stB h.ho nb h.okB
  have k2 := ok_stF k1 nf h.okF
  have k3 := k2.pre (p := t)
  have sm := h.sum
  rw [← hs] at k3
  have e := eF_le h nf
  have b := eF_bd h nf (Nat.le_refl _)
  have es : s.e = (stF (stB o bS bA nb) fS fA fP nf).e + pos t := by rw [hs, pre_e]
  have al := k3.2.2
  have g := ru_ge (n := endF s) al.1
  have l := ru_le (n := endF s) al.1
  have f : s.e ≤ endF s ∧ endF s ≤ s.e + 1 := by unfold endF; split <;> omega
  have := k3.2.1
  have := pos_nonneg t
  exact ⟨by omega, ru_mod, al.1, al.2, by omega, by omega⟩
/-- A final field of size 0. -/
theorem law_last {o t : Int} {nb nf : Nat} {bS bA fS fA fP : Nat → Int} (h : Shape o nb bS bA nf fS fA fP t) {s : LS} (hs : s = pre (stF (stB o bS bA nb) fS fA fP nf) t) (ht : pos t = 0) (hn : 0 < nf) (hz : fS (nf - 1) = 0) (hp : 0 < ru (endF s) s.al) :
    offF (stB o bS bA nb) fS fA fP (nf - 1) < ru (endF s) s.al := by
  obtain ⟨m, rfl⟩ : ∃ m, nf = m + 1 := ⟨nf - 1, by omega⟩
  simp only [Nat.add_sub_cancel] at hz ⊢
  have k1 := ok_stB h.ho nb h.okB
  have k2 := ok_stF k1 (m + 1) h.okF
  have ht' : ¬ 0 < t := by unfold pos at ht; split at ht <;> omega
  have es : s = stF (stB o bS bA nb) fS fA fP (m + 1) := by rw [hs]; unfold pre; rw [if_neg ht']
  have e1 : s.e = offF (stB o bS bA nb) fS fA fP m := by
    rw [es]
    show offF (stB o bS bA nb) fS fA fP m + fS m = _
    omega
  have e2 : s.le = true := by
    rw [es]
    show (fS m == 0) = true
    simp [hz]
  rw [← es] at k2
  have g := ru_ge (n := endF s) k2.2.2.1
  have k0 := k2.1
  by_cases h0 : 0 < s.e
  · have : endF s = s.e + 1 := by unfold endF; rw [if_pos ⟨h0, e2⟩]
    omega
  · have : endF s = 0 := by unfold endF; rw [if_neg (by omega)]; omega
    rw [this, ru_zero k2.2.2.1] at hp
    omega
end LO
end Go.Proofs.Qxb6600004a
