import Derived.Test.Qxb6600004aLc
namespace Go.Proofs.Qxb6600004a
open Go.RowKit
namespace LO
/-- The state of laidOut: where the last piece ends, the alignment so far, whether the piece placed last has size 0. -/
structure LS where
  e : Int
  al : Int
  le : Bool
def LS.place (s : LS) (sz a : Int) : LS := ⟨ru s.e a + sz, mx s.al a, sz == 0⟩
def pre (s : LS) (p : Int) : LS := if 0 < p then s.place p 1 else s
def s0 (o : Int) : LS := if 0 < o then LS.place ⟨0, 1, false⟩ 0 o else ⟨0, 1, false⟩
def stB (o : Int) (S A : Nat → Int) : Nat → LS
  | 0 => s0 o
  | k + 1 => (stB o S A k).place (S k) (A k)
def stF (s : LS) (S A P : Nat → Int) : Nat → LS
  | 0 => s
  | k + 1 => (pre (stF s S A P k) (P k)).place (S k) (A k)
def offF (s : LS) (S A P : Nat → Int) (k : Nat) : Int := ru (pre (stF s S A P k) (P k)).e (A k)
def endF (s : LS) : Int := if 0 < s.e ∧ s.le = true then s.e + 1 else s.e

/-- The state is sound, and its end is at most m. -/
def Ok (s : LS) (m : Int) : Prop := 0 ≤ s.e ∧ s.e ≤ m ∧ 1 ≤ s.al ∧ s.al ≤ 536870912
theorem mx_le {a b m : Int} (h1 : a ≤ m) (h2 : b ≤ m) : mx a b ≤ m := by unfold mx; split <;> omega
theorem mx_ge (a b : Int) : a ≤ mx a b ∧ b ≤ mx a b := by unfold mx; split <;> omega
theorem Ok.place {s : LS} {m sz a : Int} (h : Ok s m) (h1 : 0 ≤ sz) (h2 : 1 ≤ a) (h3 : a ≤ 536870912) : Ok (s.place sz a) (m + (sz + a)) := by
  obtain ⟨x1, x2, x3, x4⟩ := h
  have r1 := ru_ge (n := s.e) h2
  have r2 := ru_le (n := s.e) h2
  have := mx_ge s.al a
  exact ⟨by show 0 ≤ ru s.e a + sz; omega, by show ru s.e a + sz ≤ _; omega, by show 1 ≤ mx s.al a; omega, mx_le x4 h3⟩
theorem Ok.pre {s : LS} {m p : Int} (h : Ok s m) : Ok (LO.pre s p) (m + pos p) := by
  unfold LO.pre pos
  split
  · obtain ⟨x1, x2, x3, x4⟩ := h
    have := mx_ge s.al 1
    refine ⟨?_, ?_, ?_, mx_le x4 (by omega)⟩
    · show 0 ≤ ru s.e 1 + p
      rw [ru_one]; omega
    · show ru s.e 1 + p ≤ m + p
      rw [ru_one]; omega
    · show 1 ≤ mx s.al 1
      omega
  · simpa using h
theorem Ok.mono {s : LS} {m m' : Int} (h : Ok s m) (hm : m ≤ m') : Ok s m' := ⟨h.1, by have := h.2.1; omega, h.2.2⟩
theorem ok_s0 {o : Int} (ho : o ≤ 536870912) : Ok (s0 o) (pos o) := by
  unfold s0 pos
  split
  · rename_i h
    refine ⟨?_, ?_, ?_, ?_⟩
    · show 0 ≤ ru 0 o + 0
      rw [ru_zero (by omega)]; omega
    · show ru 0 o + 0 ≤ o
      rw [ru_zero (by omega)]; omega
    · show 1 ≤ mx 1 o
      have := mx_ge 1 o; omega
    · exact mx_le (show (1 : Int) ≤ 536870912 by omega) ho
  · exact ⟨by simp, by simp, by simp, by simp⟩
theorem ok_stB {o : Int} {S A : Nat → Int} (ho : o ≤ 536870912) : ∀ k, OkB S A k → Ok (stB o S A k) (pos o + sB S A k)
  | 0, _ => by simpa [sB, stB] using ok_s0 ho
  | k + 1, h => by
    have ih := ok_stB (S := S) (A := A) ho k (fun i hi => h i (by omega))
    have := h k (by omega)
    have := ih.place (sz := S k) (a := A k) (by omega) (by omega) (by omega)
    exact this.mono (by simp only [sB]; omega)
theorem ok_stF {s : LS} {m : Int} {S A P : Nat → Int} (hs : Ok s m) : ∀ k, OkF S A P k → Ok (stF s S A P k) (m + sF S A P k)
  | 0, _ => by simpa [sF, stF] using hs
  | k + 1, h => by
    have ih := ok_stF (S := S) (A := A) (P := P) hs k (fun i hi => h i (by omega))
    have := h k (by omega)
    have := (ih.pre (p := P k)).place (sz := S k) (a := A k) (by omega) (by omega) (by omega)
    exact this.mono (by simp only [sF]; omega)
theorem sB_nonneg {S A : Nat → Int} : ∀ k, OkB S A k → 0 ≤ sB S A k
  | 0, _ => by simp [sB]
  | k + 1, h => by have := sB_nonneg (S := S) (A := A) k (fun i hi => h i (by omega)); have := h k (by omega); simp only [sB]; omega
theorem sB_mono {S A : Nat → Int} : ∀ n k, k ≤ n → OkB S A n → sB S A k ≤ sB S A n
  | 0, k, hk, _ => by
    obtain rfl : k = 0 := by omega
    exact Int.le_refl _
  | n + 1, k, hk, h => by
    by_cases e : k = n + 1
    · subst e; exact Int.le_refl _
    · have := sB_mono (S := S) (A := A) n k (by omega) (fun i hi => h i (by omega)); have := h n (by omega); simp only [sB]; omega
theorem sF_nonneg {S A P : Nat → Int} : ∀ k, OkF S A P k → 0 ≤ sF S A P k
  | 0, _ => by simp [sF]
  | k + 1, h => by have := sF_nonneg (S := S) (A := A) (P := P) k (fun i hi => h i (by omega)); have := h k (by omega); have := pos_nonneg (P k); simp only [sF]; omega
theorem sF_mono {S A P : Nat → Int} : ∀ n k, k ≤ n → OkF S A P n → sF S A P k ≤ sF S A P n
  | 0, k, hk, _ => by
    obtain rfl : k = 0 := by omega
    exact Int.le_refl _
  | n + 1, k, hk, h => by
    by_cases e : k = n + 1
    · subst e; exact Int.le_refl _
    · have := sF_mono (S := S) (A := A) (P := P) n k (by omega) (fun i hi => h i (by omega)); have := h n (by omega); have := pos_nonneg (P n); simp only [sF]; omega

theorem Kp.below {be ba bl B : Nat} {w w' : World} (h : Kp be ba bl w w') (h1 : B ≤ be) (h2 : B ≤ ba) (h3 : B ≤ bl) (hB : B ≤ w.heap.size) : Below B w w' :=
  ⟨h.os, h.tape, h.output, h.size, fun k hk => h.block k (by omega) (by omega) (by omega) (by omega)⟩
theorem Kp.has {be ba bl g : Nat} {cs : Array Value} {t : TypeId} {w w' : World} (h : Kp be ba bl w w') (hg : Has g cs t w) (h1 : g ≠ be) (h2 : g ≠ ba) (h3 : g ≠ bl) : Has g cs t w' := (h.block g hg.lt h1 h2 h3).trans hg

/-- A row of numbers. -/
def RowI (w : World) (a : Option Addr) (n : Nat) (F : Nat → Int) : Prop :=
  n = 0 ∨ ∃ b off, a = some ⟨b, off, none⟩ ∧ b < w.heap.size ∧ ∀ i, i < n → w.cell? ⟨b, off + i, none⟩ = some (.int .i64 (F i))
/-- A row of goMembers, of which the pads alone are set. -/
def RowG (w : World) (a : Option Addr) (n : Nat) (P : Nat → Int) : Prop :=
  n = 0 ∨ ∃ b off, a = some ⟨b, off, none⟩ ∧ b < w.heap.size ∧ ∀ i, i < n → w.cell? ⟨b, off + i * 4, none⟩ = some (.int .i64 0) ∧ w.cell? ⟨b, off + i * 4 + 1, none⟩ = some (.bool false) ∧ w.cell? ⟨b, off + i * 4 + 2, none⟩ = some (.int .i64 (P i)) ∧ w.cell? ⟨b, off + i * 4 + 3, none⟩ = some (.bool false)
theorem RowI.below {w w' : World} {a : Option Addr} {n : Nat} {F : Nat → Int} (h : RowI w a n F) (hb : Below w.heap.size w w') : RowI w' a n F := by
  rcases h with h | ⟨b, off, ha, hlt, hc⟩
  · exact .inl h
  · exact .inr ⟨b, off, ha, Nat.lt_of_lt_of_le hlt hb.size, fun i hi => (hb.cell (p := ⟨b, off + i, none⟩) hlt).trans (hc i hi)⟩

/-- Block g: a row of n numbers, the first k of them as F says. -/
def OwnI (g n : Nat) (F : Nat → Int) (k : Nat) (w : World) : Prop :=
  ∃ cs : Array Value, Has g cs 3 w ∧ cs.size = n ∧ ∀ i, i < k → cs[i]? = some (.int .i64 (F i))
theorem OwnI.step {g n : Nat} {F : Nat → Int} {k : Nat} {w : World} (h : OwnI g n F k w) (hk : k < n) : OwnI g n F (k + 1) (w.setCell ⟨g, k, none⟩ (.int .i64 (F k))) := by
  obtain ⟨cs, hh, hs, hc⟩ := h
  refine ⟨_, hh.setCell _ _, by simpa using hs, fun i hi => ?_⟩
  by_cases e : i = k
  · subst e
    rw [Array.getElem?_setIfInBounds_self_of_lt (by omega)]
  · rw [Array.getElem?_setIfInBounds_ne (by omega)]; exact hc i (by omega)
theorem OwnI.row {g n : Nat} {F : Nat → Int} {w : World} (h : OwnI g n F n w) : RowI w (some ⟨g, 0, none⟩) n F := by
  obtain ⟨cs, hh, hs, hc⟩ := h
  refine .inr ⟨g, 0, rfl, hh.lt, fun i hi => ?_⟩
  rw [Nat.zero_add, hh.cell]
  exact hc i hi

/-- laidOut's own blocks, while its state is s. -/
structure Fr (w : World) (o t : Int) (aB aF : Option Addr) (nb cB nf cF : Nat) (s : LS) (W : World) : Prop where
  bel : Below w.heap.size w W
  box : Has w.heap.size #[.int .i64 o, .slice aB nb cB, .slice aF nf cF, .int .i64 t] 87 W
  res : Has (w.heap.size + 1) #[.int .i64 0, .int .i64 0] 92 W
  cap : Cap (w.heap.size + 1 + 1) (w.heap.size + 1 + 1 + 1) (w.heap.size + 1 + 1 + 1 + 1) s.e s.al s.le W
theorem Fr.step {w : World} {o t : Int} {aB aF : Option Addr} {nb cB nf cF : Nat} {s s' : LS} {W W' : World} (h : Fr w o t aB aF nb cB nf cF s W)
    (hc : Cap (w.heap.size + 1 + 1) (w.heap.size + 1 + 1 + 1) (w.heap.size + 1 + 1 + 1 + 1) s'.e s'.al s'.le W') (hk : Kp (w.heap.size + 1 + 1) (w.heap.size + 1 + 1 + 1) (w.heap.size + 1 + 1 + 1 + 1) W W') : Fr w o t aB aF nb cB nf cF s' W' :=
  ⟨h.bel.trans (hk.below (by omega) (by omega) (by omega) h.bel.size), hk.has h.box (by omega) (by omega) (by omega), hk.has h.res (by omega) (by omega) (by omega), hc⟩
theorem Cap.alloc {be ba bl : Nat} {e al : Int} {le : Bool} {w : World} (h : Cap be ba bl e al le w) (o : Obj) : Cap be ba bl e al le (w.alloc o) := ⟨h.he.alloc o, h.ha.alloc o, h.hl.alloc o, h.n1, h.n2, h.n3⟩
theorem Cap.below {be ba bl : Nat} {e al : Int} {le : Bool} {w w' : World} (h : Cap be ba bl e al le w) (hb : Below w.heap.size w w') : Cap be ba bl e al le w' := ⟨h.he.below hb h.he.lt, h.ha.below hb h.ha.lt, h.hl.below hb h.hl.lt, h.n1, h.n2, h.n3⟩
theorem Fr.on {w : World} {o t : Int} {aB aF : Option Addr} {nb cB nf cF : Nat} {s : LS} {W W' : World} (h : Fr w o t aB aF nb cB nf cF s W) (hb : Below W.heap.size W W') : Fr w o t aB aF nb cB nf cF s W' :=
  ⟨h.bel.trans (hb.mono h.bel.size), h.box.below hb h.box.lt, h.res.below hb h.res.lt, h.cap.below hb⟩
theorem Fr.cells {w : World} {o t : Int} {aB aF : Option Addr} {nb cB nf cF : Nat} {s : LS} {W : World} (h : Fr w o t aB aF nb cB nf cF s W) :
    W.cell? ⟨w.heap.size, 0, none⟩ = some (.int .i64 o) ∧ W.cell? ⟨w.heap.size, 1, none⟩ = some (.slice aB nb cB) ∧ W.cell? ⟨w.heap.size, 2, none⟩ = some (.slice aF nf cF) ∧ W.cell? ⟨w.heap.size, 3, none⟩ = some (.int .i64 t) :=
  ⟨h.box.cell 0, h.box.cell 1, h.box.cell 2, h.box.cell 3⟩
theorem OwnI.kp {be ba bl g n : Nat} {F : Nat → Int} {k : Nat} {w w' : World} (h : OwnI g n F k w) (hk : Kp be ba bl w w') (h1 : g ≠ be) (h2 : g ≠ ba) (h3 : g ≠ bl) : OwnI g n F k w' := by
  obtain ⟨cs, hh, hs⟩ := h
  exact ⟨cs, hk.has hh h1 h2 h3, hs⟩
theorem OwnI.alloc {g n : Nat} {F : Nat → Int} {k : Nat} {w : World} (h : OwnI g n F k w) (o : Obj) : OwnI g n F k (w.alloc o) := by
  obtain ⟨cs, hh, hs⟩ := h
  exact ⟨cs, hh.alloc o, hs⟩
theorem OwnI.free {g n : Nat} {F : Nat → Int} {k : Nat} {w : World} (h : OwnI g n F k w) (j : Nat) : w.frozen? ⟨g, j, none⟩ = false := by
  obtain ⟨cs, hh, hs⟩ := h
  exact hh.free j
theorem OwnI.there {g n : Nat} {F : Nat → Int} {k : Nat} {w : World} (h : OwnI g n F k w) {j : Nat} (hj : j < n) : ∃ v, w.cell? ⟨g, j, none⟩ = some v := by
  obtain ⟨cs, hh, hs, _⟩ := h
  exact has_cellAt hh (by omega)
theorem Fr.setG {w : World} {o t : Int} {aB aF : Option Addr} {nb cB nf cF : Nat} {s : LS} {W : World} (h : Fr w o t aB aF nb cB nf cF s W) {g j : Nat} (hg : w.heap.size + 1 + 1 + 1 + 1 < g) (v : Value) : Fr w o t aB aF nb cB nf cF s (W.setCell ⟨g, j, none⟩ v) :=
  ⟨h.bel.setCell (by show w.heap.size ≤ g; omega) v, h.box.other (by omega) v, h.res.other (by omega) v, ⟨h.cap.he.other (by omega) v, h.cap.ha.other (by omega) v, h.cap.hl.other (by omega) v, h.cap.n1, h.cap.n2, h.cap.n3⟩⟩
theorem forget {P : Program} {c : Code} {Q : Exit → Act → World → Prop} {a : Act} {w : World} (R : World → Prop) (hR : R w) (h : ∀ W, R W → c.wp P Q a W) : c.wp P Q a w := h w hR
end LO
open LO
theorem Try.info3 : (Try.prog.info? 3).map (fun i => (i.zero, i.size, i.bytes)) = some (some (.int .i64 0), 1, 8) := by kernel_rfl

/-- What laidOut answers. -/
def LaidPost (o : Int) (nb nf : Nat) (mS mA P : Nat → Int) (t : Int) (w : World) (e : Ending) (w' : World) : Prop :=
  ∃ (g : Nat) (s : LS), s = pre (stF (stB o mS mA nb) (fun j => mS (nb + j)) (fun j => mA (nb + j)) P nf) t ∧
    e = .returned (.tuple #[.slice (some ⟨g, 0, none⟩) nf nf, .agg #[.int .i64 (ru (endF s) s.al), .int .i64 s.al]]) ∧
    RowI w' (some ⟨g, 0, none⟩) nf (offF (stB o mS mA nb) (fun j => mS (nb + j)) (fun j => mA (nb + j)) P) ∧ Below w.heap.size w w'

set_option maxRecDepth 100000 in
set_option maxHeartbeats 4000000 in
theorem laid43 (o t : Int) (aB aF aM : Option Addr) (nb cB nf cF nM cM : Nat) (mS mA P : Nat → Int) (w : World) (hnb : nb ≤ 4096) (hnf : nf ≤ 4096) (hnM : nb + nf ≤ nM) (hnM' : nM ≤ 8192)
    (rF : RowG w aF nf P) (rM : RowB w aM nM mS mA) (hsh : Shape o nb mS mA nf (fun j => mS (nb + j)) (fun j => mA (nb + j)) P t) :
    Calls Try.prog 43 #[.agg #[.int .i64 o, .slice aB nb cB, .slice aF nf cF, .int .i64 t], .slice aM nM cM] w (LaidPost o nb nf mS mA P t w) := by
  go_enter Try.func43, Try.ntmps43
  go_upto_if 17 with fail
  go_cut [] from 14 (fun w' => Fr w o t aB aF nb cB nf cF (s0 o) w')
  case first =>
    have F0 : Fr w o t aB aF nb cB nf cF ⟨0, 1, false⟩ (((((w.alloc (.cells #[.int .i64 o, .slice aB nb cB, .slice aF nf cF, .int .i64 t] 87)).alloc (.cells #[.int .i64 0, .int .i64 0] 92)).alloc (.cells #[.int .i64 0] 3)).alloc (.cells #[.int .i64 1] 3)).alloc (.cells #[.bool false] 4)) :=
      ⟨((((((Below.refl _ _).alloc (Nat.le_refl _) _).alloc (by simp) _).alloc (by simp; omega) _).alloc (by simp; omega) _).alloc (by simp; omega) _), ((((Has.new _ _ _).alloc _).alloc _).alloc _).alloc _,
        by simpa using (((Has.new #[.int .i64 0, .int .i64 0] 92 (w.alloc _)).alloc _).alloc _).alloc _, ⟨by simpa using ((Has.new #[.int .i64 0] 3 ((w.alloc _).alloc _)).alloc _).alloc _, by simpa using (Has.new #[.int .i64 1] 3 (((w.alloc _).alloc _).alloc _)).alloc _, by simpa using Has.new #[.bool false] 4 ((((w.alloc _).alloc _).alloc _).alloc _), by omega, by omega, by omega⟩⟩
    have ho := hsh.ho
    by_cases hp : (0 : Int) < o
    · have e0 : Hid (s0 o = LS.place ⟨0, 1, false⟩ 0 o) := by show s0 o = _; unfold s0; rw [if_pos hp]
      clear hsh rF rM
      go_wp2_with fail
      refine (place51 0 o 0 1 false _ _ _ _ F0.cap (by omega) (by omega) (by omega) (by omega) (by omega) (by omega)).mono ?_
      rintro x w' ⟨rfl, hc, hk⟩
      have FF := F0.step (s' := LS.place ⟨0, 1, false⟩ 0 o) hc hk
      clear F0 hc hk
      go_wp2
      go_meet
      case rel => rw [e0.out]; exact FF
    · have e0 : Hid (s0 o = ⟨0, 1, false⟩) := by show s0 o = _; unfold s0; rw [if_neg hp]
      have HF : Hid _ := F0
      clear hsh rF rM F0
      go_wp2
      go_meet
      case rel => rw [e0.out]; exact HF.out
  case rest =>
    have hcs := hcut.cells
    go_wp2
    go_loopw [26] (fun i wr => ∃ k : Nat, k ≤ nb ∧ i = .int .i64 k ∧ Fr w o t aB aF nb cB nf cF (stB o mS mA k) wr) (fun i _ => nb - (intOf i).toNat)
    case atStart => exact ⟨0, Nat.zero_le _, rfl, hcut⟩
    case round =>
      clear hcs hcut
      obtain ⟨k, hk, rfl, hF⟩ := hrel
      by_cases hlt : k < nb
      · rcases rM with hz | ⟨b, off, rfl, hb, hc⟩
        · omega
        obtain ⟨q1, q2⟩ := hc k (by omega)
        have y1 := (hF.bel.cell (p := ⟨b, off + k * 2, none⟩) hb).trans q1
        have y2 := (hF.bel.cell (p := ⟨b, off + k * 2 + 1, none⟩) hb).trans q2
        have hok := ok_stB (o := o) (S := mS) (A := mA) hsh.ho k (fun i hi => hsh.okB i (by omega))
        have hm := sB_mono nb k (by omega) hsh.okB
        have hsF := sF_nonneg nf hsh.okF
        have hpt := pos_nonneg t
        have hsum := hsh.sum
        have hbk := hsh.okB k hlt
        have HF : Hid (Fr w o t aB aF nb cB nf cF (stB o mS mA k) wr) := hF
        have B1 : 0 ≤ (stB o mS mA k).e := hok.1
        have B2 : (stB o mS mA k).e ≤ 536870912 := by have := hok.2.1; omega
        clear hc hF q1 q2 rF hsh hok hm hsF hsum hpt
        go_wp2_with fail
        refine (place51 (mS k) (mA k) (stB o mS mA k).e (stB o mS mA k).al (stB o mS mA k).le _ _ _ _ HF.out.cap (by omega) (by omega) (by omega) (by omega) (by omega) (by omega)).mono ?_
        rintro x w' ⟨rfl, hc, hkp⟩
        have FF : Fr w o t aB aF nb cB nf cF (stB o mS mA (k + 1)) w' := HF.out.step (s' := (stB o mS mA k).place (mS k) (mA k)) hc hkp
        clear hc hkp
        go_wp2
        go_roundw
        case rel => exact ⟨k + 1, by omega, by go_num, FF⟩
        case measure => simp [intOf]; omega
      · obtain rfl : k = nb := by omega
        have hcs := hF.cells
        obtain ⟨i0, hi, hz0, hz1, hz2⟩ := info_parts Try.info3
        have hokB := ok_stB (o := o) (S := mS) (A := mA) hsh.ho k hsh.okB
        obtain ⟨sb, hsb⟩ : ∃ sb, sb = stB o mS mA k := ⟨_, rfl⟩
        rw [← hsb] at hF hokB
        have HSB : Hid (sb = stB o mS mA k) := hsb
        clear hsb
        have HOB : Hid (Ok sb (pos o + sB mS mA k)) := hokB
        have HSH : Hid (Shape o k mS mA nf (fun j => mS (k + j)) (fun j => mA (k + j)) P t) := hsh
        have HF : Hid (Fr w o t aB aF k cB nf cF sb wr) := hF
        clear hokB hsh hF
        go_wp2_with (at_make; refine wpList_make_full _ rfl _ _ 28 rfl wr.heap.size 3 i0 (.int .i64 0) 1 Try.underlying28 hi hz0 hz1 _ _ _ _ nf rfl rfl rfl rfl (by rw [hz2]; omega) (by unfold maxLen; omega) (Nat.le_refl _) ?_; intro w1 hown hgrow; have hbl1 : Below wr.heap.size wr w1 := (Below.refl _ wr).grown hgrow (Nat.le_refl _) (by intro k hk; cases hk); have hF1 := HF.out.on hbl1; have hcs1 := hF1.cells; clear hcs)
        have hob : OwnI wr.heap.size nf (offF sb (fun j => mS (k + j)) (fun j => mA (k + j)) P) 0 w1 := by obtain ⟨cur, h, hs⟩ := own_has hown; exact ⟨cur, h, by omega, fun i hi => absurd hi (by omega)⟩
        have hg5 : w.heap.size + 1 + 1 + 1 + 1 < wr.heap.size := HF.out.cap.hl.lt
        clear hown hgrow hi hz0 hz1 hz2 i0 hcs1 hbl1
        obtain ⟨g, hg⟩ : ∃ g, g = wr.heap.size := ⟨_, rfl⟩
        rw [← hg] at hob hg5
        rw [← hg]
        have HFold : Hid (Fr w o t aB aF k cB nf cF sb wr) := HF
        clear hg HF
        go_loopw [43] (fun i wq => ∃ j : Nat, j ≤ nf ∧ i = .int .i64 j ∧ Fr w o t aB aF k cB nf cF (stF sb (fun j => mS (k + j)) (fun j => mA (k + j)) P j) wq ∧ OwnI g nf (offF sb (fun j => mS (k + j)) (fun j => mA (k + j)) P) j wq) (fun i _ => nf - (intOf i).toNat)
        case atStart => exact ⟨0, Nat.zero_le _, rfl, hF1, hob⟩
        case round =>
          clear hob hF1
          obtain ⟨j, hj, rfl, hF, hob⟩ := hrel
          by_cases hlt : j < nf
          · rcases rM with hz | ⟨b, off, rfl, hb, hc⟩
            · omega
            rcases rF with hz | ⟨b2, off2, rfl, hb2, hc2⟩
            · omega
            obtain ⟨m1, m2⟩ := hc (k + j) (by omega)
            obtain ⟨z1, z2, z3, z4⟩ := hc2 j hlt
            have y1 := (hF.bel.cell (p := ⟨b2, off2 + j * 4, none⟩) hb2).trans z1
            have y2 := (hF.bel.cell (p := ⟨b2, off2 + j * 4 + 1, none⟩) hb2).trans z2
            have y3 := (hF.bel.cell (p := ⟨b2, off2 + j * 4 + 2, none⟩) hb2).trans z3
            have y4 := (hF.bel.cell (p := ⟨b2, off2 + j * 4 + 3, none⟩) hb2).trans z4
            have hbf := HSH.out.okF j hlt
            have hok := ok_stF (S := fun j => mS (k + j)) (A := fun j => mA (k + j)) (P := P) HOB.out j (fun i hi => HSH.out.okF i (by omega))
            have hokp := hok.pre (p := P j)
            have hm := sF_mono nf (j + 1) (by omega) HSH.out.okF
            have hsum := HSH.out.sum
            have hpt := pos_nonneg t
            have hpp := pos_nonneg (P j)
            simp only [sF] at hm
            have B1 := hok.1
            have B2 : (stF sb (fun j => mS (k + j)) (fun j => mA (k + j)) P j).e ≤ 536870912 := by have := hok.2.1; omega
            have B3 := hokp.1
            have B4 : (pre (stF sb (fun j => mS (k + j)) (fun j => mA (k + j)) P j) (P j)).e ≤ 536870912 := by have := hokp.2.1; omega
            have HOF : Hid (offF sb (fun j => mS (k + j)) (fun j => mA (k + j)) P j = ru (pre (stF sb (fun j => mS (k + j)) (fun j => mA (k + j)) P j) (P j)).e (mA (k + j))) := rfl
            have HST : Hid (stF sb (fun j => mS (k + j)) (fun j => mA (k + j)) P (j + 1) = (pre (stF sb (fun j => mS (k + j)) (fun j => mA (k + j)) P j) (P j)).place (mS (k + j)) (mA (k + j))) := rfl
            clear hc hc2 z1 z2 z3 z4 hok hokp hm hsum hpt hpp
            have HF : Hid (Fr w o t aB (some ⟨b2, off2, none⟩) k cB nf cF (stF sb (fun j => mS (k + j)) (fun j => mA (k + j)) P j) wr) := hF
            have hcs := hF.cells
            clear hF
            generalize hsj : stF sb (fun j => mS (k + j)) (fun j => mA (k + j)) P j = sj at *
            clear hsj
            by_cases hp : 0 < P j
            · have HPR : Hid (pre sj (P j) = sj.place (P j) 1) := by show pre sj (P j) = _; unfold pre; rw [if_pos hp]
              go_wp2_with fail
              refine (place51 (P j) 1 sj.e sj.al sj.le _ _ _ _ (HF.out.cap.alloc _) (by omega) (by omega) (by omega) (by omega) (by omega) (by omega)).mono ?_
              rintro x w2 ⟨rfl, hc, hkp⟩
              have F2 := (HF.out.on ((Below.refl _ _).alloc (Nat.le_refl _) _)).step (s' := sj.place (P j) 1) hc hkp
              have O2 := (hob.alloc _).kp hkp (by omega) (by omega) (by omega)
              rw [← HPR.out] at F2
              have M1 := (F2.bel.cell (p := ⟨b, off + (k + j) * 2, none⟩) hb).trans m1
              have M2 := (F2.bel.cell (p := ⟨b, off + (k + j) * 2 + 1, none⟩) hb).trans m2
              have C2 := F2.cells
              clear hc hkp hcs y1 y2 y3 y4 hob m1 m2 HF HPR
              generalize hpj : pre sj (P j) = pj at *
              clear hpj
              have HF2 : Hid (Fr w o t aB (some ⟨b2, off2, none⟩) k cB nf cF pj w2) := F2
              have HO2 : Hid (OwnI g nf (offF sb (fun j => mS (k + j)) (fun j => mA (k + j)) P) j w2) := O2
              clear F2 O2
              go_wp2_with fail
              refine (place51 (mS (k + j)) (mA (k + j)) pj.e pj.al pj.le _ _ _ _ HF2.out.cap (by omega) (by omega) (by omega) (by omega) (by omega) (by omega)).mono ?_
              rintro x w3 ⟨rfl, hc, hkp⟩
              have F3 : Fr w o t aB (some ⟨b2, off2, none⟩) k cB nf cF (stF sb (fun j => mS (k + j)) (fun j => mA (k + j)) P (j + 1)) w3 := by rw [HST.out]; exact HF2.out.step (s' := pj.place (mS (k + j)) (mA (k + j))) hc hkp
              have O3 := HO2.out.kp hkp (by omega) (by omega) (by omega)
              have fz := O3.free j
              obtain ⟨v, hv⟩ := O3.there hlt
              have HR : Hid (Fr w o t aB (some ⟨b2, off2, none⟩) k cB nf cF (stF sb (fun j => mS (k + j)) (fun j => mA (k + j)) P (j + 1)) (w3.setCell ⟨g, j, none⟩ (.int .i64 (ru pj.e (mA (k + j))))) ∧ OwnI g nf (offF sb (fun j => mS (k + j)) (fun j => mA (k + j)) P) (j + 1) (w3.setCell ⟨g, j, none⟩ (.int .i64 (ru pj.e (mA (k + j)))))) := ⟨F3.setG hg5 _, by have := O3.step hlt; rwa [HOF.out] at this⟩
              clear hc hkp F3 O3 HF2 HO2 M1 M2 C2
              go_wp2
              go_roundw
              case rel => exact ⟨j + 1, by omega, by go_num, HR.out.1, HR.out.2⟩
              case measure => simp [intOf]; omega
            · have HPR : Hid (pre sj (P j) = sj) := by show pre sj (P j) = _; unfold pre; rw [if_neg hp]
              have hF2 := HF.out.on ((Below.refl _ wr).alloc (Nat.le_refl _) (.cells #[.int .i64 0, .bool false, .int .i64 (P j), .bool false] 89))
              have M1 := (hF2.bel.cell (p := ⟨b, off + (k + j) * 2, none⟩) hb).trans m1
              have M2 := (hF2.bel.cell (p := ⟨b, off + (k + j) * 2 + 1, none⟩) hb).trans m2
              have C2 := hF2.cells
              have HF2 : Hid (Fr w o t aB (some ⟨b2, off2, none⟩) k cB nf cF (pre sj (P j)) (wr.alloc (.cells #[.int .i64 0, .bool false, .int .i64 (P j), .bool false] 89))) := by show Fr _ _ _ _ _ _ _ _ _ _ _; rw [HPR.out]; exact hF2
              have HO2 : Hid (OwnI g nf (offF sb (fun j => mS (k + j)) (fun j => mA (k + j)) P) j (wr.alloc (.cells #[.int .i64 0, .bool false, .int .i64 (P j), .bool false] 89))) := hob.alloc _
              clear hF2 hob m1 m2 HF HPR
              generalize hpj : pre sj (P j) = pj at *
              clear hpj
              go_wp2_with fail
              refine (place51 (mS (k + j)) (mA (k + j)) pj.e pj.al pj.le _ _ _ _ HF2.out.cap (by omega) (by omega) (by omega) (by omega) (by omega) (by omega)).mono ?_
              rintro x w3 ⟨rfl, hc, hkp⟩
              have F3 : Fr w o t aB (some ⟨b2, off2, none⟩) k cB nf cF (stF sb (fun j => mS (k + j)) (fun j => mA (k + j)) P (j + 1)) w3 := by rw [HST.out]; exact HF2.out.step (s' := pj.place (mS (k + j)) (mA (k + j))) hc hkp
              have O3 := HO2.out.kp hkp (by omega) (by omega) (by omega)
              have fz := O3.free j
              obtain ⟨v, hv⟩ := O3.there hlt
              have HR : Hid (Fr w o t aB (some ⟨b2, off2, none⟩) k cB nf cF (stF sb (fun j => mS (k + j)) (fun j => mA (k + j)) P (j + 1)) (w3.setCell ⟨g, j, none⟩ (.int .i64 (ru pj.e (mA (k + j))))) ∧ OwnI g nf (offF sb (fun j => mS (k + j)) (fun j => mA (k + j)) P) (j + 1) (w3.setCell ⟨g, j, none⟩ (.int .i64 (ru pj.e (mA (k + j)))))) := ⟨F3.setG hg5 _, by have := O3.step hlt; rwa [HOF.out] at this⟩
              clear hc hkp F3 O3 HF2 HO2 M1 M2 C2
              go_wp2
              go_roundw
              case rel => exact ⟨j + 1, by omega, by go_num, HR.out.1, HR.out.2⟩
              case measure => simp [intOf]; omega
          · obtain rfl : j = nf := by omega
            have hbt := HSH.out.ht
            have hokF := ok_stF (S := fun j => mS (k + j)) (A := fun j => mA (k + j)) (P := P) HOB.out j HSH.out.okF
            have hokP := hokF.pre (p := t)
            have hsum := HSH.out.sum
            have hpt := pos_nonneg t
            have hcs := hF.cells
            have B1 := hokF.1
            have B2 : (stF sb (fun j => mS (k + j)) (fun j => mA (k + j)) P j).e ≤ 536870912 := by have := hokF.2.1; omega
            have B3 := hokP.1
            have B4 : (pre (stF sb (fun j => mS (k + j)) (fun j => mA (k + j)) P j) t).e ≤ 536870912 := by have := hokP.2.1; omega
            have B5 := hokP.2.2.1
            have B6 := hokP.2.2.2
            have HSJ : Hid (∃ sj : LS, sj = stF sb (fun j => mS (k + j)) (fun j => mA (k + j)) P j) := ⟨_, rfl⟩
            have HEQ : Hid (pre (stF sb (fun j => mS (k + j)) (fun j => mA (k + j)) P j) t = pre (stF (stB o mS mA k) (fun j => mS (k + j)) (fun j => mA (k + j)) P j) t) := by show _ = _; rw [HSB.out]
            have HOE : Hid (offF sb (fun j => mS (k + j)) (fun j => mA (k + j)) P = offF (stB o mS mA k) (fun j => mS (k + j)) (fun j => mA (k + j)) P) := by show _ = _; rw [HSB.out]
            clear hokF hokP hsum hpt HSH HOB HSB HFold rF rM HSJ
            generalize offF sb (fun j => mS (k + j)) (fun j => mA (k + j)) P = OF at *
            generalize stF sb (fun j => mS (k + j)) (fun j => mA (k + j)) P j = sj at *
            go_upto_if 72 with fail
            go_cut [] from 70 (fun w' => Fr w o t aB aF k cB j cF (pre sj t) w' ∧ OwnI g j OF j w')
            case first =>
              by_cases hp : 0 < t
              · have HPR : Hid (pre sj t = sj.place t 1) := by show pre sj t = _; unfold pre; rw [if_pos hp]
                have HF : Hid (Fr w o t aB aF k cB j cF sj wr) := hF
                clear hF HEQ HOE
                go_wp2_with fail
                refine (place51 t 1 sj.e sj.al sj.le _ _ _ _ HF.out.cap (by omega) (by omega) (by omega) (by omega) (by omega) (by omega)).mono ?_
                rintro x w2 ⟨rfl, hc, hkp⟩
                have F2 := HF.out.step (s' := sj.place t 1) hc hkp
                have O2 := hob.kp hkp (by omega) (by omega) (by omega)
                rw [← HPR.out] at F2
                clear hc hkp hob hcs HF HPR
                go_wp2
                go_meet
                case rel => exact ⟨F2, O2⟩
              · have HPR : Hid (pre sj t = sj) := by show pre sj t = _; unfold pre; rw [if_neg hp]
                have HF : Hid (Fr w o t aB aF k cB j cF sj wr) := hF
                clear hF HEQ HOE
                go_wp2
                go_meet
                case rel => exact ⟨by rw [HPR.out]; exact HF.out, hob⟩
            case rest =>
              obtain ⟨hF', hO'⟩ := hcut
              clear hF hob hcs B1 B2
              generalize hpj : pre sj t = s at *
              have HPJ : Hid (pre sj t = s) := hpj
              clear hpj
              have ce := hF'.cap.he.cell 0
              have ca := hF'.cap.ha.cell 0
              have cl := hF'.cap.hl.cell 0
              have fe := hF'.cap.he.free 0
              have r0 := hF'.res.cell 0
              have r1 := hF'.res.cell 1
              have f0 := hF'.res.free 0
              have f1 := hF'.res.free 1
              simp only [List.getElem?_toArray, List.getElem?_cons_zero, List.getElem?_cons_succ] at ce ca cl r0 r1
              have HF : Hid (Fr w o t aB aF k cB j cF s wc) := hF'
              have HO : Hid (OwnI g j OF j wc) := hO'
              clear hF' hO'
              by_cases h1 : 0 < s.e
              · have d1 : decide (0 < s.e) = true := decide_eq_true h1
                cases h2 : s.le with
                | true =>
                  rw [h2] at cl
                  go_wp2
                  refine forget (fun W => W.cell? ⟨w.heap.size + 1 + 1, 0, none⟩ = some (.int .i64 (s.e + 1)) ∧ W.cell? ⟨w.heap.size + 1 + 1 + 1, 0, none⟩ = some (.int .i64 s.al) ∧ Has (w.heap.size + 1) #[.int .i64 0, .int .i64 0] 92 W ∧ OwnI g j OF j W ∧ Below w.heap.size w W) ⟨by have := (HF.out.cap.he.set1 (.int .i64 (s.e + 1))).cell 0; simpa using this, by have := (HF.out.cap.ha.other (Ne.symm HF.out.cap.n1) (j := 0) (.int .i64 (s.e + 1))).cell 0; simpa using this, HF.out.res.other (by omega) _, by obtain ⟨cs, h, hs⟩ := HO.out; exact ⟨cs, h.other (by omega) _, hs⟩, HF.out.bel.setCell (by show w.heap.size ≤ w.heap.size + 1 + 1; omega) _⟩ ?_
                  clear HF HO ce ca cl fe r0 r1 f0 f1
                  rintro W ⟨ce, ca, hres, hO, hbel⟩
                  have r0 := hres.cell 0
                  have r1 := hres.cell 1
                  have f0 := hres.free 0
                  have f1 := hres.free 1
                  simp only [List.getElem?_toArray, List.getElem?_cons_zero, List.getElem?_cons_succ] at r0 r1
                  have HR : Hid (∀ x y : Int, Has (w.heap.size + 1) #[.int .i64 x, .int .i64 y] 92 (((W.setCell ⟨w.heap.size + 1, 0, none⟩ (.int .i64 x)).setCell ⟨w.heap.size + 1, 1, none⟩ (.int .i64 y)).drew) ∧ OwnI g j OF j (((W.setCell ⟨w.heap.size + 1, 0, none⟩ (.int .i64 x)).setCell ⟨w.heap.size + 1, 1, none⟩ (.int .i64 y)).drew) ∧ Below w.heap.size w (((W.setCell ⟨w.heap.size + 1, 0, none⟩ (.int .i64 x)).setCell ⟨w.heap.size + 1, 1, none⟩ (.int .i64 y)).drew)) := fun x y =>
                    ⟨by have := ((hres.setCell 0 (.int .i64 x)).setCell 1 (.int .i64 y)).drew; simpa using this, by obtain ⟨cs, h, hs⟩ := hO; exact ⟨cs, ((h.other (by omega) _).other (by omega) _).drew, hs⟩, ((hbel.setCell (by show w.heap.size ≤ w.heap.size + 1; omega) _).setCell (by show w.heap.size ≤ w.heap.size + 1; omega) _).drew⟩
                  clear hres hO hbel
                  have S2 : ∀ x y : Int, (((W.setCell ⟨w.heap.size + 1, 0, none⟩ (.int .i64 x)).setCell ⟨w.heap.size + 1, 1, none⟩ (.int .i64 y)).drew).cell? ⟨w.heap.size + 1 + 1, 0, none⟩ = some (.int .i64 (s.e + 1)) ∧ (((W.setCell ⟨w.heap.size + 1, 0, none⟩ (.int .i64 x)).setCell ⟨w.heap.size + 1, 1, none⟩ (.int .i64 y)).drew).cell? ⟨w.heap.size + 1 + 1 + 1, 0, none⟩ = some (.int .i64 s.al) := fun x y => by
                    constructor
                    · show ((W.setCell _ _).setCell _ _).cell? _ = _
                      rw [World.cell?_of_block (w := W) (by rw [Below.heap_setCell _ _ _ _ (by show w.heap.size + 1 + 1 ≠ w.heap.size + 1; omega), Below.heap_setCell _ _ _ _ (by show w.heap.size + 1 + 1 ≠ w.heap.size + 1; omega)])]; exact ce
                    · show ((W.setCell _ _).setCell _ _).cell? _ = _
                      rw [World.cell?_of_block (w := W) (by rw [Below.heap_setCell _ _ _ _ (by show w.heap.size + 1 + 1 + 1 ≠ w.heap.size + 1; omega), Below.heap_setCell _ _ _ _ (by show w.heap.size + 1 + 1 + 1 ≠ w.heap.size + 1; omega)])]; exact ca
                  go_region_held3 (fun w' => w'.cell? ⟨w.heap.size + 1 + 1, 0, none⟩ = some (.int .i64 (s.e + 1)) ∧ w'.cell? ⟨w.heap.size + 1 + 1 + 1, 0, none⟩ = some (.int .i64 s.al)) (first | exact ⟨ce, ca⟩ | exact S2 _ _) ((go_at_call 52; refine (ru52 (s.e + 1) s.al _ (by omega) (by omega) (by omega) (by omega)).mono ?_; rintro x w2 ⟨rfl, rfl⟩))
                  go_wp2
                  refine bodyPost_ret (v := .tuple #[.slice (some ⟨g, 0, none⟩) j j, .agg #[.int .i64 (ru (s.e + 1) s.al), .int .i64 s.al]]) (by simp [results, Try.results43, go_sem, r0, r1]) rfl ⟨g, s, ?_, ?_, ?_, (HR.out _ _).2.2⟩
                  · exact HEQ.out
                  · rw [show endF s = s.e + 1 from by unfold endF; rw [if_pos ⟨h1, h2⟩]]
                  · rw [← HOE.out]; exact (HR.out _ _).2.1.row
                | false =>
                  rw [h2] at cl
                  go_wp2
                  refine forget (fun W => W.cell? ⟨w.heap.size + 1 + 1, 0, none⟩ = some (.int .i64 (s.e)) ∧ W.cell? ⟨w.heap.size + 1 + 1 + 1, 0, none⟩ = some (.int .i64 s.al) ∧ Has (w.heap.size + 1) #[.int .i64 0, .int .i64 0] 92 W ∧ OwnI g j OF j W ∧ Below w.heap.size w W) ⟨ce, ca, HF.out.res, HO.out, HF.out.bel⟩ ?_
                  clear HF HO ce ca cl fe r0 r1 f0 f1
                  rintro W ⟨ce, ca, hres, hO, hbel⟩
                  have r0 := hres.cell 0
                  have r1 := hres.cell 1
                  have f0 := hres.free 0
                  have f1 := hres.free 1
                  simp only [List.getElem?_toArray, List.getElem?_cons_zero, List.getElem?_cons_succ] at r0 r1
                  have HR : Hid (∀ x y : Int, Has (w.heap.size + 1) #[.int .i64 x, .int .i64 y] 92 (((W.setCell ⟨w.heap.size + 1, 0, none⟩ (.int .i64 x)).setCell ⟨w.heap.size + 1, 1, none⟩ (.int .i64 y)).drew) ∧ OwnI g j OF j (((W.setCell ⟨w.heap.size + 1, 0, none⟩ (.int .i64 x)).setCell ⟨w.heap.size + 1, 1, none⟩ (.int .i64 y)).drew) ∧ Below w.heap.size w (((W.setCell ⟨w.heap.size + 1, 0, none⟩ (.int .i64 x)).setCell ⟨w.heap.size + 1, 1, none⟩ (.int .i64 y)).drew)) := fun x y =>
                    ⟨by have := ((hres.setCell 0 (.int .i64 x)).setCell 1 (.int .i64 y)).drew; simpa using this, by obtain ⟨cs, h, hs⟩ := hO; exact ⟨cs, ((h.other (by omega) _).other (by omega) _).drew, hs⟩, ((hbel.setCell (by show w.heap.size ≤ w.heap.size + 1; omega) _).setCell (by show w.heap.size ≤ w.heap.size + 1; omega) _).drew⟩
                  clear hres hO hbel
                  have S2 : ∀ x y : Int, (((W.setCell ⟨w.heap.size + 1, 0, none⟩ (.int .i64 x)).setCell ⟨w.heap.size + 1, 1, none⟩ (.int .i64 y)).drew).cell? ⟨w.heap.size + 1 + 1, 0, none⟩ = some (.int .i64 (s.e)) ∧ (((W.setCell ⟨w.heap.size + 1, 0, none⟩ (.int .i64 x)).setCell ⟨w.heap.size + 1, 1, none⟩ (.int .i64 y)).drew).cell? ⟨w.heap.size + 1 + 1 + 1, 0, none⟩ = some (.int .i64 s.al) := fun x y => by
                    constructor
                    · show ((W.setCell _ _).setCell _ _).cell? _ = _
                      rw [World.cell?_of_block (w := W) (by rw [Below.heap_setCell _ _ _ _ (by show w.heap.size + 1 + 1 ≠ w.heap.size + 1; omega), Below.heap_setCell _ _ _ _ (by show w.heap.size + 1 + 1 ≠ w.heap.size + 1; omega)])]; exact ce
                    · show ((W.setCell _ _).setCell _ _).cell? _ = _
                      rw [World.cell?_of_block (w := W) (by rw [Below.heap_setCell _ _ _ _ (by show w.heap.size + 1 + 1 + 1 ≠ w.heap.size + 1; omega), Below.heap_setCell _ _ _ _ (by show w.heap.size + 1 + 1 + 1 ≠ w.heap.size + 1; omega)])]; exact ca
                  go_region_held3 (fun w' => w'.cell? ⟨w.heap.size + 1 + 1, 0, none⟩ = some (.int .i64 (s.e)) ∧ w'.cell? ⟨w.heap.size + 1 + 1 + 1, 0, none⟩ = some (.int .i64 s.al)) (first | exact ⟨ce, ca⟩ | exact S2 _ _) ((go_at_call 52; refine (ru52 (s.e) s.al _ (by omega) (by omega) (by omega) (by omega)).mono ?_; rintro x w2 ⟨rfl, rfl⟩))
                  go_wp2
                  refine bodyPost_ret (v := .tuple #[.slice (some ⟨g, 0, none⟩) j j, .agg #[.int .i64 (ru (s.e) s.al), .int .i64 s.al]]) (by simp [results, Try.results43, go_sem, r0, r1]) rfl ⟨g, s, ?_, ?_, ?_, (HR.out _ _).2.2⟩
                  · exact HEQ.out
                  · rw [show endF s = s.e from by unfold endF; rw [if_neg (by rw [h2]; simp)]]
                  · rw [← HOE.out]; exact (HR.out _ _).2.1.row
              · have d1 : decide (0 < s.e) = false := decide_eq_false h1
                go_wp2
                refine forget (fun W => W.cell? ⟨w.heap.size + 1 + 1, 0, none⟩ = some (.int .i64 (s.e)) ∧ W.cell? ⟨w.heap.size + 1 + 1 + 1, 0, none⟩ = some (.int .i64 s.al) ∧ Has (w.heap.size + 1) #[.int .i64 0, .int .i64 0] 92 W ∧ OwnI g j OF j W ∧ Below w.heap.size w W) ⟨ce, ca, HF.out.res, HO.out, HF.out.bel⟩ ?_
                clear HF HO ce ca cl fe r0 r1 f0 f1
                rintro W ⟨ce, ca, hres, hO, hbel⟩
                have r0 := hres.cell 0
                have r1 := hres.cell 1
                have f0 := hres.free 0
                have f1 := hres.free 1
                simp only [List.getElem?_toArray, List.getElem?_cons_zero, List.getElem?_cons_succ] at r0 r1
                have HR : Hid (∀ x y : Int, Has (w.heap.size + 1) #[.int .i64 x, .int .i64 y] 92 (((W.setCell ⟨w.heap.size + 1, 0, none⟩ (.int .i64 x)).setCell ⟨w.heap.size + 1, 1, none⟩ (.int .i64 y)).drew) ∧ OwnI g j OF j (((W.setCell ⟨w.heap.size + 1, 0, none⟩ (.int .i64 x)).setCell ⟨w.heap.size + 1, 1, none⟩ (.int .i64 y)).drew) ∧ Below w.heap.size w (((W.setCell ⟨w.heap.size + 1, 0, none⟩ (.int .i64 x)).setCell ⟨w.heap.size + 1, 1, none⟩ (.int .i64 y)).drew)) := fun x y =>
                  ⟨by have := ((hres.setCell 0 (.int .i64 x)).setCell 1 (.int .i64 y)).drew; simpa using this, by obtain ⟨cs, h, hs⟩ := hO; exact ⟨cs, ((h.other (by omega) _).other (by omega) _).drew, hs⟩, ((hbel.setCell (by show w.heap.size ≤ w.heap.size + 1; omega) _).setCell (by show w.heap.size ≤ w.heap.size + 1; omega) _).drew⟩
                clear hres hO hbel
                have S2 : ∀ x y : Int, (((W.setCell ⟨w.heap.size + 1, 0, none⟩ (.int .i64 x)).setCell ⟨w.heap.size + 1, 1, none⟩ (.int .i64 y)).drew).cell? ⟨w.heap.size + 1 + 1, 0, none⟩ = some (.int .i64 (s.e)) ∧ (((W.setCell ⟨w.heap.size + 1, 0, none⟩ (.int .i64 x)).setCell ⟨w.heap.size + 1, 1, none⟩ (.int .i64 y)).drew).cell? ⟨w.heap.size + 1 + 1 + 1, 0, none⟩ = some (.int .i64 s.al) := fun x y => by
                  constructor
                  · show ((W.setCell _ _).setCell _ _).cell? _ = _
                    rw [World.cell?_of_block (w := W) (by rw [Below.heap_setCell _ _ _ _ (by show w.heap.size + 1 + 1 ≠ w.heap.size + 1; omega), Below.heap_setCell _ _ _ _ (by show w.heap.size + 1 + 1 ≠ w.heap.size + 1; omega)])]; exact ce
                  · show ((W.setCell _ _).setCell _ _).cell? _ = _
                    rw [World.cell?_of_block (w := W) (by rw [Below.heap_setCell _ _ _ _ (by show w.heap.size + 1 + 1 + 1 ≠ w.heap.size + 1; omega), Below.heap_setCell _ _ _ _ (by show w.heap.size + 1 + 1 + 1 ≠ w.heap.size + 1; omega)])]; exact ca
                go_region_held3 (fun w' => w'.cell? ⟨w.heap.size + 1 + 1, 0, none⟩ = some (.int .i64 (s.e)) ∧ w'.cell? ⟨w.heap.size + 1 + 1 + 1, 0, none⟩ = some (.int .i64 s.al)) (first | exact ⟨ce, ca⟩ | exact S2 _ _) ((go_at_call 52; refine (ru52 (s.e) s.al _ (by omega) (by omega) (by omega) (by omega)).mono ?_; rintro x w2 ⟨rfl, rfl⟩))
                go_wp2
                refine bodyPost_ret (v := .tuple #[.slice (some ⟨g, 0, none⟩) j j, .agg #[.int .i64 (ru (s.e) s.al), .int .i64 s.al]]) (by simp [results, Try.results43, go_sem, r0, r1]) rfl ⟨g, s, ?_, ?_, ?_, (HR.out _ _).2.2⟩
                · exact HEQ.out
                · rw [show endF s = s.e from by unfold endF; rw [if_neg (by intro h; have := h.1; omega)]]
                · rw [← HOE.out]; exact (HR.out _ _).2.1.row

end Go.Proofs.Qxb6600004a
