import Derived.Test.Qxb6600004aLd
import Derived.Deep.QuietTactic
namespace Go.Proofs.Qxb6600004a
open Go.RowKit
namespace LO
/-- n zero goMembers. -/
def zz89 (n : Nat) : Array Value := madeCells #[.int .i64 0, .bool false, .int .i64 0, .bool false] (n * 4)
theorem zz89_size (n : Nat) : (zz89 n).size = n * 4 := size_madeCells _ _
theorem zz89_at (n i r : Nat) (hi : i < n) (hr : r < 4) : (zz89 n)[i * 4 + r]? = (#[.int .i64 0, .bool false, .int .i64 0, .bool false] : Array Value)[r]? := by
  have h : i * 4 + r < n * 4 := by omega
  have hm : (i * 4 + r) % 4 = r := by omega
  unfold zz89 madeCells
  rw [Array.getElem?_map, Array.getElem?_range]
  simp only [h, if_true, Option.map_some, List.size_toArray, List.length_cons, List.length_nil]
  rw [show (0 + 1 + 1 + 1 + 1) = 4 from rfl, hm]
  match r, hr with
  | 0, _ => rfl
  | 1, _ => rfl
  | 2, _ => rfl
  | 3, _ => rfl

/-- Block g: a row of n goMembers, the pads of the first k of them set. -/
def OwnG (g n : Nat) (P : Nat → Int) (k : Nat) (w : World) : Prop :=
  ∃ cs : Array Value, Has g cs 89 w ∧ cs.size = n * 4 ∧ (∀ i, i < n → cs[i * 4]? = some (.int .i64 0) ∧ cs[i * 4 + 1]? = some (.bool false) ∧ cs[i * 4 + 3]? = some (.bool false)) ∧ ∀ i, i < k → cs[i * 4 + 2]? = some (.int .i64 (P i))
theorem OwnG.zero {g n : Nat} {P : Nat → Int} {w : World} (h : Has g (zz89 n) 89 w) : OwnG g n P 0 w :=
  ⟨_, h, zz89_size n, fun i hi => ⟨zz89_at n i 0 hi (by omega), zz89_at n i 1 hi (by omega), zz89_at n i 3 hi (by omega)⟩, fun i hi => absurd hi (by omega)⟩
theorem OwnG.step {g n : Nat} {P : Nat → Int} {k : Nat} {w : World} (h : OwnG g n P k w) (hk : k < n) : OwnG g n P (k + 1) (w.setCell ⟨g, k * 4 + 2, none⟩ (.int .i64 (P k))) := by
  obtain ⟨cs, hh, hs, hc, hp⟩ := h
  refine ⟨_, hh.setCell _ _, by simpa using hs, fun i hi => ?_, fun i hi => ?_⟩
  · rw [Array.getElem?_setIfInBounds_ne (by omega), Array.getElem?_setIfInBounds_ne (by omega), Array.getElem?_setIfInBounds_ne (by omega)]
    exact hc i hi
  · by_cases e : i = k
    · subst e
      rw [Array.getElem?_setIfInBounds_self_of_lt (by omega)]
    · rw [Array.getElem?_setIfInBounds_ne (by omega)]; exact hp i (by omega)
theorem OwnG.row {g n : Nat} {P : Nat → Int} {w : World} (h : OwnG g n P n w) : RowG w (some ⟨g, 0, none⟩) n P := by
  obtain ⟨cs, hh, hs, hc, hp⟩ := h
  refine .inr ⟨g, 0, rfl, hh.lt, fun i hi => ?_⟩
  rw [Nat.zero_add, hh.cell, hh.cell, hh.cell, hh.cell]
  exact ⟨(hc i hi).1, (hc i hi).2.1, hp i hi, (hc i hi).2.2⟩
theorem OwnG.has {g n : Nat} {P : Nat → Int} {k : Nat} {w : World} (h : OwnG g n P k w) : ∃ cs : Array Value, Has g cs 89 w ∧ cs.size = n * 4 := by
  obtain ⟨cs, hh, hs, _⟩ := h
  exact ⟨cs, hh, hs⟩
theorem OwnG.below {g n : Nat} {P : Nat → Int} {k : Nat} {w w' : World} (h : OwnG g n P k w) (hb : Below w.heap.size w w') : OwnG g n P k w' := by
  obtain ⟨cs, hh, hs⟩ := h
  exact ⟨cs, hh.below hb hh.lt, hs⟩

/-- Block g: a row of n measures, the first k of them as S and A say. -/
def OwnM (g n : Nat) (S A : Nat → Int) (k : Nat) (w : World) : Prop :=
  ∃ cs : Array Value, Has g cs 92 w ∧ cs.size = n * 2 ∧ ∀ i, i < k → cs[i * 2]? = some (.int .i64 (S i)) ∧ cs[i * 2 + 1]? = some (.int .i64 (A i))
theorem OwnM.step {g n : Nat} {S A : Nat → Int} {k : Nat} {w : World} (h : OwnM g n S A k w) (hk : k < n) :
    OwnM g n S A (k + 1) ((w.setCell ⟨g, k * 2, none⟩ (.int .i64 (S k))).setCell ⟨g, k * 2 + 1, none⟩ (.int .i64 (A k))) := by
  obtain ⟨cs, hh, hs, hc⟩ := h
  refine ⟨_, (hh.setCell _ _).setCell _ _, by simpa using hs, fun i hi => ?_⟩
  by_cases e : i = k
  · subst e
    constructor
    · rw [Array.getElem?_setIfInBounds_ne (by omega), Array.getElem?_setIfInBounds_self_of_lt (by omega)]
    · rw [Array.getElem?_setIfInBounds_self_of_lt (by simp; omega)]
  · have := hc i (by omega)
    constructor
    · rw [Array.getElem?_setIfInBounds_ne (by omega), Array.getElem?_setIfInBounds_ne (by omega)]; exact this.1
    · rw [Array.getElem?_setIfInBounds_ne (by omega), Array.getElem?_setIfInBounds_ne (by omega)]; exact this.2
theorem OwnM.row {g n : Nat} {S A : Nat → Int} {w : World} (h : OwnM g n S A n w) : RowB w (some ⟨g, 0, none⟩) n S A := by
  obtain ⟨cs, hh, hs, hc⟩ := h
  refine .inr ⟨g, 0, rfl, hh.lt, fun i hi => ?_⟩
  rw [Nat.zero_add, hh.cell, hh.cell]
  exact hc i hi
theorem OwnM.drew {g n : Nat} {S A : Nat → Int} {k : Nat} {w : World} (h : OwnM g n S A k w) : OwnM g n S A k w.drew := h

/-- ZZB1LaidOut's own goStruct. -/
structure Gs (w : World) (o t : Int) (nb nf gB gF gS : Nat) (W : World) : Prop where
  bel : Below w.heap.size w W
  box : Has gS #[.int .i64 o, .slice (some ⟨gB, 0, none⟩) nb nb, .slice (some ⟨gF, 0, none⟩) nf nf, .int .i64 t] 87 W
  ne : gF ≠ gS
  lS : w.heap.size ≤ gS
  lF : w.heap.size ≤ gF
theorem has3_0 (w : World) (B C : Obj) (cs : Array Value) (t : TypeId) : Has w.heap.size cs t (((w.alloc (.cells cs t)).alloc B).alloc C).drew := (((Has.new cs t w).alloc B).alloc C).drew
theorem has3_1 (w : World) (A C : Obj) (cs : Array Value) (t : TypeId) : Has (w.heap.size + 1) cs t (((w.alloc A).alloc (.cells cs t)).alloc C).drew := by
  have := ((Has.new cs t (w.alloc A)).alloc C).drew
  simpa using this
theorem has3_2 (w : World) (A B : Obj) (cs : Array Value) (t : TypeId) : Has (w.heap.size + 1 + 1) cs t (((w.alloc A).alloc B).alloc (.cells cs t)).drew := by
  have := (Has.new cs t ((w.alloc A).alloc B)).drew
  simpa using this
theorem below3 (w : World) (A B C : Obj) : Below w.heap.size w (((w.alloc A).alloc B).alloc C).drew := ((((Below.refl _ _).alloc (Nat.le_refl _) _).alloc (by simp) _).alloc (by simp; omega) _).drew
end LO
open LO
theorem Try.info89 : (Try.prog.info? 89).map (fun i => (i.zero, i.size, i.bytes)) = some (some (.agg #[.int .i64 0, .bool false, .int .i64 0, .bool false]), 4, 32) := by kernel_rfl
theorem Try.info92 : (Try.prog.info? 92).map (fun i => (i.zero, i.size, i.bytes)) = some (some (.agg #[.int .i64 0, .int .i64 0]), 2, 16) := by kernel_rfl

theorem make85 (n : Nat) (hn : n ≤ 4096) (w : World) : (Instr.makeSlice 85 (.int .i64 (n : Int)) (.int .i64 (n : Int))).run Try.prog w = .ok (.slice (some ⟨w.heap.size, 0, none⟩) n n) (w.alloc (.cells (zz89 n) 89)) := by
  obtain ⟨i0, hi, hz0, hz1, hz2⟩ := info_parts Try.info89
  have := run_make (P := Try.prog) w 85 89 i0 _ Try.underlying85 hi hz0 .i64 .i64 (n : Int) (n : Int) (by omega) (by omega) (by rw [hz2]; omega) (by omega)
  rw [hz1] at this
  simpa [zz89, Value.cells] using this

/-- What ZZB1LaidOut answers. -/
def LaidPost3 (o : Int) (nb nf : Nat) (mS mA P : Nat → Int) (t : Int) (w : World) (e : Ending) (w' : World) : Prop :=
  ∃ (g : Nat) (s : LS), s = pre (stF (stB o mS mA nb) (fun j => mS (nb + j)) (fun j => mA (nb + j)) P nf) t ∧
    e = .returned (.tuple #[.slice (some ⟨g, 0, none⟩) nf nf, .int .i64 (ru (endF s) s.al), .int .i64 s.al]) ∧
    RowI w' (some ⟨g, 0, none⟩) nf (offF (stB o mS mA nb) (fun j => mS (nb + j)) (fun j => mA (nb + j)) P) ∧ Below w.heap.size w w'

set_option maxRecDepth 100000 in
set_option maxHeartbeats 4000000 in
theorem laid37 (o t : Int) (nb nf n cP cS cA : Nat) (aP aS aA : Option Addr) (mS mA P : Nat → Int) (w : World) (hnb : nb ≤ 4096) (hnf : nf ≤ 4096) (hn : n = nb + nf)
    (rP : RowI w aP nf P) (rS : RowI w aS n mS) (rA : RowI w aA n mA) (hsh : Shape o nb mS mA nf (fun j => mS (nb + j)) (fun j => mA (nb + j)) P t) :
    Calls Try.prog 37 #[.int .i64 o, .int .i64 (nb : Int), .slice aP nf cP, .int .i64 t, .slice aS n cS, .slice aA n cA] w (LaidPost3 o nb nf mS mA P t w) := by
  have kB := make85 nb hnb
  have kF := make85 nf hnf
  have HN : Hid (n = nb + nf) := hn
  have hn8 : n ≤ 8192 := by omega
  clear hn
  go_enter Try.func37, Try.ntmps37
  go_upto_region 1 with fail
  go_cut [15] from 21 (fun s15 w' => ∃ gB gF gS, s15 = .pointer (some ⟨gS, 0, none⟩) ∧ Gs w o t nb nf gB gF gS w' ∧ OwnG gF nf P 0 w')
  case first =>
    clear hsh rP rS rA
    go_region
    all_goals
      go_wp2
      go_meet
      case rel => refine ⟨_, _, _, rfl, ⟨below3 w _ _ _, by first | exact has3_0 w _ _ _ _ | exact has3_1 w _ _ _ _ | exact has3_2 w _ _ _ _, by omega, by omega, by omega⟩, OwnG.zero (by first | exact has3_0 w _ _ _ _ | exact has3_1 w _ _ _ _ | exact has3_2 w _ _ _ _)⟩
  case rest =>
    obtain ⟨gB, gF, gS, rfl, hG, hO⟩ := hcut
    clear kB kF
    go_wp2
    go_loopw [16] (fun i wr => ∃ k : Nat, k ≤ nf ∧ i = .int .i64 k ∧ Gs w o t nb nf gB gF gS wr ∧ OwnG gF nf P k wr) (fun i _ => nf - (intOf i).toNat)
    case atStart => exact ⟨0, Nat.zero_le _, rfl, hG, hO⟩
    case round =>
      clear hG hO
      obtain ⟨k, hk, rfl, hG, hO⟩ := hrel
      by_cases hlt : k < nf
      · rcases rP with hz | ⟨b, off, rfl, hb, hc⟩
        · omega
        have q := (hG.bel.cell (p := ⟨b, off + k, none⟩) hb).trans (hc k hlt)
        have c2 := hG.box.cell 2
        simp only [List.getElem?_toArray, List.getElem?_cons_zero, List.getElem?_cons_succ] at c2
        obtain ⟨v, hv⟩ : ∃ v, wr.cell? ⟨gF, k * 4 + 2, none⟩ = some v := by obtain ⟨cs, h, hs⟩ := hO.has; exact has_cellAt h (by omega)
        have fz : wr.frozen? ⟨gF, k * 4 + 2, none⟩ = false := by obtain ⟨cs, h, hs⟩ := hO.has; exact h.free _
        have HR : Hid (Gs w o t nb nf gB gF gS (wr.setCell ⟨gF, k * 4 + 2, none⟩ (.int .i64 (P k))).drew ∧ OwnG gF nf P (k + 1) (wr.setCell ⟨gF, k * 4 + 2, none⟩ (.int .i64 (P k))).drew) :=
          ⟨⟨(hG.bel.setCell (by show w.heap.size ≤ gF; exact hG.lF) _).drew, (hG.box.other (Ne.symm hG.ne) _).drew, hG.ne, hG.lS, hG.lF⟩, hO.step hlt⟩
        have b1 : (0 : Int) ≤ (k : Int) := by omega
        have b2 : (k : Int) < (nf : Int) := by omega
        clear hG hO rS rA hsh hc
        go_wp2
        go_region
        all_goals
          go_wp2
          go_roundw
          case rel => exact ⟨k + 1, by omega, by go_num, HR.out.1, HR.out.2⟩
          case measure => simp [intOf]; omega
      · obtain rfl : k = nf := by omega
        obtain ⟨i0, hi, hz0, hz1, hz2⟩ := info_parts Try.info92
        obtain ⟨wo, rfl⟩ : ∃ wo : World, wo = wr := ⟨_, rfl⟩
        have HG : Hid (Gs w o t nb k gB gF gS wo) := hG
        have HO : Hid (OwnG gF k P k wo) := hO
        clear hG hO
        go_wp2_with (at_make; refine wpList_make_full _ rfl _ _ 90 rfl wo.heap.size 92 i0 (.agg #[.int .i64 0, .int .i64 0]) 2 Try.underlying90 hi hz0 hz1 _ _ _ _ n rfl rfl rfl rfl (by rw [hz2]; omega) (by unfold maxLen; omega) (Nat.le_refl _) ?_; intro w1 hown hgrow)
        have hbl1 : Below wo.heap.size wo w1 := (Below.refl _ wo).grown hgrow (Nat.le_refl _) (by intro k hk; cases hk)
        have hM : OwnM wo.heap.size n mS mA 0 w1 := by obtain ⟨cur, h, hs⟩ := own_has hown; exact ⟨cur, h, hs, fun i hi => absurd hi (by omega)⟩
        have hlF : gF < wo.heap.size := by obtain ⟨cs, h, _⟩ := HO.out.has; exact h.lt
        have hlS : gS < wo.heap.size := HG.out.box.lt
        have hwo : w.heap.size ≤ wo.heap.size := HG.out.bel.size
        clear hown hgrow hi hz0 hz1 hz2 i0
        obtain ⟨gM, hgM⟩ : ∃ gM, gM = wo.heap.size := ⟨_, rfl⟩
        rw [← hgM] at hM hlF hlS hwo hbl1
        rw [← hgM]
        clear hgM
        go_loopw [18] (fun i wq => ∃ j : Nat, j ≤ n ∧ i = .int .i64 j ∧ Below gM wo wq ∧ OwnM gM n mS mA j wq) (fun i _ => n - (intOf i).toNat)
        case atStart => exact ⟨0, Nat.zero_le _, rfl, hbl1, hM⟩
        case round =>
          obtain ⟨j, hj, rfl, hbl, hM'⟩ := hrel
          clear hM hbl1
          by_cases hlt : j < n
          · rcases rS with hz | ⟨b, off, rfl, hb, hc⟩
            · omega
            rcases rA with hz | ⟨b2, off2, rfl, hb2, hc2⟩
            · omega
            have hbw : Below w.heap.size w wr := HG.out.bel.trans (hbl.mono hwo)
            have q1 := (hbw.cell (p := ⟨b, off + j, none⟩) hb).trans (hc j hlt)
            have q2 := (hbw.cell (p := ⟨b2, off2 + j, none⟩) hb2).trans (hc2 j hlt)
            obtain ⟨v1, hv1⟩ : ∃ v, wr.cell? ⟨gM, j * 2, none⟩ = some v := by obtain ⟨cs, h, hs, _⟩ := hM'; exact has_cellAt h (by omega)
            obtain ⟨v2, hv2⟩ : ∃ v, wr.cell? ⟨gM, j * 2 + 1, none⟩ = some v := by obtain ⟨cs, h, hs, _⟩ := hM'; exact has_cellAt h (by omega)
            have fz := fun i => (show wr.frozen? ⟨gM, i, none⟩ = false from by obtain ⟨cs, h, _⟩ := hM'; exact h.free i)
            have HR : Hid (Below gM wo ((wr.setCell ⟨gM, j * 2, none⟩ (.int .i64 (mS j))).setCell ⟨gM, j * 2 + 1, none⟩ (.int .i64 (mA j))).drew ∧ OwnM gM n mS mA (j + 1) ((wr.setCell ⟨gM, j * 2, none⟩ (.int .i64 (mS j))).setCell ⟨gM, j * 2 + 1, none⟩ (.int .i64 (mA j))).drew) :=
              ⟨((hbl.setCell (Nat.le_refl _) _).setCell (Nat.le_refl _) _).drew, hM'.step hlt⟩
            have b1 : (0 : Int) ≤ (j : Int) := by omega
            have b2' : (j : Int) < (n : Int) := by omega
            clear hc hc2 hbw hbl hM' rP hsh
            go_wp2
            go_region
            all_goals
              go_wp2
              go_roundw
              case rel => exact ⟨j + 1, by omega, by go_num, HR.out.1, HR.out.2⟩
              case measure => simp [intOf]; omega
          · obtain rfl : j = n := by omega
            have hbx : Has gS #[.int .i64 o, .slice (some ⟨gB, 0, none⟩) nb nb, .slice (some ⟨gF, 0, none⟩) k k, .int .i64 t] 87 wr := HG.out.box.below hbl hlS
            have hOG : OwnG gF k P k wr := by obtain ⟨cs, h, hs⟩ := HO.out; exact ⟨cs, h.below hbl hlF, hs⟩
            have hbw : Below w.heap.size w wr := HG.out.bel.trans (hbl.mono hwo)
            have c0 := hbx.cell 0
            have c1 := hbx.cell 1
            have c2 := hbx.cell 2
            have c3 := hbx.cell 3
            simp only [List.getElem?_toArray, List.getElem?_cons_zero, List.getElem?_cons_succ] at c0 c1 c2 c3
            have rG := hOG.row
            have rM := hM'.row
            have HB : Hid (Below w.heap.size w wr) := hbw
            clear hbx hOG hbw hM' hbl
            go_wp2_with fail
            refine (laid43 o t (some ⟨gB, 0, none⟩) (some ⟨gF, 0, none⟩) (some ⟨gM, 0, none⟩) nb nb k k j j mS mA P _ hnb hnf (by have := HN.out; omega) hn8 rG rM hsh).mono ?_
            rintro e w2 ⟨g, s, hs, rfl, hrow, hb2⟩
            have hw2 : Below w.heap.size w w2 := HB.out.trans (hb2.mono HB.out.size)
            have HP : Hid (s = pre (stF (stB o mS mA nb) (fun j => mS (nb + j)) (fun j => mA (nb + j)) P k) t ∧ RowI w2 (some ⟨g, 0, none⟩) k (offF (stB o mS mA nb) (fun j => mS (nb + j)) (fun j => mA (nb + j)) P) ∧ Below w.heap.size w w2) := ⟨hs, hrow, hw2⟩
            clear hs hrow hb2 hw2 HB rG rM c0 c1 c2 c3 rP rS rA hsh
            have HZ : Hid (∃ z : Int, z = ru (endF s) s.al) := ⟨_, rfl⟩
            obtain ⟨z, hz⟩ : ∃ z : Int, z = ru (endF s) s.al := ⟨_, rfl⟩
            rw [← hz]
            have Hz : Hid (z = ru (endF s) s.al) := hz
            clear hz HZ
            go_wp2
            go_region
            all_goals
              go_wp2
              go_ret3
              exact ⟨g, s, HP.out.1, by rw [← Hz.out]; rfl, (HP.out.2.1.below ((Below.refl _ _).alloc (Nat.le_refl _) _)).below (Below.refl _ _).drew, (HP.out.2.2.alloc HP.out.2.2.size _).drew⟩

end Go.Proofs.Qxb6600004a
