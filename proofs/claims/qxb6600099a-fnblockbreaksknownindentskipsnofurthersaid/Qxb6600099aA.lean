import Derived.Test.Qxb6600099aProg
import Derived.WalkKit
import Derived.WalkSpells
import Derived.WalkLawsBesides
import Derived.Deep.RegionHeld3
import Derived.Deep.DrawnRows
import Derived.Deep.WholeRow
import Derived.Deep.Cut
import Derived.Deep.QuietTactic
import Derived.BigQuiet
import Derived.BigRegion
import Derived.Laws.BytesArg
import Derived.Lib.SlBytesConst
namespace Go.Proofs.Qxb6600099a
open Go.RowKit

/-- A slice of bytes: n of them, as T says. -/
def RowT (w : World) (a : Option Addr) (n : Nat) (T : Nat → Int) : Prop :=
  (∀ i, i < n → 0 ≤ T i ∧ T i ≤ 255) ∧ (n = 0 ∨ ∃ b off, a = some ⟨b, off, none⟩ ∧ b < w.heap.size ∧ ∀ i, i < n → w.cell? ⟨b, off + i, none⟩ = some (.int .u8 (T i)))
theorem RowT.below {w w' : World} {a : Option Addr} {n : Nat} {T : Nat → Int} (h : RowT w a n T) (hb : Below w.heap.size w w') : RowT w' a n T := by
  refine ⟨h.1, ?_⟩
  rcases h.2 with h | ⟨b, off, ha, hlt, hc⟩
  · exact .inl h
  · exact .inr ⟨b, off, ha, Nat.lt_of_lt_of_le hlt hb.size, fun i hi => (hb.cell (p := ⟨b, off + i, none⟩) hlt).trans (hc i hi)⟩
theorem RowT.alloc {w : World} {a : Option Addr} {n : Nat} {T : Nat → Int} (h : RowT w a n T) (o : Obj) : RowT (w.alloc o) a n T := h.below ((Below.refl _ _).alloc (Nat.le_refl _) _)
theorem RowT.drew {w : World} {a : Option Addr} {n : Nat} {T : Nat → Int} (h : RowT w a n T) : RowT w.drew a n T := h.below (Below.refl _ _).drew

theorem ofNat_inj {x y : Int} (hx : 0 ≤ x ∧ x ≤ 255) (hy : 0 ≤ y ∧ y ≤ 255) (h : UInt8.ofNat x.toNat = UInt8.ofNat y.toNat) : x = y := by
  have := congrArg UInt8.toNat h
  rw [UInt8.toNat_ofNat', UInt8.toNat_ofNat'] at this
  omega
theorem map_inj_bytes : ∀ (xs ys : List Int), (∀ x ∈ xs, 0 ≤ x ∧ x ≤ 255) → (∀ y ∈ ys, 0 ≤ y ∧ y ≤ 255) → (xs.map fun n => UInt8.ofNat n.toNat) = (ys.map fun n => UInt8.ofNat n.toNat) → xs = ys
  | [], [], _, _, _ => rfl
  | [], _ :: _, _, _, h => by simp at h
  | _ :: _, [], _, _, h => by simp at h
  | x :: xs, y :: ys, hx, hy, h => by
    simp only [List.map_cons, List.cons.injEq] at h
    rw [ofNat_inj (hx x (by simp)) (hy y (by simp)) h.1, map_inj_bytes xs ys (fun z hz => hx z (by simp [hz])) (fun z hz => hy z (by simp [hz])) h.2]
theorem strEq (xs ys : List Int) (hx : ∀ x ∈ xs, 0 ≤ x ∧ x ≤ 255) (hy : ∀ y ∈ ys, 0 ≤ y ∧ y ≤ 255) : ((strOfNums xs).toList == (strOfNums ys).toList) = decide (xs = ys) := by
  rw [ByteArray.toList_eq, ByteArray.toList_eq, strOfNums_data, strOfNums_data, Bool.eq_iff_iff, beq_iff_eq, decide_eq_true_eq]
  exact ⟨map_inj_bytes xs ys hx hy, fun h => by rw [h]⟩

set_option maxHeartbeats 400000 in
theorem equal37 (b off c b2 off2 c2 : Nat) (xs ys : List Int) (w : World) (hx : ∀ x ∈ xs, 0 ≤ x ∧ x ≤ 255) (hy : ∀ y ∈ ys, 0 ≤ y ∧ y ≤ 255)
    (h1 : ∀ i, i < xs.length → w.cell? ⟨b, off + i, none⟩ = some (.int .u8 (xs.getD i 0))) (h2 : ∀ i, i < ys.length → w.cell? ⟨b2, off2 + i, none⟩ = some (.int .u8 (ys.getD i 0))) :
    Calls Try.prog 37 #[.slice (some ⟨b, off, none⟩) xs.length c, .slice (some ⟨b2, off2, none⟩) ys.length c2] w fun e w' => e = .returned (.bool (decide (xs = ys))) ∧ w = w' := by
  have k1 := run_convert_bytes_arg (P := Try.prog) w 22 5 Try.underlying22 Try.underlying5 b off xs.length c xs rfl h1 9 Try.underlying9
  have k2 := run_convert_bytes_arg (P := Try.prog) w 22 5 Try.underlying22 Try.underlying5 b2 off2 ys.length c2 ys rfl h2 9 Try.underlying9
  have HS : Hid (((strOfNums xs).toList == (strOfNums ys).toList) = decide (xs = ys)) := strEq xs ys hx hy
  clear h1 h2 hx hy
  generalize strOfNums xs = A at *
  generalize strOfNums ys = B at *
  go_enter Try.func37, Try.ntmps37
  go_wp2
  go_ret
  exact ⟨by rw [← HS.out]; rfl, rfl⟩

/-- bytes.HasPrefix where s is too short. -/
theorem pre32_short (a a2 : Option Addr) (n c m c2 : Nat) (w : World) (hm : n < m) :
    Calls Try.prog 32 #[.slice a n c, .slice a2 m c2] w fun e w' => e = .returned (.bool false) ∧ w = w' := by
  have d : decide ((m : Int) ≤ (n : Int)) = false := decide_eq_false (by omega)
  go_enter Try.func32, Try.ntmps32
  go_wp2
  go_ret
  exact ⟨rfl, rfl⟩
/-- bytes.HasPrefix where s is long enough: xs are its first bytes. -/
theorem pre32_long (b off n c b2 off2 c2 : Nat) (xs ys : List Int) (w : World) (hm : ys.length ≤ n) (hnc : n ≤ c) (hl : xs.length = ys.length) (hx : ∀ x ∈ xs, 0 ≤ x ∧ x ≤ 255) (hy : ∀ y ∈ ys, 0 ≤ y ∧ y ≤ 255)
    (h1 : ∀ i, i < xs.length → w.cell? ⟨b, off + i, none⟩ = some (.int .u8 (xs.getD i 0))) (h2 : ∀ i, i < ys.length → w.cell? ⟨b2, off2 + i, none⟩ = some (.int .u8 (ys.getD i 0))) :
    Calls Try.prog 32 #[.slice (some ⟨b, off, none⟩) n c, .slice (some ⟨b2, off2, none⟩) ys.length c2] w fun e w' => e = .returned (.bool (decide (xs = ys))) ∧ w = w' := by
  have d : decide ((ys.length : Int) ≤ (n : Int)) = true := decide_eq_true (by omega)
  have HL : Hid (xs.length = ys.length) := hl
  have key := equal37 b off c b2 off2 c2 xs ys w hx hy h1 h2
  rw [hl] at key
  clear h1 h2 hl hx hy
  go_enter Try.func32, Try.ntmps32
  go_wp2_with fail
  refine key.mono ?_
  rintro e w' ⟨rfl, rfl⟩
  obtain ⟨q, hq⟩ : ∃ q, q = decide (xs = ys) := ⟨_, rfl⟩
  rw [← hq]
  have HQ : Hid (q = decide (xs = ys)) := hq
  clear hq key
  go_wp2
  go_ret
  exact ⟨by rw [← HQ.out]; simp, rfl⟩

/-- THE PLAIN FUNCTION: the length of the line break at k, 0 where none. -/
def lb (T : Nat → Int) (n k : Nat) : Int :=
  if n ≤ k then 0
  else if T k = 10 then 1
  else if T k = 13 then (if k + 1 < n ∧ T (k + 1) = 10 then 2 else 1)
  else if T k = 194 then (if k + 1 < n ∧ T (k + 1) = 133 then 2 else 0)
  else if T k = 226 then (if k + 2 < n ∧ T (k + 1) = 128 ∧ (T (k + 2) = 168 ∨ T (k + 2) = 169) then 3 else 0)
  else 0

set_option maxRecDepth 100000 in
set_option maxHeartbeats 1000000 in
theorem line27_end (p : Nat) (i : Int) (a : Option Addr) (n c : Nat) (w : World) (hp : w.cell? ⟨p, 0, none⟩ = some (.slice a n c)) (hi : (n : Int) ≤ i) :
    Calls Try.prog 27 #[.pointer (some ⟨p, 0, none⟩), .int .i64 i] w fun e w' => e = .returned (.int .i64 0) ∧ w = w' := by
  go_enter Try.func27, Try.ntmps27
  go_wp2
  go_ret
  exact ⟨rfl, rfl⟩

theorem pre32_2 (b off n c g : Nat) (x0 x1 y0 y1 : Int) (w : World) (hm : 2 ≤ n) (hnc : n ≤ c) (r0 : 0 ≤ x0 ∧ x0 ≤ 255) (r1 : 0 ≤ x1 ∧ x1 ≤ 255) (s0 : 0 ≤ y0 ∧ y0 ≤ 255) (s1 : 0 ≤ y1 ∧ y1 ≤ 255)
    (c0 : w.cell? ⟨b, off, none⟩ = some (.int .u8 x0)) (c1 : w.cell? ⟨b, off + 1, none⟩ = some (.int .u8 x1)) (d0 : w.cell? ⟨g, 0, none⟩ = some (.int .u8 y0)) (d1 : w.cell? ⟨g, 1, none⟩ = some (.int .u8 y1)) :
    Calls Try.prog 32 #[.slice (some ⟨b, off, none⟩) n c, .slice (some ⟨g, 0, none⟩) 2 2] w fun e w' => e = .returned (.bool (decide (x0 = y0 ∧ x1 = y1))) ∧ w = w' := by
  refine (pre32_long b off n c g 0 2 [x0, x1] [y0, y1] w hm hnc rfl (by simp; omega) (by simp; omega) ?_ ?_).mono ?_
  · intro i hi
    match i, hi with
    | 0, _ => exact c0
    | 1, _ => exact c1
  · intro i hi
    match i, hi with
    | 0, _ => exact d0
    | 1, _ => exact d1
  · rintro e w' ⟨rfl, rfl⟩
    refine ⟨?_, rfl⟩
    congr 2
    simp
theorem pre32_3 (b off n c g : Nat) (x0 x1 x2 y0 y1 y2 : Int) (w : World) (hm : 3 ≤ n) (hnc : n ≤ c) (r0 : 0 ≤ x0 ∧ x0 ≤ 255) (r1 : 0 ≤ x1 ∧ x1 ≤ 255) (r2 : 0 ≤ x2 ∧ x2 ≤ 255) (s0 : 0 ≤ y0 ∧ y0 ≤ 255) (s1 : 0 ≤ y1 ∧ y1 ≤ 255) (s2 : 0 ≤ y2 ∧ y2 ≤ 255)
    (c0 : w.cell? ⟨b, off, none⟩ = some (.int .u8 x0)) (c1 : w.cell? ⟨b, off + 1, none⟩ = some (.int .u8 x1)) (c2 : w.cell? ⟨b, off + 2, none⟩ = some (.int .u8 x2)) (d0 : w.cell? ⟨g, 0, none⟩ = some (.int .u8 y0)) (d1 : w.cell? ⟨g, 1, none⟩ = some (.int .u8 y1)) (d2 : w.cell? ⟨g, 2, none⟩ = some (.int .u8 y2)) :
    Calls Try.prog 32 #[.slice (some ⟨b, off, none⟩) n c, .slice (some ⟨g, 0, none⟩) 3 3] w fun e w' => e = .returned (.bool (decide (x0 = y0 ∧ x1 = y1 ∧ x2 = y2))) ∧ w = w' := by
  refine (pre32_long b off n c g 0 3 [x0, x1, x2] [y0, y1, y2] w hm hnc rfl (by simp; omega) (by simp; omega) ?_ ?_).mono ?_
  · intro i hi
    match i, hi with
    | 0, _ => exact c0
    | 1, _ => exact c1
    | 2, _ => exact c2
  · intro i hi
    match i, hi with
    | 0, _ => exact d0
    | 1, _ => exact d1
    | 2, _ => exact d2
  · rintro e w' ⟨rfl, rfl⟩
    refine ⟨?_, rfl⟩
    congr 2
    simp

/-- A cell of the row that was just made, marked or not. -/
theorem cell_marked (w : World) (C : Array Value) (t : TypeId) (fr : Nat × Nat) (j : Nat) : (w.alloc (.cells C t fr)).cell? ⟨w.heap.size, j, none⟩ = C[j]? :=
  cell_of_row _ _ j C t fr (heap_alloc_new w _)

set_option maxRecDepth 100000 in
set_option maxHeartbeats 1000000 in
theorem line27_in (p k : Nat) (b off n c : Nat) (T : Nat → Int) (w : World) (hp : w.cell? ⟨p, 0, none⟩ = some (.slice (some ⟨b, off, none⟩) n c)) (hk : k < n) (hnc : n ≤ c) (hn : n ≤ 1048576)
    (hT : ∀ i, i < n → 0 ≤ T i ∧ T i ≤ 255) (hcell : ∀ i, i < n → w.cell? ⟨b, off + i, none⟩ = some (.int .u8 (T i))) :
    Calls Try.prog 27 #[.pointer (some ⟨p, 0, none⟩), .int .i64 (k : Int)] w fun e w' => e = .returned (.int .i64 (lb T n k)) ∧ Below w.heap.size w w' := by

  have kc := fun (w : World) (C : Array Value) (n c : Nat) => Lib.run_convert_bytes_const (P := Try.prog) w 22 5 C n c Try.underlying22 Try.underlying5
  have kc2 : ∀ (o : Obj) (C : Array Value) (n c : Nat), (convert 22 22 (.slice (some ⟨w.heap.size + 1, 0, none⟩) n c)).run Try.prog ((w.alloc o).alloc (.cells C 5)) = .ok (.slice (some ⟨w.heap.size + 1, 0, none⟩) n c) ((w.alloc o).alloc (.cells C 5 (C.size, C.size + 1))) := by
    intro o C n c
    have := kc (w.alloc o) C n c
    simpa using this
  have q0 := hcell k hk
  have t0 := hT k hk
  obtain ⟨x, hx⟩ : ∃ x, x = T k := ⟨_, rfl⟩
  obtain ⟨v, hv⟩ : ∃ v, v = lb T n k := ⟨_, rfl⟩
  have HV : Hid (v = lb T n k) := hv
  rw [← hx] at q0 t0
  have EX := hv
  unfold lb at EX
  rw [if_neg (by omega), ← hx] at EX
  have HC : Hid (∀ i, i < n → w.cell? ⟨b, off + i, none⟩ = some (.int .u8 (T i))) := hcell
  have HT : Hid (∀ i, i < n → 0 ≤ T i ∧ T i ≤ 255) := hT
  clear hx hv hcell hT
  by_cases e1 : x = 10
  · subst e1
    have E : Hid (v = 1) := by show v = 1; simpa using EX
    clear EX kc
    go_enter Try.func27, Try.ntmps27
    go_wp2
    go_ret
    exact ⟨by rw [← HV.out, E.out]; rfl, Below.refl _ _⟩
  have d1 : (x == 10) = false := by simp [e1]
  rw [if_neg e1] at EX
  by_cases e2 : x = 13
  · subst e2
    clear d1 e1 kc
    rw [if_pos rfl] at EX
    by_cases h1 : k + 1 < n
    · have q1 := HC.out (k + 1) h1
      have t1 := HT.out (k + 1) h1
      rw [show off + (k + 1) = off + k + 1 from by omega] at q1
      obtain ⟨y, hy⟩ : ∃ y, y = T (k + 1) := ⟨_, rfl⟩
      rw [← hy] at q1 t1 EX
      clear hy
      have hd : decide ((1 : Int) < ((n - k : Nat) : Int)) = true := decide_eq_true (by omega)
      have b1 : (1 : Int) < ((n - k : Nat) : Int) := by omega
      by_cases e3 : y = 10
      · subst e3
        have E : Hid (v = 2) := by show v = 2; simpa [h1] using EX
        clear EX
        go_enter Try.func27, Try.ntmps27
        go_wp2
        go_ret
        exact ⟨by rw [← HV.out, E.out]; rfl, Below.refl _ _⟩
      · have dy : (y == 10) = false := by simp [e3]
        have E : Hid (v = 1) := by show v = 1; simpa [e3] using EX
        clear EX e3
        go_enter Try.func27, Try.ntmps27
        go_wp2
        go_ret
        exact ⟨by rw [← HV.out, E.out]; rfl, Below.refl _ _⟩
    · have hd : decide ((1 : Int) < ((n - k : Nat) : Int)) = false := decide_eq_false (by omega)
      have E : Hid (v = 1) := by show v = 1; simpa [h1] using EX
      clear EX
      go_enter Try.func27, Try.ntmps27
      go_wp2
      go_ret
      exact ⟨by rw [← HV.out, E.out]; rfl, Below.refl _ _⟩
  have d2 : (x == 13) = false := by simp [e2]
  rw [if_neg e2] at EX
  by_cases e3 : x = 194
  · subst e3
    clear d1 d2 e1 e2
    rw [if_pos rfl] at EX
    by_cases h1 : k + 1 < n
    · have q1 := HC.out (k + 1) h1
      have t1 := HT.out (k + 1) h1
      rw [show off + (k + 1) = off + k + 1 from by omega] at q1
      obtain ⟨y, hy⟩ : ∃ y, y = T (k + 1) := ⟨_, rfl⟩
      rw [← hy] at q1 t1 EX
      clear hy
      have E : Hid (v = if y = 133 then 2 else 0) := by by_cases h : y = 133 <;> simp [h, h1] at EX ⊢ <;> exact EX
      clear EX
      go_enter Try.func27, Try.ntmps27
      go_wp2_with fail
      refine (pre32_2 b (off + k) (n - k) (c - k) w.heap.size 194 y 194 133 _ (by omega) (by omega) (by omega) t1 (by omega) (by omega) (Lib.cell?_alloc_marked _ q0) (Lib.cell?_alloc_marked _ q1) (by rw [cell_marked]; rfl) (by rw [cell_marked]; rfl)).mono ?_
      rintro e w' ⟨rfl, rfl⟩
      by_cases hy : y = 133
      · have E2 : Hid (v = 2) := by show v = 2; rw [E.out, if_pos hy]
        rw [show decide ((194 : Int) = 194 ∧ y = 133) = true from by simp [hy]]
        clear E
        go_wp2
        go_ret
        exact ⟨by rw [← HV.out, E2.out]; rfl, (Below.refl _ _).alloc (Nat.le_refl _) _⟩
      · have E2 : Hid (v = 0) := by show v = 0; rw [E.out, if_neg hy]
        rw [show decide ((194 : Int) = 194 ∧ y = 133) = false from by simp [hy]]
        clear E
        go_wp2
        go_ret
        exact ⟨by rw [← HV.out, E2.out]; rfl, (Below.refl _ _).alloc (Nat.le_refl _) _⟩
    · have E : Hid (v = 0) := by show v = 0; simpa [h1] using EX
      clear EX
      go_enter Try.func27, Try.ntmps27
      go_wp2_with fail
      refine (pre32_short _ _ (n - k) (c - k) 2 2 _ (by omega)).mono ?_
      rintro e w' ⟨rfl, rfl⟩
      go_wp2
      go_ret
      exact ⟨by rw [← HV.out, E.out]; rfl, (Below.refl _ _).alloc (Nat.le_refl _) _⟩
  have d3 : (x == 194) = false := by simp [e3]
  rw [if_neg e3] at EX
  by_cases e4 : x = 226
  · subst e4
    clear d1 d2 d3 e1 e2 e3
    rw [if_pos rfl] at EX
    by_cases h2 : k + 2 < n
    · have q1 := HC.out (k + 1) (by omega)
      have q2 := HC.out (k + 2) h2
      have t1 := HT.out (k + 1) (by omega)
      have t2 := HT.out (k + 2) h2
      rw [show off + (k + 1) = off + k + 1 from by omega] at q1
      rw [show off + (k + 2) = off + k + 2 from by omega] at q2
      obtain ⟨y, hy⟩ : ∃ y, y = T (k + 1) := ⟨_, rfl⟩
      obtain ⟨z, hz⟩ : ∃ z, z = T (k + 2) := ⟨_, rfl⟩
      rw [← hy] at q1 t1
      rw [← hz] at q2 t2
      rw [← hy, ← hz] at EX
      clear hy hz
      have E : Hid (v = if y = 128 ∧ (z = 168 ∨ z = 169) then 3 else 0) := by by_cases h : y = 128 ∧ (z = 168 ∨ z = 169) <;> simp [h, h2] at EX ⊢ <;> exact EX
      clear EX
      go_enter Try.func27, Try.ntmps27
      go_wp2_with fail
      refine (pre32_3 b (off + k) (n - k) (c - k) w.heap.size 226 y z 226 128 168 _ (by omega) (by omega) (by omega) t1 t2 (by omega) (by omega) (by omega) (Lib.cell?_alloc_marked _ q0) (Lib.cell?_alloc_marked _ q1) (Lib.cell?_alloc_marked _ q2) (by rw [cell_marked]; rfl) (by rw [cell_marked]; rfl) (by rw [cell_marked]; rfl)).mono ?_
      rintro e w' ⟨rfl, rfl⟩
      by_cases hA : y = 128 ∧ z = 168
      · have E2 : Hid (v = 3) := by show v = 3; rw [E.out, if_pos ⟨hA.1, .inl hA.2⟩]
        rw [show decide ((226 : Int) = 226 ∧ y = 128 ∧ z = 168) = true from by simp [hA]]
        clear E
        go_wp2
        go_ret
        exact ⟨by rw [← HV.out, E2.out]; rfl, (Below.refl _ _).alloc (Nat.le_refl _) _⟩
      · rw [show decide ((226 : Int) = 226 ∧ y = 128 ∧ z = 168) = false from by simpa using hA]
        go_wp2_with fail
        refine (pre32_3 b (off + k) (n - k) (c - k) (w.heap.size + 1) 226 y z 226 128 169 _ (by omega) (by omega) (by omega) t1 t2 (by omega) (by omega) (by omega) (Lib.cell?_alloc_marked _ (Lib.cell?_alloc_marked _ q0)) (Lib.cell?_alloc_marked _ (Lib.cell?_alloc_marked _ q1)) (Lib.cell?_alloc_marked _ (Lib.cell?_alloc_marked _ q2)) ?_ ?_ ?_).mono ?_
        · have := cell_marked (w.alloc (.cells #[.int .u8 226, .int .u8 128, .int .u8 168] 5 (3, 4))) #[.int .u8 226, .int .u8 128, .int .u8 169] 5 (3, 4) 0; simpa using this
        · have := cell_marked (w.alloc (.cells #[.int .u8 226, .int .u8 128, .int .u8 168] 5 (3, 4))) #[.int .u8 226, .int .u8 128, .int .u8 169] 5 (3, 4) 1; simpa using this
        · have := cell_marked (w.alloc (.cells #[.int .u8 226, .int .u8 128, .int .u8 168] 5 (3, 4))) #[.int .u8 226, .int .u8 128, .int .u8 169] 5 (3, 4) 2; simpa using this
        rintro e w' ⟨rfl, rfl⟩
        by_cases hB : y = 128 ∧ z = 169
        · have E2 : Hid (v = 3) := by show v = 3; rw [E.out, if_pos ⟨hB.1, .inr hB.2⟩]
          rw [show decide ((226 : Int) = 226 ∧ y = 128 ∧ z = 169) = true from by simp [hB]]
          clear E
          go_wp2
          go_ret
          exact ⟨by rw [← HV.out, E2.out]; rfl, ((Below.refl _ _).alloc (Nat.le_refl _) _).alloc (by simp) _⟩
        · have E2 : Hid (v = 0) := by show v = 0; rw [E.out, if_neg (by rintro ⟨h, h' | h'⟩; exact hA ⟨h, h'⟩; exact hB ⟨h, h'⟩)]
          rw [show decide ((226 : Int) = 226 ∧ y = 128 ∧ z = 169) = false from by simpa using hB]
          clear E
          go_wp2
          go_ret
          exact ⟨by rw [← HV.out, E2.out]; rfl, ((Below.refl _ _).alloc (Nat.le_refl _) _).alloc (by simp) _⟩
    · have E : Hid (v = 0) := by show v = 0; simpa [h2] using EX
      clear EX
      go_enter Try.func27, Try.ntmps27
      go_wp2_with fail
      refine (pre32_short _ _ (n - k) (c - k) 3 3 _ (by omega)).mono ?_
      rintro e w' ⟨rfl, rfl⟩
      go_wp2_with fail
      refine (pre32_short _ _ (n - k) (c - k) 3 3 _ (by omega)).mono ?_
      rintro e w' ⟨rfl, rfl⟩
      go_wp2
      go_ret
      exact ⟨by rw [← HV.out, E.out]; rfl, ((Below.refl _ _).alloc (Nat.le_refl _) _).alloc (by simp) _⟩
  have d4 : (x == 226) = false := by simp [e4]
  rw [if_neg e4] at EX
  have E : Hid (v = 0) := EX
  clear EX kc
  go_enter Try.func27, Try.ntmps27
  go_wp2
  go_ret
  exact ⟨by rw [← HV.out, E.out]; rfl, Below.refl _ _⟩

end Go.Proofs.Qxb6600099a
