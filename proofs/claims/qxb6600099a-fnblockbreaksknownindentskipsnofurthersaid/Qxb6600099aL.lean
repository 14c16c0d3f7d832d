import Derived.Test.Qxb6600099aK
namespace Go.Proofs.Qxb6600099a
open Go.RowKit

theorem results_tmp5 {fn : Func} {t u v x y : Tmp} (h : fn.results = #[.tmp t, .tmp u, .tmp v, .tmp x, .tmp y]) (tmps : Array Value) (P : Program) (w : World) :
    (results fn tmps).run P w = .ok (.tuple #[tmps.getD t undef, tmps.getD u undef, tmps.getD v undef, tmps.getD x undef, tmps.getD y undef]) w := by
  simp [results, h]

/-- What ZZBlockBreaks answers. -/
def ZZPost (n : Nat) (T : Nat → Int) (at' line column : Nat) (bi : Int) (ind : Nat) (w : World) (e : Ending) (w' : World) : Prop :=
  ∃ (s : S) (st : Bool) (k : Int), e = .returned (.tuple #[.int .i64 k, .int .i64 s.p, .int .i64 (line + s.b : Nat), .int .i64 s.col, .bool st]) ∧ St T n at' column ind s ∧ Below w.heap.size w w' ∧ Ans T n ind bi s st k

set_option maxRecDepth 100000 in
set_option maxHeartbeats 400000 in
theorem zz18 (a : Option Addr) (n c : Nat) (T : Nat → Int) (at' line column : Nat) (bi : Int) (ind : Nat) (w : World) (r : RowT w a n T)
    (hnc : n ≤ c) (hn : n ≤ 1048576) (ha : at' ≤ n) (hl : line ≤ 1073741824) (hc : column ≤ 1073741824) (hbi : -1 ≤ bi ∧ bi ≤ 1073741824) (hi : ind ≤ 1073741824) :
    Calls Try.prog 18 #[.slice a n c, .int .i64 (at' : Int), .int .i64 (line : Int), .int .i64 (column : Int), .int .i64 bi, .int .i64 (ind : Int)] w (ZZPost n T at' line column bi ind w) := by
  go_enter Try.func18, Try.ntmps18
  go_wp2_with fail
  have hb0 : Below w.heap.size w (w.alloc (.cells (scan a n c at' line column bi false) 46)) := (Below.refl _ _).alloc (Nat.le_refl _) _
  have B : Calls Try.prog 30 #[.pointer (some ⟨w.heap.size, 0, none⟩), .int .i64 (ind : Int)] (w.alloc (.cells (scan a n c at' line column bi false) 46)) (BlockPost w.heap.size a n c T at' line column bi ind (w.alloc (.cells (scan a n c at' line column bi false) 46))) := by
    by_cases e : ind = 0
    · subst e
      exact block30z w.heap.size a n c T at' line column bi _ (Has.new _ _ w) (fun w' h => r.below (hb0.trans h)) r.1 hnc hn ha hl hc hbi
    · exact block30k w.heap.size a n c T at' line column bi ind _ (Has.new _ _ w) (fun w' h => r.below (hb0.trans h)) r.1 hnc hn ha hl hc (by omega)
  refine B.mono ?_
  rintro e w2 ⟨s, st, k, rfl, hs, hh, hw2, hA⟩
  have HS : Hid (St T n at' column ind s ∧ Below w.heap.size w w2 ∧ Ans T n ind bi s st k) := ⟨hs, hb0.trans hw2, hA⟩
  have h1 : w2.cell? ⟨w.heap.size, 1, none⟩ = some (.int .i64 s.p) := hh.cell 1
  have h2 : w2.cell? ⟨w.heap.size, 2, none⟩ = some (.int .i64 (line + s.b : Nat)) := hh.cell 2
  have h3 : w2.cell? ⟨w.heap.size, 3, none⟩ = some (.int .i64 s.col) := hh.cell 3
  have h13 : w2.cell? ⟨w.heap.size, 13, none⟩ = some (.bool st) := hh.cell 13
  clear hs hw2 hA B hb0 r hh
  obtain ⟨y, Hy⟩ : ∃ y : Int, Hid (y = ((line + s.b : Nat) : Int)) := ⟨_, rfl⟩
  rw [← Hy.out] at h2
  go_wp2_with (go_quiet (fail))
  refine bodyPost_ret (results_tmp5 rfl _ _ _) rfl ?_
  exact ⟨s, st, k, by rw [← Hy.out]; rfl, HS.out.1, HS.out.2.1.trans ⟨rfl, rfl, rfl, Nat.le_refl _, fun _ _ => rfl⟩, HS.out.2.2⟩

theorem imax20 (x y : Int) (w : World) : Calls Try.prog 20 #[.int .i64 x, .int .i64 y] w fun e w' => e = .returned (.int .i64 (max x y)) ∧ w = w' := by
  by_cases h : y < x
  · have e : max x y = x := by omega
    rw [e]
    go_enter Try.func20, Try.ntmps20
    go_wp2
    go_ret
    exact ⟨rfl, rfl⟩
  · have e : max x y = y := by omega
    rw [e]
    go_enter Try.func20, Try.ntmps20
    go_wp2
    go_ret
    exact ⟨rfl, rfl⟩
theorem zz17_yes (a : Option Addr) (n c : Nat) (i j k l : Int) (w : World) (h : n ≤ 1048576) :
    Calls Try.prog 17 #[.slice a n c, .int .i64 i, .int .i64 j, .int .i64 k, .int .i64 l] w fun e w' => e = .returned (.bool true) ∧ w = w' := by
  go_enter Try.func17, Try.ntmps17
  go_wp2
  go_ret
  exact ⟨rfl, rfl⟩
theorem zz17_no (a : Option Addr) (n c : Nat) (i j k l : Int) (w : World) (h : ¬ n ≤ 1048576) :
    Calls Try.prog 17 #[.slice a n c, .int .i64 i, .int .i64 j, .int .i64 k, .int .i64 l] w fun e w' => e = .returned (.bool false) ∧ w = w' := by
  go_enter Try.func17, Try.ntmps17
  go_wp2
  go_ret
  exact ⟨rfl, rfl⟩
theorem zz22_yes (a : Option Addr) (n c : Nat) (i j k l : Int) (w : World) (h : n ≤ 1048576) :
    Calls Try.prog 22 #[.slice a n c, .int .i64 i, .int .i64 j, .int .i64 k, .int .i64 l] w fun e w' => e = .returned (.bool true) ∧ w = w' := by
  go_enter Try.func22, Try.ntmps22
  go_wp2
  go_ret
  exact ⟨rfl, rfl⟩
theorem zz22_no (a : Option Addr) (n c : Nat) (i j k l : Int) (w : World) (h : ¬ n ≤ 1048576) :
    Calls Try.prog 22 #[.slice a n c, .int .i64 i, .int .i64 j, .int .i64 k, .int .i64 l] w fun e w' => e = .returned (.bool false) ∧ w = w' := by
  go_enter Try.func22, Try.ntmps22
  go_wp2
  go_ret
  exact ⟨rfl, rfl⟩
end Go.Proofs.Qxb6600099a
