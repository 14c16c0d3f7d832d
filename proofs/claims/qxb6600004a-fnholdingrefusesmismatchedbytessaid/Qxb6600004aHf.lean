import Derived.Test.Qxb6600004aHe
namespace Go.Proofs.Qxb6600004a
open Go.RowKit

/-- What a holding holds that can differ. -/
structure Hold where
  fk : ByteArray
  fn : ByteArray
  ok : ByteArray
  on : ByteArray
  vk : ByteArray
  vn : ByteArray
  wd : Bool
  s0 : Option Addr
  m0 : Nat
  k0 : Nat
  s1 : Option Addr
  m1 : Nat
  k1 : Nat
  ak : ByteArray
  ac : Int

abbrev Hold.cells (h : Hold) : Array Value := holdC h.fk h.fn h.ok h.on h.vk h.vn h.wd (.slice h.s0 h.m0 h.k0) (.slice h.s1 h.m1 h.k1) h.ak h.ac

/-- 'holding' of a nil listing. -/
def holdNil (uk un : ByteArray) : Hold := ⟨uk, un, uk, un, ⟨#[]⟩, ⟨#[]⟩, false, none, 0, 0, none, 0, 0, ⟨#[]⟩, 0⟩

/-- 'holding' of a listing that is there. -/
def holdF (vr : Bool) (a0 : Option Addr) (n0 c0 : Nat) (a1 : Option Addr) (n1 c1 : Nat) (ak : ByteArray) (ac : Int) (wd : Bool) (fl : ByteArray) (op : Bool) (uk un : ByteArray) (sz : Int) : Hold :=
  if vr = true then ⟨uk, un, uk, un, uk, un, false, none, 0, 0, none, 0, 0, ⟨#[]⟩, 0⟩
  else if a0.isNone = false ∧ (n0 : Int) ≠ sz then ⟨uk, un, uk, un, ⟨#[]⟩, ⟨#[]⟩, wd, none, 0, 0, none, 0, 0, ⟨#[]⟩, 0⟩
  else if fl = ⟨#[]⟩ then
    (if op = true then ⟨uk, un, uk, un, ⟨#[]⟩, ⟨#[]⟩, wd, a0, n0, c0, a1, n1, c1, ak, ac⟩ else ⟨⟨#[]⟩, ⟨#[]⟩, ⟨#[]⟩, ⟨#[]⟩, ⟨#[]⟩, ⟨#[]⟩, wd, a0, n0, c0, a1, n1, c1, ak, ac⟩)
  else
    (if op = true then ⟨fl, ⟨#[]⟩, uk, un, ⟨#[]⟩, ⟨#[]⟩, wd, a0, n0, c0, a1, n1, c1, ak, ac⟩ else ⟨fl, ⟨#[]⟩, ⟨#[]⟩, ⟨#[]⟩, ⟨#[]⟩, ⟨#[]⟩, wd, a0, n0, c0, a1, n1, c1, ak, ac⟩)

theorem notEmpty {s : ByteArray} (h : s ≠ ⟨#[]⟩) : s.toList.isEmpty = false := by
  have := decide_eq_emptyBytes s
  rw [← this]
  exact decide_eq_false h

theorem hold49_some (uk un : ByteArray) (sz : Int) (w : World) (b : Nat) (a0 a1 : Option Addr) (n0 c0 n1 c1 : Nat) (ak fl : ByteArray) (ac : Int) (wd op vr : Bool)
    (hb : Has b #[.slice a0 n0 c0, .slice a1 n1 c1, .string ak, .int .i64 ac, .bool wd, .slice none 0 0, .string fl, .bool op, .bool vr] 105 w) :
    Calls Try.prog 49 #[.pointer (some ⟨b, 0, none⟩), .agg (typeC uk un), .int .i64 sz] w
      fun e w' => e = .returned (.agg (holdF vr a0 n0 c0 a1 n1 c1 ak ac wd fl op uk un sz).cells) ∧ Below w.heap.size w w' := by
  cases vr with
  | true =>
    refine (hold49_varies uk un sz w b hb.lt (hb.cell 8)).mono ?_
    rintro e w' ⟨rfl, h⟩
    exact ⟨rfl, h⟩
  | false =>
    by_cases hc : a0.isNone = false ∧ (n0 : Int) ≠ sz
    · refine (hold49_refuse uk un sz w b a0 a1 n0 c0 n1 c1 ak fl ac wd op hb hc.1 (by simpa using hc.2)).mono ?_
      rintro e w' ⟨rfl, h⟩
      refine ⟨?_, h⟩
      rw [holdF, if_neg (by simp), if_pos hc]
    · have hD : a0.isNone = true ∨ (a0.isNone = false ∧ ((n0 : Int) != sz) = false) := by
        cases h : a0.isNone
        · right
          refine ⟨rfl, ?_⟩
          by_cases hz : (n0 : Int) = sz
          · simp [hz]
          · exact absurd ⟨h, hz⟩ hc
        · left; rfl
      by_cases hf : fl = ⟨#[]⟩
      · subst hf
        cases op with
        | true =>
          refine (hold49_else3 uk un sz w b a0 a1 n0 c0 n1 c1 ak ac wd hb hD).mono ?_
          rintro e w' ⟨rfl, h⟩
          refine ⟨?_, h⟩
          rw [holdF, if_neg (by simp), if_neg hc, if_pos rfl, if_pos rfl]
        | false =>
          refine (hold49_else2 uk un sz w b a0 a1 n0 c0 n1 c1 ak ac wd hb hD).mono ?_
          rintro e w' ⟨rfl, h⟩
          refine ⟨?_, h⟩
          rw [holdF, if_neg (by simp), if_neg hc, if_pos rfl, if_neg (by simp)]
      · cases op with
        | true =>
          refine (hold49_else4 uk un sz w b a0 a1 n0 c0 n1 c1 ak fl ac wd hb hD (notEmpty hf)).mono ?_
          rintro e w' ⟨rfl, h⟩
          refine ⟨?_, h⟩
          rw [holdF, if_neg (by simp), if_neg hc, if_neg hf, if_pos rfl]
        | false =>
          refine (hold49_else1 uk un sz w b a0 a1 n0 c0 n1 c1 ak fl ac wd hb hD (notEmpty hf)).mono ?_
          rintro e w' ⟨rfl, h⟩
          refine ⟨?_, h⟩
          rw [holdF, if_neg (by simp), if_neg hc, if_neg hf, if_neg (by simp)]

end Go.Proofs.Qxb6600004a
