import Derived.Test.Qxb6600004aFacts
import Derived.Test.Qxb6600004aLh
import Derived.Test.Qxb6600004aLk
import Derived.ProofKit
import Derived.OpenShut
import Derived.ChangeOld
import Derived.Below
namespace Go.Proofs.Qxb6600004a.fnLaidOutPlaces
open Go.ChangeShapes Go.WideShapes Go.ChangeAt Go.RowKit

theorem own : ownKnob Try.prog.godebug = none := by kernel_rfl
theorem laidOut : laidOutB Try.prog = true := by kernel_rfl

set_option maxRecDepth 100000 in
theorem lifted (os : Os) (started : os.Started) (H : Type) (enc : TypeId × Value → H) :
    ReturnsInHanded {} Try.checked os 3 .any (Rows.fnLaidOutPlacesFieldsInOrderSpec.pre6 enc Try.prog Try.f3 Rows.fnLaidOutPlacesFieldsInOrderRow.domain false) (Rows.fnLaidOutPlacesFieldsInOrderSpec.post enc Try.prog Try.f3 false true false false) := by
  refine returnsInHanded_of_change (C := Try.checked) own started (by kernel_rfl) Try.func3
    (ChangeSpec.witness6 (enc := enc) (C := Try.checked) false ⟨#[], #[.int .i64 0, .slice none 0 0, .slice none 0 0, .int .i64 0], []⟩ 8 (by kernel_rfl) (by kernel_rfl) (by kernel_rfl) (by kernel_rfl)) ?_
  intro W base args ds gs before hval0 hW hcnd _
  have hval : ∀ (j : Nat) t v, Try.f3.params[j]? = some t → args[j]? = some v → Value.okWide Try.prog W .any base t v := hval0
  have hW' := hW
  obtain ⟨p, q, hA0, hV, rfl, hfz, hnd⟩ := hW
  have hA : DataW.TrodAll enc Try.prog W 0 (fun _ => true) true Try.f3.params.toList args.toList ds p := hA0
  rw [Try.params3] at hA hval
  obtain ⟨v0, v1, v2, v3, d0, d1, d2, d3, p0, p1, p2, p3, rfl, rfl, rfl, h0, h1, h2, h3⟩ := trodAll_four hA
  obtain ⟨rfl, rfl⟩ := trodVars_none hV
  have k1 := h1
  have k2 := h2
  have lt1 : ∀ x ∈ p1, x.block < W.heap.size := by obtain ⟨m, hm⟩ := k1; exact DataW.trod_lt m _ _ _ hm
  have lt2 : ∀ x ∈ p2, x.block < W.heap.size := by obtain ⟨m, hm⟩ := k2; exact DataW.trod_lt m _ _ _ hm
  obtain ⟨o, rfl, rfl, rfl, wo⟩ := open_int Try.underlying3 (hval 0 3 v0 rfl rfl) h0
  obtain ⟨a1, n1, c1, bS, bA, rfl, r1, z1⟩ := openB (hval 1 22 v1 rfl rfl) h1
  obtain ⟨a2, n2, c2, fS, fA, fP, rfl, r2, z2⟩ := openF (hval 2 23 v2 rfl rfl) h2
  obtain ⟨t, rfl, rfl, rfl, wt⟩ := open_int Try.underlying3 (hval 3 3 v3 rfl rfl) h3
  clear hA0 hval0
  refine (law3 o t n1 n2 c1 c2 a1 a2 bS bA fS fA fP W z1 z2 r1 r2).mono fun e W' ⟨he, bel⟩ => ?_
  subst he
  exact ⟨_, rfl, _, _, _, [], _, [], hW', trodAll_mk1 (shut_bool Try.underlying4 _), (trodAll_mk4 (shut_int Try.underlying3 wo) (Below.trod laidOut (by kernel_rfl) (of_decide_eq_true (by kernel_rfl)) k1 bel lt1) (Below.trod laidOut (by kernel_rfl) (of_decide_eq_true (by kernel_rfl)) k2 bel lt2) (shut_int Try.underlying3 wt)), rfl, bel.frame _, fun h => by cases h⟩

set_option maxRecDepth 100000 in
theorem facts : joinedFacts Try.prog 3 Try.f3 Rows.fnLaidOutPlacesFieldsInOrderSpec Rows.fnLaidOutPlacesFieldsInOrderRow = true := by
  unfold joinedFacts
  exact (and_true' (and_true' (and_true' (and_true' (and_true' (and_true' (and_true' (and_true' (and_true' (and_true' (and_true' (and_true' (and_true' (and_true' (and_true' (and_true' (and_true' (and_true' (and_true' (and_true' (and_true' (and_true' (and_true' (and_true' (and_true' (and_true' (and_true' (and_true' (and_true' (and_true' (and_true' (by as_aux_lemma => kernel_rfl) (by as_aux_lemma => kernel_rfl)) (by as_aux_lemma => kernel_rfl)) (by as_aux_lemma => kernel_rfl)) (by as_aux_lemma => kernel_rfl)) (by as_aux_lemma => kernel_rfl)) (by as_aux_lemma => kernel_rfl)) (by as_aux_lemma => kernel_rfl)) (by as_aux_lemma => kernel_rfl)) (by as_aux_lemma => kernel_rfl)) (by as_aux_lemma => kernel_rfl)) (by as_aux_lemma => kernel_rfl)) (by as_aux_lemma => kernel_rfl)) (by as_aux_lemma => kernel_rfl)) (by as_aux_lemma => kernel_rfl)) (by as_aux_lemma => kernel_rfl)) (by as_aux_lemma => kernel_rfl)) (by as_aux_lemma => kernel_rfl)) (by as_aux_lemma => kernel_rfl)) (by as_aux_lemma => kernel_rfl)) (by as_aux_lemma => kernel_rfl)) (by as_aux_lemma => kernel_rfl)) (by as_aux_lemma => kernel_rfl)) (by as_aux_lemma => kernel_rfl)) (by as_aux_lemma => kernel_rfl)) mayEnter') (beq_false' liftsFinal')) (beq_make' make' (by as_aux_lemma => kernel_rfl))) (by as_aux_lemma => kernel_rfl)) (by as_aux_lemma => kernel_rfl)) (by as_aux_lemma => kernel_rfl)) (by as_aux_lemma => kernel_rfl))

theorem over : Rows.fnLaidOutPlacesFieldsInOrderRow.holds Try.pinned (OpenSpec.ofChange Rows.fnLaidOutPlacesFieldsInOrderSpec) :=
  OpenClaim.holds_of_wide 3 Try.f3 rfl rfl rfl rfl rfl rfl rfl ⟨rfl, rfl, rfl, rfl, rfl⟩ rfl rfl rfl rfl rfl (by as_aux_lemma => kernel_rfl) Try.func3 facts
    (of_decide_eq_true (by as_aux_lemma => kernel_rfl)) (by as_aux_lemma => (unfold Func.isWrapper; first | (rw [if_pos (by decide +kernel)]; kernel_rfl) | (rw [if_neg (by decide +kernel)]; exact ⟨rfl, rfl⟩)))
    (fun os started H enc _ => lifted os started H enc)

/-- THE STATEMENT -/
theorem proved : Rows.FnLaidOutPlacesFieldsInOrderSaid := over
end Go.Proofs.Qxb6600004a.fnLaidOutPlaces
