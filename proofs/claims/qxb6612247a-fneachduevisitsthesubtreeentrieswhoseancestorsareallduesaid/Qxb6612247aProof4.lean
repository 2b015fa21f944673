/-
  Seat b6612247a: Rows.FnEachDueVisitsTheSubtreeEntriesWhoseAncestorsAreAllDueSaid: the row over the walk 'law4_any'. The frame is the guide's (howto/shells/proof-skeleton.mjs, for 'Below'), a []string added.
-/
import Derived.Test.Qxb6612247aLaw4
import Derived.Test.Qxb6612247aOpen
namespace Go.Proofs.Qxb6612247a.law4
open Go.ChangeShapes Go.WideShapes Go.ChangeAt Go.RowKit
set_option linter.unusedVariables false

set_option maxRecDepth 100000 in
theorem lifted (os : Os) (started : os.Started) (H : Type) (enc : TypeId × Value → H) :
    ReturnsInHanded {} Try.checked os 6 .any (Rows.fnEachDueVisitsTheSubtreeEntriesWhoseAncestorsAreAllDueSpec.pre6 enc Try.prog Try.f6 Rows.fnEachDueVisitsTheSubtreeEntriesWhoseAncestorsAreAllDueRow.domain false) (Rows.fnEachDueVisitsTheSubtreeEntriesWhoseAncestorsAreAllDueSpec.post enc Try.prog Try.f6 false true false false) := by
  refine returnsInHanded_of_change (C := Try.checked) Try.own started (by kernel_rfl) Try.func6
    (ChangeSpec.witness6 (enc := enc) (C := Try.checked) false ⟨#[], #[.slice none 0 0, .slice none 0 0, .int .i64 0, .int .i64 0], []⟩ 8 (by kernel_rfl) (by kernel_rfl) (by kernel_rfl) (by kernel_rfl)) ?_
  intro W base args ds gs before hval0 hW hcnd _
  have hval : ∀ (j : Nat) t v, Try.f6.params[j]? = some t → args[j]? = some v → Value.okWide Try.prog W .any base t v := hval0
  have hW' := hW
  obtain ⟨p, q, hA0, hV, rfl, hfz, hnd⟩ := hW
  have hA : DataW.TrodAll enc Try.prog W 0 (fun _ => true) true Try.f6.params.toList args.toList ds p := hA0
  rw [Try.params6] at hA hval
  obtain ⟨v0, v1, v2, v3, d0, d1, d2, d3, p0, p1, p2, p3, rfl, rfl, rfl, h0, h1, h2, h3⟩ := trodAll_four hA
  obtain ⟨rfl, rfl⟩ := trodVars_none hV
  obtain ⟨a0, len0, cap0, rfl⟩ := okWide_slice Try.underlying22 (hval 0 22 v0 rfl rfl)
  obtain ⟨a1, len1, cap1, rfl⟩ := okWide_slice Try.underlying23 (hval 1 23 v1 rfl rfl)
  have k0 := h0
  have lt0 : ∀ x ∈ p0, x.block < W.heap.size := by obtain ⟨m, hm⟩ := k0; exact DataW.trod_lt m _ _ _ hm
  have k1 := h1
  have lt1 : ∀ x ∈ p1, x.block < W.heap.size := by obtain ⟨m, hm⟩ := k1; exact DataW.trod_lt m _ _ _ hm
  obtain ⟨zs, hR0, hl0, hn0, hbd⟩ : ∃ zs, RowI W a0 len0 zs ∧ len0 ≤ maxLen ∧ (a0 = none → len0 = 0) ∧ ∀ z ∈ zs, -9223372036854775808 ≤ z ∧ z ≤ 9223372036854775807 := by
    obtain ⟨fuel, hf⟩ := h0
    exact openI hf
  obtain ⟨ks, hR1, hl1, hn1⟩ : ∃ ks, RowS W a1 len1 ks ∧ len1 ≤ maxLen ∧ (a1 = none → len1 = 0) := by
    obtain ⟨fuel, hf⟩ := h1
    exact openS hf
  obtain ⟨i, rfl, rfl, rfl, wi⟩ := open_int Try.underlying3 (hval 2 3 v2 rfl rfl) h2
  obtain ⟨now, rfl, rfl, rfl, wnow⟩ := open_int Try.underlying2 (hval 3 2 v3 rfl rfl) h3
  clear hA0 hval0
  refine (law4_any a0 len0 cap0 a1 len1 cap1 zs ks i now W hl0 hl1 hR0 hR1 hn0 hbd (bounds_i64 wi) (bounds_i64 wnow)).mono fun e W' ⟨he, bel⟩ => ?_
  subst he
  exact ⟨_, rfl, _, _, _, [], _, [], hW', trodAll_mk1 (shut_bool Try.underlying4 _), (trodAll_mk4 (Below.trod Try.laidOut (by kernel_rfl) (of_decide_eq_true (by kernel_rfl)) k0 bel lt0) (Below.trod Try.laidOut (by kernel_rfl) (of_decide_eq_true (by kernel_rfl)) k1 bel lt1) (shut_int Try.underlying3 wi) (shut_int Try.underlying2 wnow)), rfl, bel.frame _, fun h => by cases h⟩

theorem over : Rows.fnEachDueVisitsTheSubtreeEntriesWhoseAncestorsAreAllDueRow.holds Try.pinned (OpenSpec.ofChange Rows.fnEachDueVisitsTheSubtreeEntriesWhoseAncestorsAreAllDueSpec) :=
  OpenClaim.holds_of_wide 6 Try.f6 rfl rfl rfl rfl rfl rfl rfl ⟨rfl, rfl, rfl, rfl, rfl⟩ rfl rfl rfl rfl rfl (by kernel_rfl) Try.func6 (by kernel_rfl)
    (of_decide_eq_true (by kernel_rfl)) (by unfold Func.isWrapper; first | (rw [if_pos (by decide +kernel)]; kernel_rfl) | (rw [if_neg (by decide +kernel)]; exact ⟨rfl, rfl⟩))
    (fun os started H enc _ => lifted os started H enc)

end Go.Proofs.Qxb6612247a.law4
namespace Go.Proofs.Qxb6612247a

/-- THE STATEMENT -/
theorem fnEachDueVisitsTheSubtreeEntriesWhoseAncestorsAreAllDue_proved : Rows.FnEachDueVisitsTheSubtreeEntriesWhoseAncestorsAreAllDueSaid := law4.over

end Go.Proofs.Qxb6612247a
