/-
  Seat b6612340aF: Rows.FnWireB1ParamsReadsALengthPrefixedFieldToldSaid: the row over the walk 'law3_any', fmt's text told, the sentinel tied (the tie is given).
-/
import Derived.Test.Qxb6612340aFmtOpen
import Derived.Test.Qxb6612340aFmtLaw3
namespace Go.Proofs.Qxb6612340aFmt.card3
open Go.ChangeShapes Go.WideShapes Go.ChangeAt Go.RowKit
open Go.Extern.Stop Go.Stop Go.Extern
set_option linter.unusedVariables false

set_option maxRecDepth 100000 in
theorem lifted (os : Os) (started : os.Started) (H : Type) (enc : TypeId × Value → H) :
    ReturnsInTold none {} Tryf.checked os 5 .any Input.okWide ((OpenSpec.ofChange Rows.fnWireB1ParamsReadsALengthPrefixedFieldSpec).preRow enc Tryf.prog Tryf.f5 [] false Rows.fnWireB1ParamsReadsALengthPrefixedFieldRow.laid) (fun F => ((OpenSpec.ofChange Rows.fnWireB1ParamsReadsALengthPrefixedFieldSpec).at F).post enc Tryf.prog Tryf.f5 false true false false) (aloneAtReturn Tryf.prog) nothingAlways := by
  refine returnsInTold_of_row (C := Tryf.checked) (s := OpenSpec.ofChange Rows.fnWireB1ParamsReadsALengthPrefixedFieldSpec) (by kernel_rfl) Tryf.own started (by kernel_rfl) Tryf.func5
    (OpenSpec.witness_stopped_at (enc := enc) (C := Tryf.checked) false (laidWorld Tryf.prog os laidText) #[.slice none 0 0, .bool false] rfl (by kernel_rfl) (by kernel_rfl) (by kernel_rfl)
      (OpenSpec.preRow_of_B rfl 8 (by kernel_rfl) (by kernel_rfl) (laid_met os _))) ?_
  intro F W base args ds gs before _ hF hval0 hW _ _ _ hL _
  have hval : ∀ (j : Nat) t v, Tryf.f5.params[j]? = some t → args[j]? = some v → Value.okWide Tryf.prog W .any base t v := hval0
  have hW' := hW
  obtain ⟨p, q, hA0, hV0, rfl, hfz, hnd⟩ := hW
  have hA : DataW.TrodAll enc Tryf.prog W 0 (fun _ => true) true Tryf.f5.params.toList args.toList ds p := hA0
  have hV : DataW.TrodVars enc Tryf.prog W (fun _ => true) [Rows.fnWireB1U8ReadsTheFirstByteSpec.vars.headD default] gs q := hV0
  rw [Tryf.params5] at hA hval
  obtain ⟨v0, v1, d0, d1, p0, p1, rfl, rfl, rfl, h0, h1⟩ := trodAll_two hA
  obtain ⟨a0, len0, cap0, rfl⟩ := okWide_slice Tryf.underlying22 (hval 0 22 v0 rfl rfl)
  have k0 := h0
  have lt0 : ∀ x ∈ p0, x.block < W.heap.size := by obtain ⟨m, hm⟩ := k0; exact DataW.trod_lt m _ _ _ hm
  obtain ⟨zs0, hR0, hl0, hn0, hbd0⟩ : ∃ zs, RowB W a0 len0 zs ∧ len0 ≤ maxLen ∧ (a0 = none → len0 = 0) ∧ ∀ j, 0 ≤ zs.getD j 0 ∧ zs.getD j 0 ≤ 255 := by
    obtain ⟨fuel, hf⟩ := h0
    exact openB hf
  obtain ⟨b1, rfl, rfl, rfl⟩ := open_bool Tryf.underlying4 (hval 1 4 v1 rfl rfl) h1
  obtain ⟨sa, st, hv, hc⟩ := sentinel hL
  have hE : Env F.told W sa st := env_of hF hv hc
  have hpos : 0 < W.heap.size := World.block_lt_of_cell? _ _ hE.var
  obtain ⟨rfl, rfl⟩ := hV.unique (vars_kept enc hv (Below.refl _ _) hpos _)
  clear hA0 hV0 hval0
  refine (law3_any F.told a0 len0 cap0 zs0 b1 sa st W hE hl0 hR0 hbd0).mono fun e W' ⟨he, bel⟩ => ?_
  subst he
  exact ⟨_, rfl, _, _, _, [], _, [.cell 0 0], hW', trodAll_mk1 (shut_bool Tryf.underlying4 _), (trodAll_mk2 (Below.trod Tryf.laidOut (by kernel_rfl) (of_decide_eq_true (by kernel_rfl)) k0 bel lt0) (shut_bool Tryf.underlying4 b1)), vars_kept enc hv bel hpos _, bel.frame _, fun h => by cases h⟩

theorem card : Rows.FnWireB1ParamsReadsALengthPrefixedFieldToldSaid :=
  Claim7.holds_of_told_tied_any_at .later 5 Tryf.f5 _ _ [] _ _ _ _ _ (by kernel_rfl) rfl rfl rfl Tryf.laidOut (by kernel_rfl) rfl ⟨rfl, rfl, rfl, rfl, rfl, rfl, rfl⟩ rfl rfl (by kernel_rfl) (by kernel_rfl) Tryf.func5 (by kernel_rfl)
    (of_decide_eq_true (by kernel_rfl)) (of_decide_eq_true (by kernel_rfl)) (by kernel_rfl) rfl Tryf.stopKnobs.symm (by kernel_rfl)
    (by kernel_rfl) (by kernel_rfl) (by kernel_rfl) (by kernel_rfl) (by kernel_rfl) (by kernel_rfl) (by kernel_rfl) (by kernel_rfl) (by kernel_rfl) rfl (by kernel_rfl) rfl rfl
    rfl rfl
    rfl (by kernel_rfl) (by kernel_rfl) (by kernel_rfl) (by decide) (by kernel_rfl) fnWireB1ParamsReadsALengthPrefixedField_row_tie
    (OpenClaim.moreEntering_of (by kernel_rfl) (by kernel_rfl) (by kernel_rfl) (by kernel_rfl) (by kernel_rfl) (by kernel_rfl) (by kernel_rfl) (by kernel_rfl) (by kernel_rfl) (by kernel_rfl))
    ⟨_, WideRow.started_initial, Tryf.quiet _⟩
    (fun os started _ H enc _ => lifted os started H enc)

end Go.Proofs.Qxb6612340aFmt.card3
namespace Go.Proofs.Qxb6612340aFmt

/-- THE STATEMENT -/
theorem fnWireB1ParamsReadsALengthPrefixedField_proved : Rows.FnWireB1ParamsReadsALengthPrefixedFieldToldSaid := card3.card

end Go.Proofs.Qxb6612340aFmt
