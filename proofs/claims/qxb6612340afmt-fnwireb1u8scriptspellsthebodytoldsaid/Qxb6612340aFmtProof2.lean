/-
  Seat b6612340aF: Rows.FnWireB1U8ScriptSpellsTheBodyToldSaid: the row over the walk 'law2_any', fmt's text told, the sentinel tied (the tie is given).
-/
import Derived.Test.Qxb6612340aFmtOpen
import Derived.Test.Qxb6612340aFmtLaw2
namespace Go.Proofs.Qxb6612340aFmt.card2
open Go.ChangeShapes Go.WideShapes Go.ChangeAt Go.RowKit
open Go.Extern.Stop Go.Stop Go.Extern
set_option linter.unusedVariables false

set_option maxRecDepth 100000 in
theorem lifted (os : Os) (started : os.Started) (H : Type) (enc : TypeId × Value → H) :
    ReturnsInTold none {} Tryf.checked os 4 .any Input.okWide ((OpenSpec.ofChange Rows.fnWireB1U8ScriptSpellsTheBodySpec).preRow enc Tryf.prog Tryf.f4 [] false Rows.fnWireB1U8ScriptSpellsTheBodyRow.laid) (fun F => ((OpenSpec.ofChange Rows.fnWireB1U8ScriptSpellsTheBodySpec).at F).post enc Tryf.prog Tryf.f4 false true false false) (aloneAtReturn Tryf.prog) nothingAlways := by
  refine returnsInTold_of_row (C := Tryf.checked) (s := OpenSpec.ofChange Rows.fnWireB1U8ScriptSpellsTheBodySpec) (by kernel_rfl) Tryf.own started (by kernel_rfl) Tryf.func4
    (OpenSpec.witness_stopped_at (enc := enc) (C := Tryf.checked) false (laidWorld Tryf.prog os laidText) #[.slice none 0 0] rfl (by kernel_rfl) (by kernel_rfl) (by kernel_rfl)
      (OpenSpec.preRow_of_B rfl 8 (by kernel_rfl) (by kernel_rfl) (laid_met os _))) ?_
  intro F W base args ds gs before _ hF hval0 hW _ _ _ hL _
  have hval : ∀ (j : Nat) t v, Tryf.f4.params[j]? = some t → args[j]? = some v → Value.okWide Tryf.prog W .any base t v := hval0
  have hW' := hW
  obtain ⟨p, q, hA0, hV0, rfl, hfz, hnd⟩ := hW
  have hA : DataW.TrodAll enc Tryf.prog W 0 (fun _ => true) true Tryf.f4.params.toList args.toList ds p := hA0
  have hV : DataW.TrodVars enc Tryf.prog W (fun _ => true) [Rows.fnWireB1U8ReadsTheFirstByteSpec.vars.headD default] gs q := hV0
  rw [Tryf.params4] at hA hval
  obtain ⟨v0, d0, rfl, rfl, h0⟩ := trodAll_one hA
  obtain ⟨a0, len0, cap0, rfl⟩ := okWide_slice Tryf.underlying22 (hval 0 22 v0 rfl rfl)
  have k0 := h0
  have lt0 : ∀ x ∈ p, x.block < W.heap.size := by obtain ⟨m, hm⟩ := k0; exact DataW.trod_lt m _ _ _ hm
  obtain ⟨zs0, hR0, hl0, hn0, hbd0⟩ : ∃ zs, RowB W a0 len0 zs ∧ len0 ≤ maxLen ∧ (a0 = none → len0 = 0) ∧ ∀ j, 0 ≤ zs.getD j 0 ∧ zs.getD j 0 ≤ 255 := by
    obtain ⟨fuel, hf⟩ := h0
    exact openB hf
  obtain ⟨sa, st, hv, hc⟩ := sentinel hL
  have hE : Env F.told W sa st := env_of hF hv hc
  have hpos : 0 < W.heap.size := World.block_lt_of_cell? _ _ hE.var
  obtain ⟨rfl, rfl⟩ := hV.unique (vars_kept enc hv (Below.refl _ _) hpos _)
  clear hA0 hV0 hval0
  refine (law2_any F.told a0 len0 cap0 zs0 sa st W hE hl0 hR0).mono fun e W' ⟨he, bel⟩ => ?_
  subst he
  exact ⟨_, rfl, _, _, _, [], _, [.cell 0 0], hW', trodAll_mk1 (shut_bool Tryf.underlying4 _), (trodAll_mk1 (Below.trod Tryf.laidOut (by kernel_rfl) (of_decide_eq_true (by kernel_rfl)) k0 bel lt0)), vars_kept enc hv bel hpos _, bel.frame _, fun h => by cases h⟩

theorem card : Rows.FnWireB1U8ScriptSpellsTheBodyToldSaid :=
  Claim7.holds_of_told_tied_any_at .later 4 Tryf.f4 _ _ [] _ _ _ _ _ (by kernel_rfl) rfl rfl rfl Tryf.laidOut (by kernel_rfl) rfl ⟨rfl, rfl, rfl, rfl, rfl, rfl, rfl⟩ rfl rfl (by kernel_rfl) (by kernel_rfl) Tryf.func4 (by kernel_rfl)
    (of_decide_eq_true (by kernel_rfl)) (of_decide_eq_true (by kernel_rfl)) (by kernel_rfl) rfl Tryf.stopKnobs.symm (by kernel_rfl)
    (by kernel_rfl) (by kernel_rfl) (by kernel_rfl) (by kernel_rfl) (by kernel_rfl) (by kernel_rfl) (by kernel_rfl) (by kernel_rfl) (by kernel_rfl) rfl (by kernel_rfl) rfl rfl
    rfl rfl
    rfl (by kernel_rfl) (by kernel_rfl) (by kernel_rfl) (by decide) (by kernel_rfl) fnWireB1U8ScriptSpellsTheBody_row_tie
    (OpenClaim.moreEntering_of (by kernel_rfl) (by kernel_rfl) (by kernel_rfl) (by kernel_rfl) (by kernel_rfl) (by kernel_rfl) (by kernel_rfl) (by kernel_rfl) (by kernel_rfl) (by kernel_rfl))
    ⟨_, WideRow.started_initial, Tryf.quiet _⟩
    (fun os started _ H enc _ => lifted os started H enc)

end Go.Proofs.Qxb6612340aFmt.card2
namespace Go.Proofs.Qxb6612340aFmt

/-- THE STATEMENT -/
theorem fnWireB1U8ScriptSpellsTheBody_proved : Rows.FnWireB1U8ScriptSpellsTheBodyToldSaid := card2.card

end Go.Proofs.Qxb6612340aFmt
