/-
  Seat b6612340aF: Rows.FnWireB1ParamsRoundTripToldSaid: the row over the walk 'law4_any', fmt's text told, the sentinel tied (the tie is given).
-/
import Derived.Test.Qxb6612340aFmtOpen
import Derived.Test.Qxb6612340aFmtLaw4
namespace Go.Proofs.Qxb6612340aFmt.card4
open Go.ChangeShapes Go.WideShapes Go.ChangeAt Go.RowKit
open Go.Extern.Stop Go.Stop Go.Extern
set_option linter.unusedVariables false

/-- A nil slice has no capacity. -/
theorem nil_cap {H : Type} {enc : TypeId × Value → H} {W : World} {base fuel : Nat} {spare : Nat → Bool} {held : Bool} {a : Option Addr} {len cap : Nat} {x : DataW H × List MemPlace}
    (hf : DataW.trod enc Tryf.prog W base spare held fuel 22 (Value.slice a len cap).cells.toList = some x) : a = none → len = 0 ∧ cap = 0 := by
  intro ha
  subst ha
  rcases open_ints Tryf.underlying22 Tryf.underlying5 Tryf.cells5 hf with ⟨hcs, _⟩ | ⟨y, l, c, zs, hcs, _⟩
  · simp [Value.cells] at hcs
    exact hcs
  · simp [Value.cells] at hcs

set_option maxRecDepth 100000 in
theorem lifted (os : Os) (started : os.Started) (H : Type) (enc : TypeId × Value → H) :
    ReturnsInTold none {} Tryf.checked os 6 .any Input.okWide ((OpenSpec.ofChange Rows.fnWireB1ParamsRoundTripSpec).preRow enc Tryf.prog Tryf.f6 [] false Rows.fnWireB1ParamsRoundTripRow.laid) (fun F => ((OpenSpec.ofChange Rows.fnWireB1ParamsRoundTripSpec).at F).post enc Tryf.prog Tryf.f6 false true false false) (aloneAtReturn Tryf.prog) nothingAlways := by
  refine returnsInTold_of_row (C := Tryf.checked) (s := OpenSpec.ofChange Rows.fnWireB1ParamsRoundTripSpec) (by kernel_rfl) Tryf.own started (by kernel_rfl) Tryf.func6
    (OpenSpec.witness_stopped_at (enc := enc) (C := Tryf.checked) false (laidWorld Tryf.prog os laidText) #[.slice none 0 0, .slice none 0 0] rfl (by kernel_rfl) (by kernel_rfl) (by kernel_rfl)
      (OpenSpec.preRow_of_B rfl 8 (by kernel_rfl) (by kernel_rfl) (laid_met os _))) ?_
  intro F W base args ds gs before _ hF hval0 hW _ _ _ hL _
  have hval : ∀ (j : Nat) t v, Tryf.f6.params[j]? = some t → args[j]? = some v → Value.okWide Tryf.prog W .any base t v := hval0
  have hW' := hW
  obtain ⟨p, q, hA0, hV0, rfl, hfz, hnd⟩ := hW
  have hA : DataW.TrodAll enc Tryf.prog W 0 (fun _ => true) true Tryf.f6.params.toList args.toList ds p := hA0
  have hV : DataW.TrodVars enc Tryf.prog W (fun _ => true) [Rows.fnWireB1U8ReadsTheFirstByteSpec.vars.headD default] gs q := hV0
  rw [Tryf.params6] at hA hval
  obtain ⟨v0, v1, d0, d1, p0, p1, rfl, rfl, rfl, h0, h1⟩ := trodAll_two hA
  obtain ⟨a0, len0, cap0, rfl⟩ := okWide_slice Tryf.underlying22 (hval 0 22 v0 rfl rfl)
  have k0 := h0
  have lt0 : ∀ x ∈ p0, x.block < W.heap.size := by obtain ⟨m, hm⟩ := k0; exact DataW.trod_lt m _ _ _ hm
  have hn0 : a0 = none → len0 = 0 ∧ cap0 = 0 := by obtain ⟨fuel, hf⟩ := h0; exact nil_cap hf
  obtain ⟨zs0, hR0, hl0, _, hbd0⟩ : ∃ zs, RowB W a0 len0 zs ∧ len0 ≤ maxLen ∧ (a0 = none → len0 = 0) ∧ ∀ j, 0 ≤ zs.getD j 0 ∧ zs.getD j 0 ≤ 255 := by
    obtain ⟨fuel, hf⟩ := h0
    exact openB hf
  obtain ⟨a1, len1, cap1, rfl⟩ := okWide_slice Tryf.underlying22 (hval 1 22 v1 rfl rfl)
  have k1 := h1
  have lt1 : ∀ x ∈ p1, x.block < W.heap.size := by obtain ⟨m, hm⟩ := k1; exact DataW.trod_lt m _ _ _ hm
  have hn1 : a1 = none → len1 = 0 ∧ cap1 = 0 := by obtain ⟨fuel, hf⟩ := h1; exact nil_cap hf
  obtain ⟨zs1, hR1, hl1, _, hbd1⟩ : ∃ zs, RowB W a1 len1 zs ∧ len1 ≤ maxLen ∧ (a1 = none → len1 = 0) ∧ ∀ j, 0 ≤ zs.getD j 0 ∧ zs.getD j 0 ≤ 255 := by
    obtain ⟨fuel, hf⟩ := h1
    exact openB hf
  obtain ⟨sa, st, hv, hc⟩ := sentinel hL
  have hE : Env F.told W sa st := env_of hF hv hc
  have hpos : 0 < W.heap.size := World.block_lt_of_cell? _ _ hE.var
  obtain ⟨rfl, rfl⟩ := hV.unique (vars_kept enc hv (Below.refl _ _) hpos _)
  clear hA0 hV0 hval0
  refine (law4_any F.told a0 len0 cap0 zs0 a1 len1 cap1 zs1 sa st W hE hl0 hl1 hR0 hR1 hn0 hn1).mono fun e W' ⟨he, bel⟩ => ?_
  subst he
  exact ⟨_, rfl, _, _, _, [], _, [.cell 0 0], hW', trodAll_mk1 (shut_bool Tryf.underlying4 _), (trodAll_mk2 (Below.trod Tryf.laidOut (by kernel_rfl) (of_decide_eq_true (by kernel_rfl)) k0 bel lt0) (Below.trod Tryf.laidOut (by kernel_rfl) (of_decide_eq_true (by kernel_rfl)) k1 bel lt1)), vars_kept enc hv bel hpos _, bel.frame _, fun h => by cases h⟩

theorem card : Rows.FnWireB1ParamsRoundTripToldSaid :=
  Claim7.holds_of_told_tied_any_at .later 6 Tryf.f6 _ _ [] _ _ _ _ _ (by kernel_rfl) rfl rfl rfl Tryf.laidOut (by kernel_rfl) rfl ⟨rfl, rfl, rfl, rfl, rfl, rfl, rfl⟩ rfl rfl (by kernel_rfl) (by kernel_rfl) Tryf.func6 (by kernel_rfl)
    (of_decide_eq_true (by kernel_rfl)) (of_decide_eq_true (by kernel_rfl)) (by kernel_rfl) rfl Tryf.stopKnobs.symm (by kernel_rfl)
    (by kernel_rfl) (by kernel_rfl) (by kernel_rfl) (by kernel_rfl) (by kernel_rfl) (by kernel_rfl) (by kernel_rfl) (by kernel_rfl) (by kernel_rfl) rfl (by kernel_rfl) rfl rfl
    rfl rfl
    rfl (by kernel_rfl) (by kernel_rfl) (by kernel_rfl) (by decide) (by kernel_rfl) fnWireB1ParamsRoundTrip_row_tie
    (OpenClaim.moreEntering_of (by kernel_rfl) (by kernel_rfl) (by kernel_rfl) (by kernel_rfl) (by kernel_rfl) (by kernel_rfl) (by kernel_rfl) (by kernel_rfl) (by kernel_rfl) (by kernel_rfl))
    ⟨_, WideRow.started_initial, Tryf.quiet _⟩
    (fun os started _ H enc _ => lifted os started H enc)

end Go.Proofs.Qxb6612340aFmt.card4
namespace Go.Proofs.Qxb6612340aFmt

/-- THE STATEMENT -/
theorem fnWireB1ParamsRoundTrip_proved : Rows.FnWireB1ParamsRoundTripToldSaid := card4.card

end Go.Proofs.Qxb6612340aFmt
