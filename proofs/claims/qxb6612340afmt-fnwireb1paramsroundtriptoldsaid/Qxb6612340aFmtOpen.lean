/-
  Seat b6612340aF: WHAT THE FOUR ROWS SHARE: closed facts, the reading of a []byte, one world in which the sentinel lies as its initialiser lays it. (After the guide's worked GuardProofs, PortSeven.)
-/
import Derived.Test.Qxb6612340aFmtLaw1
import Derived.Test.Qxb6612340aFmtTie
import Derived.Test.Qxb6612340aFmtCards
import Derived.ProofKit
import Derived.OpenShut
import Derived.ChangeSame
import Derived.ChangeVars
import Derived.JoinedOf
import Derived.RowKitTokens
import Derived.Stop.JoinedAt
import Derived.Stop.JoinedTold
import Derived.Stop.LaidErr
import Derived.SevenTiedAt
import Derived.WalkSmall
namespace Go.Proofs.Qxb6612340aFmt
open Go.ChangeShapes Go.WideShapes Go.ChangeAt Go.RowKit
open Go.Extern.Stop Go.Stop Go.Extern

theorem Tryf.own : ownKnob Tryf.prog.godebug = none := by kernel_rfl
theorem Tryf.laidOut : laidOutB Tryf.prog = true := by kernel_rfl
theorem Tryf.stopKnobs : Tryf.pinned.checked.prog.stopKnobs = [] := by kernel_rfl
theorem Tryf.quiet (os : Os) : Stop.quiet Tryf.pinned.checked.prog os := by
  intro k hk
  rw [Tryf.stopKnobs] at hk
  cases hk
theorem Tryf.cells5 : Tryf.prog.cellsOf 5 = 1 := by kernel_rfl
theorem Tryf.cells9 : Tryf.prog.cellsOf 9 = 1 := by kernel_rfl
theorem Tryf.cells76 : Tryf.prog.cellsOf 76 = 1 := by kernel_rfl
theorem Tryf.gType : (Tryf.prog.globals[0]?).map (·.type) = some 31 := by kernel_rfl

/-- The one type of that name. -/
theorem Tryf.row74 (u : TypeId) (nm : String) (hnm : nm = String.singleton (Char.ofNat 42) ++ "errors.errorString") (h : Tryf.prog.typeName? 3 u = some nm) : u = 74 := by
  refine typeName_ptr_named (P := Tryf.prog) (nm := "errors.errorString") (by kernel_rfl) (by kernel_rfl) (by decide) u ?_
  rw [h, hnm]
  rfl

theorem openB {H : Type} {enc : TypeId × Value → H} {W : World} {base fuel : Nat} {spare : Nat → Bool} {held : Bool} {a : Option Addr} {len cap : Nat} {x : DataW H × List MemPlace}
    (hf : DataW.trod enc Tryf.prog W base spare held fuel 22 (Value.slice a len cap).cells.toList = some x) :
    ∃ zs, RowB W a len zs ∧ len ≤ maxLen ∧ (a = none → len = 0) ∧ ∀ j, 0 ≤ zs.getD j 0 ∧ zs.getD j 0 ≤ 255 := by
  rcases open_ints Tryf.underlying22 Tryf.underlying5 Tryf.cells5 hf with ⟨hcs, _⟩ | ⟨y, l, c, zs, hcs, _, hl, hm, hz, _, hcell, hwz⟩
  · simp [Value.cells] at hcs
    obtain ⟨rfl, rfl, rfl⟩ := hcs
    exact ⟨[], ⟨rfl, fun h => absurd h (by omega)⟩, Nat.zero_le _, fun _ => rfl, fun j => by simp⟩
  · simp [Value.cells] at hcs
    obtain ⟨rfl, rfl, rfl⟩ := hcs
    have hlz : len ≤ zs.length := by rw [hz]; split <;> omega
    refine ⟨zs.take len, ⟨by simp; omega, fun h => ?_⟩, by omega, fun h => (by cases h), fun j => ?_⟩
    · obtain ⟨b, off, spot⟩ := y
      have hspot : spot = none := by simpa [Addr.add] using World.cell?_spot (hcell 0 (by omega))
      subst hspot
      refine ⟨b, off, rfl, fun j hj => ?_⟩
      have := hcell j (by omega)
      rw [Addr.add_lit] at this
      rw [this]
      simp [List.getD, hj]
    · rw [List.getD_eq_getElem?_getD]
      cases hq : (zs.take len)[j]? with
      | none => simp
      | some z => exact bounds_u8 (hwz z (List.mem_of_mem_take (List.mem_of_getElem? hq)))

/-- The listed variables are the same four times. -/
theorem laid_same : Rows.fnWireB1U8ScriptSpellsTheBodyRow.laid = Rows.fnWireB1U8ReadsTheFirstByteRow.laid ∧ Rows.fnWireB1ParamsReadsALengthPrefixedFieldRow.laid = Rows.fnWireB1U8ReadsTheFirstByteRow.laid ∧ Rows.fnWireB1ParamsRoundTripRow.laid = Rows.fnWireB1U8ReadsTheFirstByteRow.laid := ⟨rfl, rfl, rfl⟩

/-- WHAT 'laid' GIVES a walk. -/
theorem sentinel {W : World} (hL : laidMet Tryf.prog Rows.fnWireB1U8ReadsTheFirstByteRow.laid W) :
    ∃ (a : Addr) (s : ByteArray), W.var? Tryf.prog (Rows.fnWireB1U8ReadsTheFirstByteSpec.vars.headD default) = some #[.iface 74 (.pointer (some a))] ∧ W.cell? a = some (.string s) := by
  obtain ⟨a, s, hv, hc, _, _⟩ := laid_sentinel (g := 0) (ti := 31) (tp := 74) (te := 76) (ts := 9) hL (by kernel_rfl) Tryf.gType Tryf.underlying31 (fun u h => Tryf.row74 u _ (by decide) h) Tryf.underlying74 Tryf.underlying76 rfl rfl Tryf.underlying9 Tryf.cells76 Tryf.cells9
  exact ⟨a, s, hv, hc⟩

/-! ### One start that fits: the sentinel as its initialiser lays it -/
def laidText : ByteArray := { data := #[109, 97, 108, 102, 111, 114, 109, 101, 100, 32, 109, 101, 115, 115, 97, 103, 101] }
/-- The settled world with one block more, an errors.errorString; variable 0 holds a pointer to it. -/
def laidWorld (P : Program) (os : Os) (s : ByteArray) : World :=
  let w0 := World.holding P os ⟨#[.cells #[.string s] 76], #[], []⟩
  { w0 with heap := w0.heap.modify 0 fun
      | .cells _ t frozen => .cells #[.iface 74 (.pointer (some ⟨(World.holding P default ⟨#[], #[], []⟩).heap.size, 0, none⟩))] t frozen
      | o => o }
theorem laid_met (os : Os) (args : Array Value) : laidMet Tryf.prog Rows.fnWireB1U8ReadsTheFirstByteRow.laid ((laidWorld Tryf.prog os laidText).forCall (fun _ _ => 0) ⟨#[], args, []⟩).memory :=
  laidMet_of_run (ps := [.cell 0 0, .cell (World.holding Tryf.prog default ⟨#[], #[], []⟩).heap.size 0]) 8 (by kernel_rfl) (by kernel_rfl) (by kernel_rfl)

/-- The variable's cell. -/
theorem env_of {F : Interp} {W : World} {a : Addr} {s : ByteArray} (hF : F.answers W.tape) (hv : W.var? Tryf.prog (Rows.fnWireB1U8ReadsTheFirstByteSpec.vars.headD default) = some #[.iface 74 (.pointer (some a))]) (hc : W.cell? a = some (.string s)) : Env F W a s :=
  ⟨by simpa using World.var?_cell (g := 0) (by kernel_rfl) hv 0, hc, hF⟩

/-- The variable reads as it did. -/
theorem vars_kept {H : Type} (enc : TypeId × Value → H) {W W' : World} {a : Addr} (hv : W.var? Tryf.prog (Rows.fnWireB1U8ReadsTheFirstByteSpec.vars.headD default) = some #[.iface 74 (.pointer (some a))]) (hb : Below W.heap.size W W') (h0 : 0 < W.heap.size) (sp : Nat → Bool) :
    DataW.TrodVars enc Tryf.prog W' sp [Rows.fnWireB1U8ReadsTheFirstByteSpec.vars.headD default] [tok enc (.iface 74 (.pointer (some a)))] [.cell 0 0] :=
  vars_read1 enc (g := 0) (ti := 31) (by kernel_rfl) Tryf.gType Tryf.underlying31 (var?_below hb (g := 0) (by kernel_rfl) h0 hv) trivial sp

end Go.Proofs.Qxb6612340aFmt
