/-
  Seat b6612247a: WHAT A READING OF A []int64 AND OF A []string TELLS THE WALKS.
-/
import Derived.Test.Qxb6612247aWalkA
import Derived.ProofKit
import Derived.OpenShut
import Derived.ShutString
import Derived.ChangeOld
import Derived.Below
import Derived.SliceStrings
namespace Go.Proofs.Qxb6612247a
open Go.ChangeShapes Go.WideShapes Go.ChangeAt Go.RowKit

theorem Try.cells2 : Try.prog.cellsOf 2 = 1 := by kernel_rfl
theorem Try.cells9 : Try.prog.cellsOf 9 = 1 := by kernel_rfl
theorem Try.own : ownKnob Try.prog.godebug = none := by kernel_rfl
theorem Try.laidOut : laidOutB Try.prog = true := by kernel_rfl

theorem openI {H : Type} {enc : TypeId × Value → H} {W : World} {base fuel : Nat} {spare : Nat → Bool} {held : Bool} {a : Option Addr} {len cap : Nat} {x : DataW H × List MemPlace}
    (hf : DataW.trod enc Try.prog W base spare held fuel 22 (Value.slice a len cap).cells.toList = some x) :
    ∃ zs, RowI W a len zs ∧ len ≤ maxLen ∧ (a = none → len = 0) ∧ ∀ z ∈ zs, -9223372036854775808 ≤ z ∧ z ≤ 9223372036854775807 := by
  rcases open_ints Try.underlying22 Try.underlying2 Try.cells2 hf with ⟨hcs, _⟩ | ⟨y, l, c, zs, hcs, _, hl, hm, hz, _, hcell, hwz⟩
  · simp [Value.cells] at hcs
    obtain ⟨rfl, rfl, rfl⟩ := hcs
    exact ⟨[], ⟨rfl, fun h => absurd h (by omega)⟩, Nat.zero_le _, fun _ => rfl, fun z hz => by cases hz⟩
  · simp [Value.cells] at hcs
    obtain ⟨rfl, rfl, rfl⟩ := hcs
    have hlz : len ≤ zs.length := by rw [hz]; split <;> omega
    refine ⟨zs.take len, ⟨by simp; omega, fun h => ?_⟩, by omega, fun h => (by cases h), fun z hzm => ?_⟩
    · obtain ⟨b, off, spot⟩ := y
      have hspot : spot = none := by simpa [Addr.add] using World.cell?_spot (hcell 0 (by omega))
      subst hspot
      refine ⟨b, off, rfl, fun j hj => ?_⟩
      have := hcell j (by omega)
      rw [Addr.add_lit] at this
      rw [this]
      simp [List.getD, hj]
    · have := hwz z (List.mem_of_mem_take hzm)
      exact bounds_i64 this

theorem openS {H : Type} {enc : TypeId × Value → H} {W : World} {base fuel : Nat} {spare : Nat → Bool} {held : Bool} {a : Option Addr} {len cap : Nat} {x : DataW H × List MemPlace}
    (hf : DataW.trod enc Try.prog W base spare held fuel 23 (Value.slice a len cap).cells.toList = some x) :
    ∃ ks, RowS W a len ks ∧ len ≤ maxLen ∧ (a = none → len = 0) := by
  rcases open_strings Try.underlying23 Try.underlying9 Try.cells9 hf with ⟨hcs, _⟩ | ⟨y, l, c, zs, hcs, _, hl, hm, hz, _, hcell, _⟩
  · simp [Value.cells] at hcs
    obtain ⟨rfl, rfl, rfl⟩ := hcs
    exact ⟨[], ⟨rfl, fun h => absurd h (by omega)⟩, Nat.zero_le _, fun _ => rfl⟩
  · simp [Value.cells] at hcs
    obtain ⟨rfl, rfl, rfl⟩ := hcs
    have hlz : len ≤ zs.length := by rw [hz]; split <;> omega
    refine ⟨zs.take len, ⟨by simp; omega, fun h => ?_⟩, by omega, fun h => by cases h⟩
    obtain ⟨b, off, spot⟩ := y
    have hspot : spot = none := by simpa [Addr.add] using World.cell?_spot (hcell 0 (by omega))
    subst hspot
    refine ⟨b, off, rfl, fun j hj => ?_⟩
    have := hcell j (by omega)
    rw [Addr.add_lit] at this
    rw [this]
    simp [List.getD, hj]

end Go.Proofs.Qxb6612247a
