/-
  Seat b6612247a: THE WALKS of the guards: zzBytes_.. (7, 11, 12, 15), zzDeadlinesTooBig (8), zzIsMinHeap (9).
-/
import Derived.Test.Qxb6612247aRows
import Derived.Test.Qxb6612247aPlain
import Derived.WalkKit
import Derived.WalkSpells
import Derived.WalkLawsBesides
import Derived.Deep.QuietTactic
import Derived.BigQuiet
namespace Go.Proofs.Qxb6612247a
open Go.RowKit

/-- WHAT A WALK IS TOLD OF A []int64: where it has an element, it leads to a row of cells with the numbers zs. -/
def RowI (w : World) (a : Option Addr) (n : Nat) (zs : List Int) : Prop :=
  zs.length = n ∧ (0 < n → ∃ b off, a = some ⟨b, off, none⟩ ∧ ∀ j, j < n → w.cell? ⟨b, off + j, none⟩ = some (.int .i64 (zs.getD j 0)))
/-- The same of a []string. -/
def RowS (w : World) (a : Option Addr) (n : Nat) (ks : List ByteArray) : Prop :=
  ks.length = n ∧ (0 < n → ∃ b off, a = some ⟨b, off, none⟩ ∧ ∀ j, j < n → w.cell? ⟨b, off + j, none⟩ = some (.string (ks.getD j ByteArray.empty)))


/-- Some Bool is handed back. -/
def SomeBool (e : Ending) : Prop := ∃ t : Bool, e = .returned (.bool t)
theorem SomeBool.mk (t : Bool) : SomeBool (.returned (.bool t)) := ⟨t, rfl⟩

set_option maxHeartbeats 400000 in
theorem bytes7_any (a0 : Option Addr) (n0 c0 : Nat) (a1 : Option Addr) (n1 c1 : Nat) (ks : List ByteArray) (now : Int) (w : World) (hn0 : n0 ≤ maxLen) (hn1 : n1 ≤ maxLen) (h1 : RowS w a1 n1 ks) :
    Calls Try.prog 7 #[.slice a0 n0 c0, .slice a1 n1 c1, .int .i64 now] w fun e w' => SomeBool e ∧ w' = w := by
  unfold maxLen at hn0 hn1
  obtain ⟨hl, hr⟩ := h1
  by_cases g1 : (1048576 : Int) < n0
  · go_enter Try.func7, Try.ntmps7
    go_wp2
    go_ret
    exact ⟨.mk _, rfl⟩
  by_cases g2 : (1048576 : Int) < n1
  · go_enter Try.func7, Try.ntmps7
    go_wp2
    go_ret
    exact ⟨.mk _, rfl⟩
  by_cases g3 : (1048576 : Int) < n0 + n1
  · go_enter Try.func7, Try.ntmps7
    go_wp2
    go_ret
    exact ⟨.mk _, rfl⟩
  by_cases hz : n1 = 0
  · subst hz
    go_enter Try.func7, Try.ntmps7
    go_wp2
    refine wp_loop_rounds 1 ?_
    rw [rounds_succ]
    go_wp2
    go_ret
    exact ⟨.mk _, rfl⟩
  · obtain ⟨b, off, rfl, hc⟩ := hr (by omega)
    go_enter Try.func7, Try.ntmps7
    go_wp2
    go_loop [7, 8] (fun t i => ∃ (k : Nat) (x : Int), k ≤ n1 ∧ i = .int .i64 k ∧ t = .int .i64 x ∧ 0 ≤ x ∧ x ≤ 1048576) (fun _ i => n1 - (intOf i).toNat)
    case atStart => exact ⟨0, _, by omega, rfl, rfl, by omega, by omega⟩
    case round =>
      obtain ⟨k, x, hk, rfl, rfl, hx0, hx1⟩ := hrel
      by_cases hlt : k < n1
      · have hcell := hc k hlt
        go_wp2
        · go_ret
          exact ⟨.mk _, rfl⟩
        · go_ret
          exact ⟨.mk _, rfl⟩
        · go_round
          case rel => exact ⟨k + 1, _, by omega, by go_num, rfl, by omega, by omega⟩
          case measure => simp [intOf]; omega
      · go_wp2
        go_ret
        exact ⟨.mk _, rfl⟩

set_option maxHeartbeats 400000 in
theorem bytes11_any (a0 : Option Addr) (n0 c0 : Nat) (a1 : Option Addr) (n1 c1 : Nat) (ks : List ByteArray) (w : World) (hn0 : n0 ≤ maxLen) (hn1 : n1 ≤ maxLen) (h1 : RowS w a1 n1 ks) :
    Calls Try.prog 11 #[.slice a0 n0 c0, .slice a1 n1 c1] w fun e w' => SomeBool e ∧ w' = w := by
  unfold maxLen at hn0 hn1
  obtain ⟨hl, hr⟩ := h1
  by_cases g1 : (1048576 : Int) < n0
  · go_enter Try.func11, Try.ntmps11
    go_wp2
    go_ret
    exact ⟨.mk _, rfl⟩
  by_cases g2 : (1048576 : Int) < n1
  · go_enter Try.func11, Try.ntmps11
    go_wp2
    go_ret
    exact ⟨.mk _, rfl⟩
  by_cases g3 : (1048576 : Int) < n0 + n1
  · go_enter Try.func11, Try.ntmps11
    go_wp2
    go_ret
    exact ⟨.mk _, rfl⟩
  by_cases hz : n1 = 0
  · subst hz
    go_enter Try.func11, Try.ntmps11
    go_wp2
    refine wp_loop_rounds 1 ?_
    rw [rounds_succ]
    go_wp2
    go_ret
    exact ⟨.mk _, rfl⟩
  · obtain ⟨b, off, rfl, hc⟩ := hr (by omega)
    go_enter Try.func11, Try.ntmps11
    go_wp2
    go_loop [5, 6] (fun t i => ∃ (k : Nat) (x : Int), k ≤ n1 ∧ i = .int .i64 k ∧ t = .int .i64 x ∧ 0 ≤ x ∧ x ≤ 1048576) (fun _ i => n1 - (intOf i).toNat)
    case atStart => exact ⟨0, _, by omega, rfl, rfl, by omega, by omega⟩
    case round =>
      obtain ⟨k, x, hk, rfl, rfl, hx0, hx1⟩ := hrel
      by_cases hlt : k < n1
      · have hcell := hc k hlt
        go_wp2
        · go_ret
          exact ⟨.mk _, rfl⟩
        · go_ret
          exact ⟨.mk _, rfl⟩
        · go_round
          case rel => exact ⟨k + 1, _, by omega, by go_num, rfl, by omega, by omega⟩
          case measure => simp [intOf]; omega
      · go_wp2
        go_ret
        exact ⟨.mk _, rfl⟩

set_option maxHeartbeats 400000 in
theorem bytes12_any (a0 : Option Addr) (n0 c0 : Nat) (a1 : Option Addr) (n1 c1 : Nat) (ks : List ByteArray) (now : Int) (w : World) (hn0 : n0 ≤ maxLen) (hn1 : n1 ≤ maxLen) (h1 : RowS w a1 n1 ks) :
    Calls Try.prog 12 #[.slice a0 n0 c0, .slice a1 n1 c1, .int .i64 now] w fun e w' => SomeBool e ∧ w' = w := by
  unfold maxLen at hn0 hn1
  obtain ⟨hl, hr⟩ := h1
  by_cases g1 : (1048576 : Int) < n0
  · go_enter Try.func12, Try.ntmps12
    go_wp2
    go_ret
    exact ⟨.mk _, rfl⟩
  by_cases g2 : (1048576 : Int) < n1
  · go_enter Try.func12, Try.ntmps12
    go_wp2
    go_ret
    exact ⟨.mk _, rfl⟩
  by_cases g3 : (1048576 : Int) < n0 + n1
  · go_enter Try.func12, Try.ntmps12
    go_wp2
    go_ret
    exact ⟨.mk _, rfl⟩
  by_cases hz : n1 = 0
  · subst hz
    go_enter Try.func12, Try.ntmps12
    go_wp2
    refine wp_loop_rounds 1 ?_
    rw [rounds_succ]
    go_wp2
    go_ret
    exact ⟨.mk _, rfl⟩
  · obtain ⟨b, off, rfl, hc⟩ := hr (by omega)
    go_enter Try.func12, Try.ntmps12
    go_wp2
    go_loop [7, 8] (fun t i => ∃ (k : Nat) (x : Int), k ≤ n1 ∧ i = .int .i64 k ∧ t = .int .i64 x ∧ 0 ≤ x ∧ x ≤ 1048576) (fun _ i => n1 - (intOf i).toNat)
    case atStart => exact ⟨0, _, by omega, rfl, rfl, by omega, by omega⟩
    case round =>
      obtain ⟨k, x, hk, rfl, rfl, hx0, hx1⟩ := hrel
      by_cases hlt : k < n1
      · have hcell := hc k hlt
        go_wp2
        · go_ret
          exact ⟨.mk _, rfl⟩
        · go_ret
          exact ⟨.mk _, rfl⟩
        · go_round
          case rel => exact ⟨k + 1, _, by omega, by go_num, rfl, by omega, by omega⟩
          case measure => simp [intOf]; omega
      · go_wp2
        go_ret
        exact ⟨.mk _, rfl⟩

set_option maxHeartbeats 400000 in
theorem bytes15_any (a0 : Option Addr) (n0 c0 : Nat) (a1 : Option Addr) (n1 c1 : Nat) (ks : List ByteArray) (i now : Int) (w : World) (hn0 : n0 ≤ maxLen) (hn1 : n1 ≤ maxLen) (h1 : RowS w a1 n1 ks) :
    Calls Try.prog 15 #[.slice a0 n0 c0, .slice a1 n1 c1, .int .i64 i, .int .i64 now] w fun e w' => SomeBool e ∧ w' = w := by
  unfold maxLen at hn0 hn1
  obtain ⟨hl, hr⟩ := h1
  by_cases g1 : (1048576 : Int) < n0
  · go_enter Try.func15, Try.ntmps15
    go_wp2
    go_ret
    exact ⟨.mk _, rfl⟩
  by_cases g2 : (1048576 : Int) < n1
  · go_enter Try.func15, Try.ntmps15
    go_wp2
    go_ret
    exact ⟨.mk _, rfl⟩
  by_cases g3 : (1048576 : Int) < n0 + n1
  · go_enter Try.func15, Try.ntmps15
    go_wp2
    go_ret
    exact ⟨.mk _, rfl⟩
  by_cases hz : n1 = 0
  · subst hz
    go_enter Try.func15, Try.ntmps15
    go_wp2
    refine wp_loop_rounds 1 ?_
    rw [rounds_succ]
    go_wp2
    go_ret
    exact ⟨.mk _, rfl⟩
  · obtain ⟨b, off, rfl, hc⟩ := hr (by omega)
    go_enter Try.func15, Try.ntmps15
    go_wp2
    go_loop [9, 10] (fun t i => ∃ (k : Nat) (x : Int), k ≤ n1 ∧ i = .int .i64 k ∧ t = .int .i64 x ∧ 0 ≤ x ∧ x ≤ 1048576) (fun _ i => n1 - (intOf i).toNat)
    case atStart => exact ⟨0, _, by omega, rfl, rfl, by omega, by omega⟩
    case round =>
      obtain ⟨k, x, hk, rfl, rfl, hx0, hx1⟩ := hrel
      by_cases hlt : k < n1
      · have hcell := hc k hlt
        go_wp2
        · go_ret
          exact ⟨.mk _, rfl⟩
        · go_ret
          exact ⟨.mk _, rfl⟩
        · go_round
          case rel => exact ⟨k + 1, _, by omega, by go_num, rfl, by omega, by omega⟩
          case measure => simp [intOf]; omega
      · go_wp2
        go_ret
        exact ⟨.mk _, rfl⟩

/-- What zzDeadlinesTooBig answers, as far as it is used: where it says no, neither slice is long. -/
def BigAns (n0 n1 : Nat) (e : Ending) : Prop := ∃ t : Bool, e = .returned (.bool t) ∧ (t = false → n0 ≤ 131072 ∧ n1 ≤ 65536)
theorem BigAns.yes {n0 n1 : Nat} : BigAns n0 n1 (.returned (.bool true)) := ⟨true, rfl, fun h => by cases h⟩
theorem BigAns.mk {n0 n1 : Nat} (t : Bool) (h0 : n0 ≤ 131072) (h1 : n1 ≤ 65536) : BigAns n0 n1 (.returned (.bool t)) := ⟨t, rfl, fun _ => ⟨h0, h1⟩⟩

set_option maxHeartbeats 400000 in
theorem big_any (a0 : Option Addr) (n0 c0 : Nat) (a1 : Option Addr) (n1 c1 : Nat) (ks : List ByteArray) (w : World) (hn0 : n0 ≤ maxLen) (hn1 : n1 ≤ maxLen) (h1 : RowS w a1 n1 ks) :
    Calls Try.prog 8 #[.slice a0 n0 c0, .slice a1 n1 c1] w fun e w' => BigAns n0 n1 e ∧ w' = w := by
  unfold maxLen at hn0 hn1
  obtain ⟨hl, hr⟩ := h1
  by_cases g1 : (131072 : Int) < n0
  · go_enter Try.func8, Try.ntmps8
    go_wp2
    go_ret
    exact ⟨.yes, rfl⟩
  by_cases g2 : (65536 : Int) < n1
  · go_enter Try.func8, Try.ntmps8
    go_wp2
    go_ret
    exact ⟨.yes, rfl⟩
  have k0 : n0 ≤ 131072 := by omega
  have k1 : n1 ≤ 65536 := by omega
  by_cases hz : n1 = 0
  · subst hz
    go_enter Try.func8, Try.ntmps8
    go_wp2
    refine wp_loop_rounds 1 ?_
    rw [rounds_succ]
    go_wp2
    go_ret
    exact ⟨.mk _ k0 k1, rfl⟩
  · obtain ⟨b, off, rfl, hc⟩ := hr (by omega)
    go_enter Try.func8, Try.ntmps8
    go_wp2
    go_loop [5, 6] (fun t i => ∃ (k : Nat) (x : Int), k ≤ n1 ∧ i = .int .i64 k ∧ t = .int .i64 x) (fun _ i => n1 - (intOf i).toNat)
    case atStart => exact ⟨0, _, by omega, rfl, rfl⟩
    case round =>
      obtain ⟨k, x, hk, rfl, rfl⟩ := hrel
      by_cases hlt : k < n1
      · have hcell := hc k hlt
        go_wp2
        · go_ret
          exact ⟨.yes, rfl⟩
        · go_round
          case rel => exact ⟨k + 1, _, by omega, by go_num, rfl⟩
          case measure => simp [intOf]; omega
      · go_wp2
        go_ret
        exact ⟨.mk _ k0 k1, rfl⟩

/-- What zzIsMinHeap answers, as far as it is used: where it says yes, it is a heap. -/
def HeapAns (zs : List Int) (e : Ending) : Prop := ∃ t : Bool, e = .returned (.bool t) ∧ (t = true → IsHeap zs)
theorem HeapAns.no {zs : List Int} : HeapAns zs (.returned (.bool false)) := ⟨false, rfl, fun h => by cases h⟩
theorem HeapAns.yes {zs : List Int} (h : IsHeap zs) : HeapAns zs (.returned (.bool true)) := ⟨true, rfl, fun _ => h⟩
/-- As far as k. -/
def HeapTo (zs : List Int) (k : Nat) : Prop := ∀ j, 1 ≤ j → j < k → zs.getD ((j - 1) / 2) 0 ≤ zs.getD j 0
theorem HeapTo.one (zs : List Int) : HeapTo zs 1 := fun j h1 h2 => by omega
theorem HeapTo.next {zs : List Int} {k : Nat} (h : HeapTo zs k) (hk : zs.getD ((k - 1) / 2) 0 ≤ zs.getD k 0) : HeapTo zs (k + 1) := fun j h1 h2 => by
  by_cases e : j = k
  · subst e; exact hk
  · exact h j h1 (by omega)

set_option maxHeartbeats 400000 in
theorem heap_any (a0 : Option Addr) (n0 c0 : Nat) (zs : List Int) (w : World) (hn0 : n0 ≤ maxLen) (h0 : RowI w a0 n0 zs) :
    Calls Try.prog 9 #[.slice a0 n0 c0] w fun e w' => HeapAns zs e ∧ ∃ m, w' = w.drewN m := by
  unfold maxLen at hn0
  obtain ⟨hl, hr⟩ := h0
  by_cases hz : n0 ≤ 1
  · have hh : IsHeap zs := fun j h1 h2 => by omega
    go_enter Try.func9, Try.ntmps9
    go_wp2
    refine wp_loop_rounds 1 ?_
    rw [rounds_succ]
    go_wp2
    go_ret
    exact ⟨.yes hh, 0, rfl⟩
  · obtain ⟨b, off, rfl, hc⟩ := hr (by omega)
    go_enter Try.func9, Try.ntmps9
    go_wp2
    go_loopw [3] (fun i wr => ∃ (k m : Nat), 1 ≤ k ∧ k ≤ n0 ∧ i = .int .i64 k ∧ HeapTo zs k ∧ wr = w.drewN m) (fun i _ => n0 - (intOf i).toNat)
    case atStart => exact ⟨1, 0, by omega, by omega, rfl, HeapTo.one zs, rfl⟩
    case round =>
      obtain ⟨k, m, hk1, hk, rfl, hH, rfl⟩ := hrel
      by_cases hlt : k < n0
      · have hcell := hc k hlt
        have hcell2 := hc ((k - 1) / 2) (by omega)
        go_wp2
        go_quiet (fail)
        go_wp2
        · go_ret
          exact ⟨.no, _, World.drewN_drewN _ _ _⟩
        · have hlz : k < zs.length := by omega
          have hq : zs[(k - 1) / 2]?.getD 0 ≤ zs[k] := by assumption
          have hH2 : HeapTo zs (k + 1) := hH.next (by simpa [hlz] using hq)
          go_roundw
          case rel => exact ⟨k + 1, _, by omega, by omega, by go_num, hH2, rfl⟩
          case measure => simp [intOf]; omega
      · go_wp2
        go_ret
        exact ⟨.yes (fun j h1 h2 => hH j h1 (by omega)), m, rfl⟩

end Go.Proofs.Qxb6612247a
