/-
  Seat b6612340aF: bytes in memory: the guards zzBytes_.. (8, 16, 17, 19), wireB1Clone (9), wireB1Same (15).
-/
import Derived.Test.Qxb6612340aFmtDec
import Derived.Deep.QuietTactic
import Derived.BigQuiet
import Derived.WalkLawsBesides
namespace Go.Proofs.Qxb6612340aFmt
open Go.RowKit Go.Extern.Stop Go.Stop Go.Extern

/-- WHAT A WALK IS TOLD OF A []byte: where it has an element, it leads to a row of cells with the numbers zs. -/
def RowB (w : World) (a : Option Addr) (n : Nat) (zs : List Int) : Prop :=
  zs.length = n ∧ (0 < n → ∃ b off, a = some ⟨b, off, none⟩ ∧ ∀ j, j < n → w.cell? ⟨b, off + j, none⟩ = some (.int .u8 (zs.getD j 0)))

theorem RowB.later {w w' : World} {a : Option Addr} {n : Nat} {zs : List Int} (h : RowB w a n zs) (hb : Below w.heap.size w w') : RowB w' a n zs := by
  refine ⟨h.1, fun hn => ?_⟩
  obtain ⟨b, o, rfl, hc⟩ := h.2 hn
  exact ⟨b, o, rfl, fun j hj => (hb.cell (p := ⟨b, o + j, none⟩) (World.block_lt_of_cell? _ _ (hc j hj))).trans (hc j hj)⟩
theorem RowB.at {w : World} {b o n : Nat} {zs : List Int} (h : RowB w (some ⟨b, o, none⟩) n zs) (j : Nat) (hj : j < n) : w.cell? ⟨b, o + j, none⟩ = some (.int .u8 (zs.getD j 0)) := by
  obtain ⟨b', o', e, hc⟩ := h.2 (by omega)
  cases e
  exact hc j hj

/-- Some Bool is handed back. -/
def SomeBool (e : Ending) : Prop := ∃ t : Bool, e = .returned (.bool t)
theorem SomeBool.mk (t : Bool) : SomeBool (.returned (.bool t)) := ⟨t, rfl⟩

theorem bytes8_any (a0 : Option Addr) (n0 c0 : Nat) (f : Bool) (w : World) (hn0 : n0 ≤ maxLen) :
    Calls Tryf.prog 8 #[.slice a0 n0 c0, .bool f] w fun e w' => SomeBool e ∧ w' = w := by
  unfold maxLen at hn0
  go_enter Tryf.func8, Tryf.ntmps8
  go_wp2
  all_goals (go_ret; exact ⟨.mk _, rfl⟩)
theorem bytes16_any (a0 : Option Addr) (n0 c0 : Nat) (w : World) (hn0 : n0 ≤ maxLen) :
    Calls Tryf.prog 16 #[.slice a0 n0 c0] w fun e w' => SomeBool e ∧ w' = w := by
  unfold maxLen at hn0
  go_enter Tryf.func16, Tryf.ntmps16
  go_wp2
  all_goals (go_ret; exact ⟨.mk _, rfl⟩)
theorem bytes17_any (a0 : Option Addr) (n0 c0 : Nat) (f : Bool) (w : World) (hn0 : n0 ≤ maxLen) :
    Calls Tryf.prog 17 #[.slice a0 n0 c0, .bool f] w fun e w' => SomeBool e ∧ w' = w := by
  unfold maxLen at hn0
  go_enter Tryf.func17, Tryf.ntmps17
  go_wp2
  all_goals (go_ret; exact ⟨.mk _, rfl⟩)
theorem bytes19_any (a0 : Option Addr) (n0 c0 : Nat) (a1 : Option Addr) (n1 c1 : Nat) (w : World) (hn0 : n0 ≤ maxLen) (hn1 : n1 ≤ maxLen) :
    Calls Tryf.prog 19 #[.slice a0 n0 c0, .slice a1 n1 c1] w fun e w' => SomeBool e ∧ w' = w := by
  unfold maxLen at hn0 hn1
  go_enter Tryf.func19, Tryf.ntmps19
  go_wp2
  all_goals (go_ret; exact ⟨.mk _, rfl⟩)

set_option maxHeartbeats 400000 in
theorem same_yes (a0 : Option Addr) (c0 : Nat) (a1 : Option Addr) (n c1 : Nat) (zs : List Int) (w : World) (hn : n ≤ 100000000) (h0 : RowB w a0 n zs) (h1 : RowB w a1 n zs) :
    Calls Tryf.prog 15 #[.slice a0 n c0, .slice a1 n c1] w fun e w' => e = .returned (.bool true) ∧ ∃ m, w' = w.drewN m := by
  by_cases hz : n = 0
  · subst hz
    go_enter Tryf.func15, Tryf.ntmps15
    go_wp2
    refine wp_loop_rounds 1 ?_
    rw [rounds_succ]
    go_wp2
    go_ret
    exact ⟨rfl, 0, rfl⟩
  · obtain ⟨b0, o0, rfl, hc0⟩ := h0.2 (by omega)
    obtain ⟨b1, o1, rfl, hc1⟩ := h1.2 (by omega)
    go_enter Tryf.func15, Tryf.ntmps15
    go_wp2
    go_loopw [5] (fun i wr => ∃ (k m : Nat), k ≤ n ∧ i = .int .i64 k ∧ wr = w.drewN m) (fun i _ => n - (intOf i).toNat)
    case atStart => exact ⟨0, 0, by omega, rfl, rfl⟩
    case round =>
      obtain ⟨k, m, hk, rfl, rfl⟩ := hrel
      by_cases hlt : k < n
      · obtain ⟨z, hz⟩ : ∃ z, z = zs.getD k 0 := ⟨_, rfl⟩
        have q0 : w.cell? ⟨b0, o0 + k, none⟩ = some (.int .u8 z) := by rw [hz]; exact hc0 k hlt
        have q1 : w.cell? ⟨b1, o1 + k, none⟩ = some (.int .u8 z) := by rw [hz]; exact hc1 k hlt
        clear hz
        go_wp2
        go_quiet (fail)
        go_wp2
        go_roundw
        case rel => exact ⟨k + 1, _, by omega, by go_num, rfl⟩
        case measure => simp [intOf]; omega
      · go_wp2
        go_ret
        exact ⟨rfl, m, rfl⟩

theorem Tryf.info5 : (Tryf.prog.info? 5).map (fun i => (i.zero, i.size, i.bytes)) = some (some (.int .u8 0), 1, 1) := by kernel_rfl

/-- A row of bytes, the first k of n laid. -/
def RowTo (w : World) (g n k : Nat) (zs : List Int) : Prop :=
  (∃ cur : Array Value, w.heap[g]? = some (.cells cur 5 (0, 0)) ∧ cur.size = n) ∧ ∀ j, j < k → w.cell? ⟨g, j, none⟩ = some (.int .u8 (zs.getD j 0))

theorem RowTo.cell {w : World} {g n k : Nat} {zs : List Int} (h : RowTo w g n k zs) (j : Nat) (hj : j < n) : ∃ v, w.cell? ⟨g, j, none⟩ = some v := by
  obtain ⟨⟨cur, hg, hs⟩, _⟩ := h
  exact ⟨cur[j]'(by omega), by rw [cell_of_row w g j cur 5 (0, 0) hg]; simp [hs, hj]⟩
theorem RowTo.free {w : World} {g n k : Nat} {zs : List Int} (h : RowTo w g n k zs) (j : Nat) : w.frozen? ⟨g, j, none⟩ = false := by
  obtain ⟨⟨cur, hg, hs⟩, _⟩ := h
  exact frozen_of_row w g j cur 5 hg
theorem RowTo.next {w : World} {g n k : Nat} {zs : List Int} (h : RowTo w g n k zs) (hk : k < n) (z : Int) (hz : z = zs.getD k 0) : RowTo (w.setCell ⟨g, k, none⟩ (.int .u8 z)) g n (k + 1) zs := by
  obtain ⟨v, f⟩ := h.cell k hk
  obtain ⟨⟨cur, hg, hs⟩, hc⟩ := h
  refine ⟨⟨_, heap_setCell_same w g k cur 5 _ hg, by simpa using hs⟩, fun j hj => ?_⟩
  by_cases e : j = k
  · subst e
    rw [World.cell?_setCell_same _ _ _ f, hz]
  · rw [World.cell?_setCell_other _ _ _ _ (fun h => e (Addr.mk.inj h).2.1.symm)]
    exact hc j (by omega)

theorem clone_nil (n c : Nat) (w : World) : Calls Tryf.prog 9 #[.slice none n c] w fun e w' => e = .returned (.slice none 0 0) ∧ w' = w := by
  have hnn := fun (w : World) (a : Option Addr) (n c : Nat) => Lib.run_eql_slice_nil (P := Tryf.prog) w 22 5 a n c 0 0 Tryf.underlying22
  go_enter Tryf.func9, Tryf.ntmps9
  go_wp2
  go_ret
  exact ⟨rfl, rfl⟩

set_option maxHeartbeats 400000 in
theorem clone_some (x : Addr) (n c : Nat) (zs : List Int) (w : World) (hn : n ≤ 100000000) (h0 : RowB w (some x) n zs) :
    Calls Tryf.prog 9 #[.slice (some x) n c] w fun e w' => e = .returned (.slice (some ⟨w.heap.size, 0, none⟩) n n) ∧ RowB w' (some ⟨w.heap.size, 0, none⟩) n zs ∧ Below w.heap.size w w' ∧ w.heap.size < w'.heap.size := by
  have hnn := fun (w : World) (a : Option Addr) (n c : Nat) => Lib.run_eql_slice_nil (P := Tryf.prog) w 22 5 a n c 0 0 Tryf.underlying22
  obtain ⟨i5, hi5, hz50, hz51, hz52⟩ := info_parts Tryf.info5
  obtain ⟨w1, hrun0, hown, hgrow⟩ := run_make_full (P := Tryf.prog) w w.heap.size 22 5 i5 (.int .u8 0) 1 Tryf.underlying22 hi5 hz50 hz51 .i64 .i64 n (by rw [hz52]; omega) (by unfold maxLen; omega) (Nat.le_refl _)
  obtain ⟨g, HG, hrun⟩ : ∃ g, Hid (g = w.heap.size) ∧ (Instr.makeSlice 22 (.int .i64 n) (.int .i64 n)).run Tryf.prog w = .ok (.slice (some ⟨g, 0, none⟩) n n) w1 := ⟨_, rfl, hrun0⟩
  have hlt : g < w1.heap.size := by rw [HG.out]; exact (hown.lt _ rfl).2
  have hR : RowTo w1 g n 0 zs := by
    rw [HG.out]
    rcases hown.2 with ⟨h', _⟩ | ⟨g', cap', cur, h', _, hgg, _, _, hcs, _⟩
    · simp at h'
    · simp only [Value.slice.injEq, Option.some.injEq, Addr.mk.injEq, and_true, true_and] at h'
      obtain ⟨rfl, rfl⟩ := h'
      exact ⟨⟨cur, hgg, by simpa using hcs⟩, fun j hj => absurd hj (Nat.not_lt_zero _)⟩
  have hB : Below g w w1 := by rw [HG.out]; exact (Below.refl _ _).grown hgrow (Nat.le_refl _) (fun k hk => by cases hk)
  clear hown hgrow hrun0
  rw [← HG.out]
  by_cases hz : n = 0
  · subst hz
    have hl := h0.1
    simp only [Int.natCast_zero] at hrun
    go_enter Tryf.func9, Tryf.ntmps9
    go_wp2
    refine wp_loop_rounds 1 ?_
    rw [rounds_succ]
    go_wp2
    go_ret
    exact ⟨rfl, ⟨hl, fun h => absurd h (Nat.lt_irrefl _)⟩, hB, hlt⟩
  · obtain ⟨b0, o0, hx, hc0⟩ := h0.2 (by omega)
    cases hx
    have hb0 : b0 < g := by rw [HG.out]; exact World.block_lt_of_cell? _ _ (hc0 0 (by omega))
    have hl := h0.1
    go_enter Tryf.func9, Tryf.ntmps9
    go_wp2
    go_loopw [4] (fun i wr => ∃ (k : Nat), k ≤ n ∧ i = .int .i64 k ∧ RowTo wr g n k zs ∧ Below g w wr ∧ g < wr.heap.size) (fun i _ => n - (intOf i).toNat)
    case atStart => exact ⟨0, by omega, rfl, hR, hB, hlt⟩
    case round =>
      obtain ⟨k, hk, rfl, hRk, hBk, hltk⟩ := hrel
      by_cases hkn : k < n
      · obtain ⟨z, hz⟩ : ∃ z, z = zs.getD k 0 := ⟨_, rfl⟩
        have q0 : wr.cell? ⟨b0, o0 + k, none⟩ = some (.int .u8 z) := by rw [hz]; exact (hBk.cell (p := ⟨b0, o0 + k, none⟩) hb0).trans (hc0 k hkn)
        obtain ⟨v, q1⟩ := hRk.cell k hkn
        have f1 := hRk.free k
        have R := hRk.next hkn z hz
        clear hz hRk
        go_wp2
        go_roundw
        case rel => exact ⟨k + 1, by omega, by go_num, R, hBk.setCell (Nat.le_refl _) _, by simpa using hltk⟩
        case measure => simp [intOf]; omega
      · have HE : Hid (k = n) := by show k = n; omega
        go_wp2
        go_ret
        refine ⟨rfl, ⟨hl, fun _ => ⟨g, 0, rfl, fun j hj => ?_⟩⟩, hBk, hltk⟩
        rw [Nat.zero_add]
        exact hRk.2 j (by rw [HE.out]; exact hj)

end Go.Proofs.Qxb6612340aFmt
