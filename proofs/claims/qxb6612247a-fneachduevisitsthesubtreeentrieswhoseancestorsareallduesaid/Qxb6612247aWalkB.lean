/-
  Seat b6612247a: zzDeadlinesOf (16), (deadlines).due (17), ZZdue (10).
-/
import Derived.Test.Qxb6612247aWalkA
import Derived.RegionTactic
import Derived.ChangeAlike
namespace Go.Proofs.Qxb6612247a
open Go.RowKit

theorem Try.info37 : (Try.prog.info? 37).map (fun i => (i.zero, i.size, i.bytes)) = some (some (.agg #[.int .i64 0, .string ByteArray.empty]), 2, 24) := by kernel_rfl
theorem Try.info2 : (Try.prog.info? 2).map (fun i => (i.zero, i.size, i.bytes)) = some (some (.int .i64 0), 1, 8) := by kernel_rfl
theorem Try.info9 : (Try.prog.info? 9).map (fun i => (i.zero, i.size, i.bytes)) = some (some (.string ByteArray.empty), 1, 16) := by kernel_rfl

/-- The heap d, laid out in block g: the pair of each place j. -/
def Dead (w : World) (g n : Nat) (zs : List Int) (ks : List ByteArray) : Prop :=
  ∀ j, j < n → w.cell? ⟨g, j * 2, none⟩ = some (.int .i64 (zs.getD j 0)) ∧ w.cell? ⟨g, j * 2 + 1, none⟩ = some (.string (ks.getD j ByteArray.empty))

/-- The heap d, half made: a row of n pairs in block g, the first k of them laid. -/
def DeadTo (w : World) (g n k : Nat) (zs : List Int) (ks : List ByteArray) : Prop :=
  (∃ cur : Array Value, w.heap[g]? = some (.cells cur 37 (0, 0)) ∧ cur.size = n * 2) ∧ Dead w g k zs ks

theorem DeadTo.cell {w : World} {g n k : Nat} {zs : List Int} {ks : List ByteArray} (h : DeadTo w g n k zs ks) (j : Nat) (hj : j < n * 2) : ∃ v, w.cell? ⟨g, j, none⟩ = some v := by
  obtain ⟨⟨cur, hg, hs⟩, _⟩ := h
  exact ⟨cur[j]'(by omega), by rw [cell_of_row w g j cur 37 (0, 0) hg]; simp [hs, hj]⟩
theorem DeadTo.free {w : World} {g n k : Nat} {zs : List Int} {ks : List ByteArray} (h : DeadTo w g n k zs ks) (j : Nat) : w.frozen? ⟨g, j, none⟩ = false := by
  obtain ⟨⟨cur, hg, hs⟩, _⟩ := h
  exact frozen_of_row w g j cur 37 hg

theorem of_made {w0 w : World} {g n : Nat} (zs : List Int) (ks : List ByteArray) (h : w.ownsRow g 37 2 (.slice (some ⟨g, 0, none⟩) n n) n (madeCells #[.int .i64 0, .string ByteArray.empty] (n * 2)).toList) (hg : w0.grownBy w none) (e : g = w0.heap.size) :
    DeadTo w g n 0 zs ks ∧ Below g w0 w ∧ g < w.heap.size := by
  have hlt := (h.lt g rfl).2
  rcases h.2 with ⟨h', _⟩ | ⟨g', cap', cur, h', _, hgg, _, _, hcs, _⟩
  · simp at h'
  · simp only [Value.slice.injEq, Option.some.injEq, Addr.mk.injEq, and_true, true_and] at h'
    obtain ⟨rfl, rfl⟩ := h'
    exact ⟨⟨⟨cur, hgg, hcs⟩, fun j hj => absurd hj (Nat.not_lt_zero _)⟩, (Below.refl g w0).grown hg (Nat.le_of_eq e) (fun k hk => by cases hk), hlt⟩

theorem cell_other {w : World} {g i j : Nat} {v : Value} (h : i ≠ j) : (w.setCell ⟨g, i, none⟩ v).cell? ⟨g, j, none⟩ = w.cell? ⟨g, j, none⟩ := World.cell?_setCell_other _ _ _ _ (fun e => h (Addr.mk.inj e).2.1)
theorem cell_same {w : World} {g i : Nat} {v u : Value} (h : w.cell? ⟨g, i, none⟩ = some u) : (w.setCell ⟨g, i, none⟩ v).cell? ⟨g, i, none⟩ = some v := World.cell?_setCell_same _ _ _ h
theorem DeadTo.next {w : World} {g n k : Nat} {zs : List Int} {ks : List ByteArray} (h : DeadTo w g n k zs ks) (hk : k < n) (x : Int) (s : ByteArray) (hx : x = zs.getD k 0) (hs : s = ks.getD k ByteArray.empty) :
    DeadTo ((w.setCell ⟨g, k * 2, none⟩ (.int .i64 x)).setCell ⟨g, k * 2 + 1, none⟩ (.string s)).drew g n (k + 1) zs ks := by
  obtain ⟨v2, f2⟩ := h.cell (k * 2) (by omega)
  obtain ⟨v3, f3⟩ := h.cell (k * 2 + 1) (by omega)
  obtain ⟨⟨cur, hg, hsz⟩, hd⟩ := h
  have hA := heap_setCell_same w g (k * 2) cur 37 (.int .i64 x) hg
  have hB := heap_setCell_same (w.setCell ⟨g, k * 2, none⟩ (.int .i64 x)) g (k * 2 + 1) _ 37 (.string s) hA
  refine ⟨⟨_, hB, by simpa using hsz⟩, fun j hj => ?_⟩
  rw [World.cell?_drew, World.cell?_drew]
  by_cases e : j = k
  · subst e
    constructor
    · rw [cell_other (by omega), cell_same f2, hx]
    · have f3' : (w.setCell ⟨g, j * 2, none⟩ (.int .i64 x)).cell? ⟨g, j * 2 + 1, none⟩ = some v3 := by rw [cell_other (by omega), f3]
      rw [cell_same f3', hs]
  · have hjk : j < k := by omega
    rw [cell_other (by omega), cell_other (by omega), cell_other (by omega), cell_other (by omega)]
    exact hd j hjk

set_option maxHeartbeats 400000 in
theorem of_zero (a0 : Option Addr) (c0 : Nat) (a1 : Option Addr) (n1 c1 : Nat) (zs : List Int) (ks : List ByteArray) (w : World) :
    Calls Try.prog 16 #[.slice a0 0 c0, .slice a1 n1 c1] w fun e w' => e = .returned (.slice (some ⟨w.heap.size, 0, none⟩) 0 0) ∧ Dead w' w.heap.size 0 zs ks ∧ Below w.heap.size w w' ∧ w.heap.size < w'.heap.size := by
  obtain ⟨i0, hi, hz0, hz1, hz2⟩ := info_parts Try.info37
  go_enter Try.func16, Try.ntmps16
  go_wp2_with (at_make; refine wpList_make_full _ rfl _ _ 32 rfl w.heap.size 37 i0 (.agg #[.int .i64 0, .string ByteArray.empty]) 2 Try.underlying32 hi hz0 hz1 _ _ _ _ 0 rfl rfl rfl rfl (by rw [hz2]; omega) (by decide) (Nat.le_refl _) ?_)
  intro w1 hown hgrow
  obtain ⟨hd, hb, hlt⟩ := of_made zs ks (n := 0) hown hgrow rfl
  clear hown hgrow
  have HD := hd.2
  clear hd
  go_wp2
  refine wp_loop_rounds 1 ?_
  rw [rounds_succ]
  go_wp2
  go_ret
  exact ⟨rfl, HD, hb, hlt⟩

set_option maxHeartbeats 400000 in
theorem of_some (b0 o0 c0 b1 o1 n c1 : Nat) (zs : List Int) (ks : List ByteArray) (w : World) (hn : n ≤ 1000000) (hn0 : 0 < n) (hlz : zs.length = n) (hlk : ks.length = n)
    (h0 : ∀ j, j < n → w.cell? ⟨b0, o0 + j, none⟩ = some (.int .i64 (zs.getD j 0))) (h1 : ∀ j, j < n → w.cell? ⟨b1, o1 + j, none⟩ = some (.string (ks.getD j ByteArray.empty))) (hb0 : b0 < w.heap.size) (hb1 : b1 < w.heap.size) :
    Calls Try.prog 16 #[.slice (some ⟨b0, o0, none⟩) n c0, .slice (some ⟨b1, o1, none⟩) n c1] w fun e w' => e = .returned (.slice (some ⟨w.heap.size, 0, none⟩) n n) ∧ Dead w' w.heap.size n zs ks ∧ Below w.heap.size w w' ∧ w.heap.size < w'.heap.size := by
  obtain ⟨i0, hi, hz0, hz1, hz2⟩ := info_parts Try.info37
  obtain ⟨g, hg⟩ : ∃ g, g = w.heap.size := ⟨_, rfl⟩
  have HG : Hid (g = w.heap.size) := hg
  rw [← hg] at hb0 hb1 ⊢
  clear hg
  go_enter Try.func16, Try.ntmps16
  go_wp2_with (at_make; refine wpList_make_full _ rfl _ _ 32 rfl g 37 i0 (.agg #[.int .i64 0, .string ByteArray.empty]) 2 Try.underlying32 hi hz0 hz1 _ _ _ _ n rfl rfl rfl rfl (by rw [hz2]; omega) (by unfold maxLen; omega) (Nat.le_of_eq HG.out) ?_)
  rw [← HG.out]
  intro w1 hown hgrow
  obtain ⟨hd, hb, hlt⟩ := of_made zs ks (n := n) hown hgrow HG.out
  clear hown hgrow
  go_wp2
  go_loopw [6, 12] (fun _ i wr => ∃ (k : Nat), k ≤ n ∧ i = .int .i64 k ∧ DeadTo wr g n k zs ks ∧ Below g w wr ∧ g < wr.heap.size) (fun _ i _ => n - (intOf i).toNat)
  case atStart => exact ⟨0, by omega, rfl, hd, hb, hlt⟩
  case round =>
    obtain ⟨k, hk, rfl, hdk, hbk, hltk⟩ := hrel
    by_cases hkn : k < n
    · have f0 : wr.cell? ⟨b0, o0 + k, none⟩ = some (.int .i64 (zs.getD k 0)) := (hbk.cell (p := ⟨b0, o0 + k, none⟩) hb0).trans (h0 k hkn)
      have f1 : wr.cell? ⟨b1, o1 + k, none⟩ = some (.string (ks.getD k ByteArray.empty)) := (hbk.cell (p := ⟨b1, o1 + k, none⟩) hb1).trans (h1 k hkn)
      obtain ⟨v2, f2⟩ := hdk.cell (k * 2) (by omega)
      obtain ⟨v3, f3⟩ := hdk.cell (k * 2 + 1) (by omega)
      have f4 := hdk.free (k * 2)
      have f5 := hdk.free (k * 2 + 1)
      go_wp2
      go_region
      go_wp2
      have hkz : k < zs.length := by omega
      have hkk : k < ks.length := by omega
      have R := hdk.next hkn zs[k] ks[k] (by simp [hkz]) (by simp [hkk])
      go_roundw
      case rel => exact ⟨k + 1, by omega, by go_num, R, ((hbk.setCell (Nat.le_refl _) _).setCell (Nat.le_refl _) _).drew, by simpa using hltk⟩
      case measure => simp [intOf]; omega
    · have HD : Dead wr g n zs ks := by
        have : k = n := by omega
        subst this; exact hdk.2
      clear hdk
      go_wp2
      go_ret
      exact ⟨rfl, HD, hbk, hltk⟩

/-- What due answers. -/
def dueB (zs : List Int) (now : Int) : Bool := match zs with
  | [] => false
  | z :: _ => decide (z ≤ now)

theorem due_zero (a : Option Addr) (c : Nat) (now : Int) (w : World) : Calls Try.prog 17 #[.slice a 0 c, .int .i64 now] w fun e w' => e = .returned (.bool false) ∧ w' = w := by
  go_enter Try.func17, Try.ntmps17
  go_wp2
  go_ret
  exact ⟨rfl, rfl⟩
theorem due_some (g n c : Nat) (z now : Int) (w : World) (hn : (0 : Int) < n) (h0 : w.cell? ⟨g, 0, none⟩ = some (.int .i64 z)) :
    Calls Try.prog 17 #[.slice (some ⟨g, 0, none⟩) n c, .int .i64 now] w fun e w' => e = .returned (.bool (decide (z ≤ now))) ∧ w' = w := by
  go_enter Try.func17, Try.ntmps17
  go_wp2
  go_ret
  exact ⟨rfl, rfl⟩

theorem lt_of_cell {w : World} {b o : Nat} {v : Value} (h : w.cell? ⟨b, o, none⟩ = some v) : b < w.heap.size := by
  by_cases hb : b < w.heap.size
  · exact hb
  · simp [World.cell?, Array.getElem?_eq_none (Nat.le_of_not_lt hb)] at h

set_option maxHeartbeats 400000 in
theorem zzdue_any (a0 : Option Addr) (c0 : Nat) (a1 : Option Addr) (n c1 : Nat) (zs : List Int) (ks : List ByteArray) (now : Int) (w : World) (hn : n ≤ 1000000) (h0 : RowI w a0 n zs) (h1 : RowS w a1 n ks) :
    Calls Try.prog 10 #[.slice a0 n c0, .slice a1 n c1, .int .i64 now] w fun e w' => e = .returned (.bool (dueB zs now)) ∧ Below w.heap.size w w' := by
  obtain ⟨hlz, hr0⟩ := h0
  obtain ⟨hlk, hr1⟩ := h1
  by_cases hz : n = 0
  · subst hz
    obtain rfl : zs = [] := List.length_eq_zero_iff.1 hlz
    go_enter Try.func10, Try.ntmps10
    go_wp2_with fail
    refine (of_zero a0 c0 a1 0 c1 [] ks _).mono ?_
    rintro e w1 ⟨rfl, _, hb, _⟩
    go_wp2_with fail
    refine (due_zero _ _ _ _).mono ?_
    rintro e w2 ⟨rfl, rfl⟩
    go_wp2_with fail
    go_ret
    exact ⟨rfl, hb⟩
  · obtain ⟨b0, o0, rfl, hc0⟩ := hr0 (by omega)
    obtain ⟨b1, o1, rfl, hc1⟩ := hr1 (by omega)
    have hb0 := lt_of_cell (hc0 0 (by omega))
    have hb1 := lt_of_cell (hc1 0 (by omega))
    cases zs with
    | nil => simp at hlz; omega
    | cons z zs =>
    go_enter Try.func10, Try.ntmps10
    go_wp2_with fail
    refine (of_some b0 o0 c0 b1 o1 n c1 (z :: zs) ks _ hn (by omega) hlz hlk hc0 hc1 hb0 hb1).mono ?_
    rintro e w1 ⟨rfl, hD, hb, _⟩
    have hz0 : w1.cell? ⟨w.heap.size, 0, none⟩ = some (.int .i64 z) := by simpa using (hD 0 (by omega)).1
    clear hD hc0 hc1 hr0 hr1
    go_wp2_with fail
    refine (due_some _ _ _ z _ _ (by omega) hz0).mono ?_
    rintro e w2 ⟨rfl, rfl⟩
    go_wp2_with fail
    go_ret
    exact ⟨rfl, hb⟩
end Go.Proofs.Qxb6612247a
