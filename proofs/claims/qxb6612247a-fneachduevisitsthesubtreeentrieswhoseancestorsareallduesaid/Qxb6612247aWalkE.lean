/-
  Seat b6612247a: zzPairLess (21), zzSortPairs (20).
-/
import Derived.Test.Qxb6612247aWalkC
namespace Go.Proofs.Qxb6612247a
open Go.RowKit

theorem less_any (a1 : Int) (k1 : ByteArray) (a2 : Int) (k2 : ByteArray) (w : World) :
    Calls Try.prog 21 #[.int .i64 a1, .string k1, .int .i64 a2, .string k2] w fun e w' => e = .returned (.bool (pless (a1, k1) (a2, k2))) ∧ w' = w := by
  by_cases h : a1 = a2
  · subst h
    go_enter Try.func21, Try.ntmps21
    go_wp2
    go_ret
    exact ⟨by simp [pless], rfl⟩
  · have hb : (a1 != a2) = true := by simpa using h
    go_enter Try.func21, Try.ntmps21
    go_wp2
    go_ret
    exact ⟨by simp [pless, h], rfl⟩

/-- The two rows in blocks g1, g2 hold the pairs L. -/
def Mem (w : World) (g1 g2 : Nat) (L : List (Int × ByteArray)) : Prop :=
  w.heap[g1]? = some (.cells (L.map fun p => Value.int .i64 p.1).toArray 2 (0, 0)) ∧ w.heap[g2]? = some (.cells (L.map fun p => Value.string p.2).toArray 9 (0, 0))

theorem Mem.cellI {w : World} {g1 g2 : Nat} {L : List (Int × ByteArray)} (h : Mem w g1 g2 L) {i : Nat} {y : Int × ByteArray} (hy : L[i]? = some y) : w.cell? ⟨g1, i, none⟩ = some (.int .i64 y.1) := by
  rw [cell_of_row w g1 i _ 2 (0, 0) h.1]
  simp [hy]
theorem Mem.cellS {w : World} {g1 g2 : Nat} {L : List (Int × ByteArray)} (h : Mem w g1 g2 L) {i : Nat} {y : Int × ByteArray} (hy : L[i]? = some y) : w.cell? ⟨g2, i, none⟩ = some (.string y.2) := by
  rw [cell_of_row w g2 i _ 9 (0, 0) h.2]
  simp [hy]
theorem Mem.freeI {w : World} {g1 g2 : Nat} {L : List (Int × ByteArray)} (h : Mem w g1 g2 L) (i : Nat) : w.frozen? ⟨g1, i, none⟩ = false := frozen_of_row w g1 i _ 2 h.1
theorem Mem.freeS {w : World} {g1 g2 : Nat} {L : List (Int × ByteArray)} (h : Mem w g1 g2 L) (i : Nat) : w.frozen? ⟨g2, i, none⟩ = false := frozen_of_row w g2 i _ 9 h.2
theorem Mem.set {w : World} {g1 g2 : Nat} {L : List (Int × ByteArray)} (h : Mem w g1 g2 L) (hne : g1 ≠ g2) (p : Nat) (y : Int × ByteArray) :
    Mem ((w.setCell ⟨g1, p, none⟩ (.int .i64 y.1)).setCell ⟨g2, p, none⟩ (.string y.2)) g1 g2 (L.set p y) := by
  have h1 := heap_setCell_same w g1 p _ 2 (.int .i64 y.1) h.1
  have h2 := (Below.heap_setCell w ⟨g1, p, none⟩ (.int .i64 y.1) g2 (Ne.symm hne)).trans h.2
  have h3 := heap_setCell_same (w.setCell ⟨g1, p, none⟩ (.int .i64 y.1)) g2 p _ 9 (.string y.2) h2
  have h4 := (Below.heap_setCell (w.setCell ⟨g1, p, none⟩ (.int .i64 y.1)) ⟨g2, p, none⟩ (.string y.2) g1 hne).trans h1
  refine ⟨h4.trans ?_, h3.trans ?_⟩
  · simp [List.map_set]
  · simp [List.map_set]
theorem Mem.drewN {w : World} {g1 g2 : Nat} {L : List (Int × ByteArray)} (h : Mem w g1 g2 L) (m : Nat) : Mem (w.drewN m) g1 g2 L := h
theorem Mem.rowI {w : World} {g1 g2 n : Nat} {L : List (Int × ByteArray)} (h : Mem w g1 g2 L) (hl : L.length = n) : RowI w (some ⟨g1, 0, none⟩) n (L.map (·.1)) :=
  rowI_copied (by simpa using hl) (by rw [List.map_map]; exact h.1)
theorem Mem.rowS {w : World} {g1 g2 n : Nat} {L : List (Int × ByteArray)} (h : Mem w g1 g2 L) (hl : L.length = n) : RowS w (some ⟨g2, 0, none⟩) n (L.map (·.2)) :=
  rowS_copied (by simpa using hl) (by rw [List.map_map]; exact h.2)

theorem row_full {w : World} {g n : Nat} {e : TypeId} {xs : List Value} (h : w.ownsRow g e 1 (.slice (some ⟨g, 0, none⟩) n n) n xs) : w.heap[g]? = some (.cells xs.toArray e (0, 0)) ∧ g < w.heap.size := by
  have hlt := (h.lt g rfl).2
  rcases h.2 with ⟨h', _⟩ | ⟨g', cap', cur, h', _, hgg, _, _, hcs, ht⟩
  · simp at h'
  · simp only [Value.slice.injEq, Option.some.injEq, Addr.mk.injEq, and_true, true_and] at h'
    obtain ⟨rfl, rfl⟩ := h'
    rw [List.take_of_length_le (by simp [hcs])] at ht
    exact ⟨by rw [hgg, ← ht], hlt⟩

/-- 'xa := make([]int64, n); xk := make([]string, n)'. -/
theorem made2 (w : World) (n : Nat) (hn : n ≤ 1000000) :
    ∃ w1 w2, (Instr.makeSlice 22 (.int .i64 n) (.int .i64 n)).run Try.prog w = .ok (.slice (some ⟨w.heap.size, 0, none⟩) n n) w1 ∧
      (Instr.makeSlice 23 (.int .i64 n) (.int .i64 n)).run Try.prog w1 = .ok (.slice (some ⟨w1.heap.size, 0, none⟩) n n) w2 ∧
      Mem w2 w.heap.size w1.heap.size (List.replicate n (0, ByteArray.empty)) ∧ Below w.heap.size w w2 ∧ w.heap.size < w1.heap.size ∧ w1.heap.size < w2.heap.size := by
  obtain ⟨i2, hi2, hz20, hz21, hz22⟩ := info_parts Try.info2
  obtain ⟨i9, hi9, hz90, hz91, hz92⟩ := info_parts Try.info9
  obtain ⟨w1, r1, o1, g1⟩ := run_make_full (P := Try.prog) w w.heap.size 22 2 i2 (.int .i64 0) 1 Try.underlying22 hi2 hz20 hz21 .i64 .i64 n (by rw [hz22]; omega) (by unfold maxLen; omega) (Nat.le_refl _)
  obtain ⟨w2, r2, o2, g2⟩ := run_make_full (P := Try.prog) w1 w1.heap.size 23 9 i9 (.string ByteArray.empty) 1 Try.underlying23 hi9 hz90 hz91 .i64 .i64 n (by rw [hz92]; omega) (by unfold maxLen; omega) (Nat.le_refl _)
  have e1 : (madeCells (Value.int .i64 0).cells (n * 1)).toList = List.replicate n (Value.int .i64 0) := by rw [Nat.mul_one]; exact toList_madeCells_one _ _
  have e2 : (madeCells (Value.string ByteArray.empty).cells (n * 1)).toList = List.replicate n (Value.string ByteArray.empty) := by rw [Nat.mul_one]; exact toList_madeCells_one _ _
  rw [e1] at o1
  rw [e2] at o2
  obtain ⟨h1, l1⟩ := row_full o1
  obtain ⟨h2, l2⟩ := row_full o2
  refine ⟨w1, w2, r1, r2, ⟨?_, ?_⟩, ?_, l1, l2⟩
  · rw [g2.block w.heap.size l1 (by simp), h1]; simp
  · rw [h2]; simp
  · exact ((Below.refl _ _).grown g1 (Nat.le_refl _) (fun k hk => by cases hk)).trans (((Below.refl _ _).grown g2 (Nat.le_refl _) (fun k hk => by cases hk)).mono (Nat.le_of_lt l1))

theorem made2g (w : World) (n : Nat) (hn : n ≤ 1000000) :
    ∃ w1 w2 g1 g2, Hid (g1 = w.heap.size) ∧ (Instr.makeSlice 22 (.int .i64 n) (.int .i64 n)).run Try.prog w = .ok (.slice (some ⟨g1, 0, none⟩) n n) w1 ∧
      (Instr.makeSlice 23 (.int .i64 n) (.int .i64 n)).run Try.prog w1 = .ok (.slice (some ⟨g2, 0, none⟩) n n) w2 ∧
      Mem w2 g1 g2 (List.replicate n (0, ByteArray.empty)) ∧ Below g1 w w2 ∧ g1 < g2 ∧ g2 < w2.heap.size := by
  obtain ⟨w1, w2, r1, r2, hM, hB, l1, l2⟩ := made2 w n hn
  exact ⟨w1, w2, _, _, rfl, r1, r2, hM, hB, l1, l2⟩

/-- THE INSERTION, half way: the sorted P, a gap at p, what lies behind. -/
def gapAt (P : List (Int × ByteArray)) (p : Nat) (j : Int × ByteArray) (R : List (Int × ByteArray)) : List (Int × ByteArray) := P.take p ++ j :: (P.drop p ++ R)

theorem gap_start (P : List (Int × ByteArray)) (j : Int × ByteArray) (R : List (Int × ByteArray)) : gapAt P P.length j R = P ++ j :: R := by simp [gapAt]
theorem gap_here {P : List (Int × ByteArray)} {p : Nat} (hp : p ≤ P.length) (j : Int × ByteArray) (R : List (Int × ByteArray)) : (gapAt P p j R)[p]? = some j := by
  unfold gapAt
  rw [List.getElem?_append_right (by simp; omega)]
  simp [Nat.min_eq_left hp]
theorem gap_before {P : List (Int × ByteArray)} {p : Nat} (hp : p < P.length) (j : Int × ByteArray) (R : List (Int × ByteArray)) : (gapAt P (p + 1) j R)[p]? = some P[p] := by
  unfold gapAt
  rw [List.getElem?_append_left (by simp; omega)]
  simp [hp]
theorem gap_set {P : List (Int × ByteArray)} {p : Nat} (hp : p ≤ P.length) (j y : Int × ByteArray) (R : List (Int × ByteArray)) : (gapAt P p j R).set p y = gapAt P p y R := by
  unfold gapAt
  rw [List.set_append_right _ _ (by simp; omega)]
  simp [Nat.min_eq_left hp]
theorem gap_move {P : List (Int × ByteArray)} {p : Nat} (hp : p < P.length) (R : List (Int × ByteArray)) : gapAt P (p + 1) P[p] R = gapAt P p P[p] R := by
  unfold gapAt
  rw [List.take_succ_eq_append_getElem hp, List.drop_eq_getElem_cons hp, List.append_assoc]
  rfl
theorem gap_len {P : List (Int × ByteArray)} {p : Nat} (j : Int × ByteArray) (R : List (Int × ByteArray)) : (gapAt P p j R).length = P.length + 1 + R.length := by
  unfold gapAt
  simp
  omega

/-- The pairs of the first k places. -/
def pairsTo (zs : List Int) (ks : List ByteArray) (k : Nat) : List (Int × ByteArray) := (List.range k).map fun j => (zs.getD j 0, ks.getD j ByteArray.empty)
theorem pairs_succ (zs : List Int) (ks : List ByteArray) (k : Nat) : pairsTo zs ks (k + 1) = pairsTo zs ks k ++ [(zs.getD k 0, ks.getD k ByteArray.empty)] := by
  unfold pairsTo
  rw [List.range_succ]
  simp
theorem length_pairs (zs : List Int) (ks : List ByteArray) (k : Nat) : (pairsTo zs ks k).length = k := by simp [pairsTo]

/-- The outer loop's state: the first k pairs, sorted; Z behind them. -/
structure SortSt (w0 w : World) (g1 g2 n k : Nat) (zs : List Int) (ks : List ByteArray) (P Z : List (Int × ByteArray)) : Prop where
  mem : Mem w g1 g2 (P ++ Z)
  lenP : P.length = k
  lenZ : k + Z.length = n
  sorted : P.Pairwise ple
  perm : P.Perm (pairsTo zs ks k)
  below : Below g1 w0 w
  size : g2 < w.heap.size

/-- The inner loop's state: x is to be put in; it belongs ahead of all that lies behind the gap. -/
structure GapSt (w0 w : World) (g1 g2 p : Nat) (P R : List (Int × ByteArray)) (x : Int × ByteArray) : Prop where
  mem : ∃ j, Mem w g1 g2 (gapAt P p j R)
  le : p ≤ P.length
  hi : ∀ y ∈ P.drop p, pless x y = true
  below : Below g1 w0 w
  size : g2 < w.heap.size

theorem GapSt.drewN {w0 w : World} {g1 g2 p : Nat} {P R : List (Int × ByteArray)} {x : Int × ByteArray} (h : GapSt w0 w g1 g2 p P R x) (m : Nat) : GapSt w0 (w.drewN m) g1 g2 p P R x :=
  ⟨h.mem, h.le, h.hi, below_drewN h.below m, h.size⟩
theorem GapSt.next {w0 w : World} {g1 g2 p : Nat} {P R : List (Int × ByteArray)} {x : Int × ByteArray} (h : GapSt w0 w g1 g2 (p + 1) P R x) (hne : g1 < g2) (hp : p < P.length) (hq : pless x P[p] = true) (m : Nat) :
    GapSt w0 (((w.drewN m).setCell ⟨g1, p + 1, none⟩ (.int .i64 P[p].1)).setCell ⟨g2, p + 1, none⟩ (.string P[p].2)) g1 g2 p P R x := by
  obtain ⟨j, hm⟩ := h.mem
  refine ⟨⟨P[p], ?_⟩, by omega, ?_, ((below_drewN h.below m).setCell (Nat.le_refl _) _).setCell (Nat.le_of_lt hne) _, by simpa using h.size⟩
  · have := (hm.drewN m).set (Nat.ne_of_lt hne) (p + 1) P[p]
    rw [gap_set h.le, gap_move hp] at this
    exact this
  · rw [List.drop_eq_getElem_cons hp]
    intro y hy
    rcases List.mem_cons.1 hy with rfl | hy
    · exact hq
    · exact h.hi y hy

theorem GapSt.done {w0 w : World} {g1 g2 n k p : Nat} {zs : List Int} {ks : List ByteArray} {P R : List (Int × ByteArray)} {x : Int × ByteArray} (h : GapSt w0 w g1 g2 p P R x) (hne : g1 < g2)
    (hlo : ∀ q, p = q + 1 → ∀ y, P[q]? = some y → pless x y = false) (hP : P.length = k) (hR : k + 1 + R.length = n) (hs : P.Pairwise ple) (hperm : P.Perm (pairsTo zs ks k)) (hx : x = (zs.getD k 0, ks.getD k ByteArray.empty)) :
    SortSt w0 ((w.setCell ⟨g1, p, none⟩ (.int .i64 x.1)).setCell ⟨g2, p, none⟩ (.string x.2)) g1 g2 n (k + 1) zs ks (P.take p ++ x :: P.drop p) R := by
  obtain ⟨j, hm⟩ := h.mem
  refine ⟨?_, ?_, by omega, insert_sorted hs h.le h.hi hlo, ?_, (h.below.setCell (Nat.le_refl _) _).setCell (Nat.le_of_lt hne) _, by simpa using h.size⟩
  · have := hm.set (Nat.ne_of_lt hne) p x
    rw [gap_set h.le] at this
    have e : gapAt P p x R = P.take p ++ x :: P.drop p ++ R := by simp [gapAt]
    rw [e] at this
    exact this
  · have := h.le
    simp
    omega
  · rw [pairs_succ, ← hx]
    exact insert_perm.trans (hperm.append_right _)

theorem lo_of {P : List (Int × ByteArray)} {x : Int × ByteArray} {r : Nat} (hr : r < P.length) (h : pless x P[r] = false) : ∀ q, r + 1 = q + 1 → ∀ y, P[q]? = some y → pless x y = false := by
  intro q hq y hy
  obtain rfl : q = r := by omega
  rw [List.getElem?_eq_getElem hr] at hy
  cases hy
  exact h

theorem SortSt.gap {w0 w : World} {g1 g2 n k : Nat} {zs : List Int} {ks : List ByteArray} {P Z : List (Int × ByteArray)} (h : SortSt w0 w g1 g2 n k zs ks P Z) (hk : k < n) (x : Int × ByteArray) :
    ∃ R, k + 1 + R.length = n ∧ GapSt w0 w g1 g2 k P R x := by
  have hz := h.lenZ
  match Z, h with
  | [], h => have := h.lenZ; simp at this; omega
  | j :: R, h =>
    refine ⟨R, by have := h.lenZ; simp at this; omega, ⟨⟨j, ?_⟩, by rw [h.lenP]; exact Nat.le_refl _, ?_, h.below, h.size⟩⟩
    · have e := gap_start P j R
      rw [h.lenP] at e
      rw [e]
      exact h.mem
    · rw [List.drop_of_length_le (by rw [h.lenP]; exact Nat.le_refl _)]
      intro y hy
      cases hy

set_option maxHeartbeats 400000 in
theorem sort_some (b0 o0 c0 b1 o1 n c1 : Nat) (zs : List Int) (ks : List ByteArray) (w : World) (hn : n ≤ 1000000)
    (h0 : ∀ j, j < n → w.cell? ⟨b0, o0 + j, none⟩ = some (.int .i64 (zs.getD j 0))) (h1 : ∀ j, j < n → w.cell? ⟨b1, o1 + j, none⟩ = some (.string (ks.getD j ByteArray.empty))) (hb0 : b0 < w.heap.size) (hb1 : b1 < w.heap.size) :
    Calls Try.prog 20 #[.slice (some ⟨b0, o0, none⟩) n c0, .slice (some ⟨b1, o1, none⟩) n c1] w fun e w' => ∃ g1 g2 S, e = .returned (.tuple #[.slice (some ⟨g1, 0, none⟩) n n, .slice (some ⟨g2, 0, none⟩) n n]) ∧
      Mem w' g1 g2 S ∧ S.length = n ∧ S.Pairwise ple ∧ S.Perm (pairsTo zs ks n) ∧ Below w.heap.size w w' := by
  obtain ⟨w1, w2, g1, g2, HG, r1, r2, hM, hB, l1, l2⟩ := made2g w n hn
  have hb0 : b0 < g1 := by rw [HG.out]; exact hb0
  have hb1 : b1 < g1 := by rw [HG.out]; exact hb1
  have hS : SortSt w w2 g1 g2 n 0 zs ks [] (List.replicate n (0, ByteArray.empty)) := ⟨hM, rfl, by simp, List.Pairwise.nil, List.Perm.refl _, hB, l2⟩
  clear hM
  go_enter Try.func20, Try.ntmps20
  go_wp2_with fail
  go_loopw [9, 10] (fun i _ wr => ∃ (k : Nat) (P Z : List (Int × ByteArray)), k ≤ n ∧ i = .int .i64 k ∧ SortSt w wr g1 g2 n k zs ks P Z) (fun i _ _ => n - (intOf i).toNat)
  case atStart => exact ⟨0, _, _, Nat.zero_le _, rfl, hS⟩
  case round =>
    obtain ⟨k, P, Z, hk, rfl, hSt⟩ := hrel
    by_cases hkn : k < n
    case neg =>
      have HL : Hid (k = n) := by show k = n; omega
      go_wp2_with fail
      go_ret2
      refine ⟨g1, g2, P, rfl, ?_, ?_, hSt.sorted, ?_, ?_⟩
      · have := hSt.mem
        have hz := hSt.lenZ
        have : Z = [] := List.length_eq_zero_iff.1 (by have := HL.out; omega)
        subst this
        simpa using hSt.mem
      · exact hSt.lenP.trans HL.out
      · have := hSt.perm
        rw [HL.out] at this
        exact this
      · rw [← HG.out]; exact hSt.below
    obtain ⟨x1, hx1⟩ : ∃ x, x = zs.getD k 0 := ⟨_, rfl⟩
    obtain ⟨x2, hx2⟩ : ∃ x, x = ks.getD k ByteArray.empty := ⟨_, rfl⟩
    obtain ⟨R, hR, hGap⟩ := hSt.gap hkn (x1, x2)
    obtain ⟨wo, rfl⟩ : ∃ wo : World, wo = wr := ⟨_, rfl⟩
    have HX : Hid ((x1, x2) = (zs.getD k 0, ks.getD k ByteArray.empty)) := by show _ = _; rw [hx1, hx2]
    have fx1 : ∀ wr, Below g1 w wr → wr.cell? ⟨b0, o0 + k, none⟩ = some (.int .i64 x1) := fun wr hb => by rw [hx1]; exact (hb.cell (p := ⟨b0, o0 + k, none⟩) hb0).trans (h0 k hkn)
    have fx2 : ∀ wr, Below g1 w wr → wr.cell? ⟨b1, o1 + k, none⟩ = some (.string x2) := fun wr hb => by rw [hx2]; exact (hb.cell (p := ⟨b1, o1 + k, none⟩) hb1).trans (h1 k hkn)
    clear hx1 hx2
    have hPl := hSt.lenP
    have hPs := hSt.sorted
    have hPp := hSt.perm
    have HS2 : Hid (P.length = k) := hPl
    clear hSt hPl
    go_wp2_with fail
    go_loopw [10] (fun i wr => ∃ p : Nat, p ≤ k ∧ i = .int .i64 p ∧ GapSt w wr g1 g2 p P R (x1, x2)) (fun i _ => (intOf i).toNat)
    case atStart => exact ⟨k, Nat.le_refl _, rfl, hGap⟩
    case round =>
      clear hGap
      obtain ⟨p, hpk, rfl, hGp⟩ := hrel
      have y1 := fx1 wr hGp.below
      have y2 := fx2 wr hGp.below
      obtain ⟨jk, hMem⟩ := hGp.mem
      have q1 := hMem.cellI (gap_here hGp.le jk R)
      have q2 := hMem.cellS (gap_here hGp.le jk R)
      have u1 := hMem.freeI p
      have u2 := hMem.freeS p
      by_cases hp0 : p = 0
      · subst hp0
        have hd : decide ((0 : Int) < ((0 : Nat) : Int)) = false := by decide
        go_wp2_with fail
        go_quiet (fail)
        go_wp2_with fail
        have D := (hGp.drewN nq).done l1 (fun q hq => by omega) HS2.out hR hPs hPp HX.out
        go_roundw
        case rel => exact ⟨k + 1, _, _, by omega, by go_num, D⟩
        case measure => simp [intOf]; omega
      · obtain ⟨r, rfl⟩ : ∃ r, p = r + 1 := ⟨p - 1, by omega⟩
        have hrP : r < P.length := by have := HS2.out; omega
        have q3 := hMem.cellI (gap_before hrP jk R)
        have q4 := hMem.cellS (gap_before hrP jk R)
        have hpos : (0 : Int) < ((r + 1 : Nat) : Int) := by omega
        by_cases hq : pless (x1, x2) P[r] = true
        · go_wp2_with fail
          go_quiet ((go_at_call 21; exact Calls.quiet_of_same (less_any _ _ _ _ _)))
          go_wp2_with fail
          have D := hGp.next l1 hrP hq nq
          go_roundw
          case rel => exact ⟨r, by omega, rfl, D⟩
          case measure => simp [intOf]
        · have hq' : pless (x1, x2) P[r] = false := by simpa using hq
          clear hq
          go_wp2_with fail
          go_quiet ((go_at_call 21; exact Calls.quiet_of_same (less_any _ _ _ _ _)))
          go_wp2_with fail
          have D := (hGp.drewN nq).done l1 (lo_of hrP hq') HS2.out hR hPs hPp HX.out
          go_roundw
          case rel => exact ⟨k + 1, _, _, by omega, by go_num, D⟩
          case measure => simp [intOf]; omega

set_option maxHeartbeats 400000 in
theorem sort_none (a0 : Option Addr) (c0 : Nat) (a1 : Option Addr) (n1 c1 : Nat) (zs : List Int) (ks : List ByteArray) (w : World) :
    Calls Try.prog 20 #[.slice a0 0 c0, .slice a1 n1 c1] w fun e w' => ∃ g1 g2 S, e = .returned (.tuple #[.slice (some ⟨g1, 0, none⟩) 0 0, .slice (some ⟨g2, 0, none⟩) 0 0]) ∧
      Mem w' g1 g2 S ∧ S.length = 0 ∧ S.Pairwise ple ∧ S.Perm (pairsTo zs ks 0) ∧ Below w.heap.size w w' := by
  obtain ⟨w1, w2, g1, g2, HG, r1, r2, hM, hB, l1, l2⟩ := made2g w 0 (by omega)
  simp only [Int.natCast_zero] at r1 r2
  go_enter Try.func20, Try.ntmps20
  go_wp2_with fail
  refine wp_loop_rounds 1 ?_
  rw [rounds_succ]
  go_wp2_with fail
  go_ret2
  exact ⟨g1, g2, [], rfl, hM, rfl, List.Pairwise.nil, List.Perm.refl _, by rw [← HG.out]; exact hB⟩

theorem sort_any (a0 : Option Addr) (c0 : Nat) (a1 : Option Addr) (n c1 : Nat) (zs : List Int) (ks : List ByteArray) (w : World) (hn : n ≤ 1000000) (h0 : RowI w a0 n zs) (h1 : RowS w a1 n ks) :
    Calls Try.prog 20 #[.slice a0 n c0, .slice a1 n c1] w fun e w' => ∃ g1 g2 S, e = .returned (.tuple #[.slice (some ⟨g1, 0, none⟩) n n, .slice (some ⟨g2, 0, none⟩) n n]) ∧
      Mem w' g1 g2 S ∧ S.length = n ∧ S.Pairwise ple ∧ S.Perm (pairsTo zs ks n) ∧ Below w.heap.size w w' := by
  by_cases hz : n = 0
  · subst hz
    exact sort_none a0 c0 a1 0 c1 zs ks w
  · obtain ⟨b0, o0, rfl, hc0⟩ := h0.2 (by omega)
    obtain ⟨b1, o1, rfl, hc1⟩ := h1.2 (by omega)
    exact sort_some b0 o0 c0 b1 o1 n c1 zs ks w hn hc0 hc1 (lt_of_cell (hc0 0 (by omega))) (lt_of_cell (hc1 0 (by omega)))

theorem Mem.later {w w' : World} {g1 g2 : Nat} {L : List (Int × ByteArray)} (h : Mem w g1 g2 L) (hb : Below w.heap.size w w') : Mem w' g1 g2 L :=
  ⟨(hb.block g1 (lt_of_block h.1)).trans h.1, (hb.block g2 (lt_of_block h.2)).trans h.2⟩

set_option maxHeartbeats 400000 in
theorem same_any (a0 : Option Addr) (c0 : Nat) (a1 : Option Addr) (n c1 : Nat) (a2 : Option Addr) (c2 : Nat) (a3 : Option Addr) (c3 : Nat) (zs : List Int) (ks : List ByteArray) (zs' : List Int) (ks' : List ByteArray) (w : World) (hn : n ≤ 1000000)
    (h0 : RowI w a0 n zs) (h1 : RowS w a1 n ks) (h2 : RowI w a2 n zs') (h3 : RowS w a3 n ks') (hp : (pairsTo zs ks n).Perm (pairsTo zs' ks' n)) :
    Calls Try.prog 14 #[.slice a0 n c0, .slice a1 n c1, .slice a2 n c2, .slice a3 n c3] w fun e w' => e = .returned (.bool true) ∧ Below w.heap.size w w' := by
  go_enter Try.func14, Try.ntmps14
  go_wp2_with fail
  refine (sort_any a0 c0 a1 n c1 zs ks w hn h0 h1).mono ?_
  rintro e w1 ⟨g1, g2, S, rfl, m1, l1, s1, p1, b1⟩
  go_wp2_with fail
  refine (sort_any a2 c2 a3 n c3 zs' ks' w1 hn (h2.later b1) (h3.later b1)).mono ?_
  rintro e w2 ⟨g3, g4, T, rfl, m2, l2, s2, p2, b2⟩
  obtain rfl : S = T := sorted_unique s1 s2 (p1.trans (hp.trans p2.symm))
  have m3 := m1.later b2
  have b3 : Below w.heap.size w w2 := b1.trans (b2.mono b1.size)
  have HS : Hid (S.length = n) := l1
  clear l1 l2 p1 p2 s1 s2 hp m1 b1 b2
  go_wp2_with fail
  go_loopw [13] (fun i wr => ∃ k m : Nat, k ≤ n ∧ i = .int .i64 k ∧ wr = w2.drewN m) (fun i _ => n - (intOf i).toNat)
  case atStart => exact ⟨0, 0, Nat.zero_le _, rfl, rfl⟩
  case round =>
    obtain ⟨k, m, hk, rfl, rfl⟩ := hrel
    by_cases hkn : k < n
    · obtain ⟨y, hy⟩ : ∃ y, S[k]? = some y := ⟨S[k]'(by have := HS.out; omega), by simp⟩
      have q1 := m2.cellI hy
      have q2 := m2.cellS hy
      have q3 := m3.cellI hy
      have q4 := m3.cellS hy
      clear hy
      go_wp2_with fail
      go_quiet (fail)
      go_wp2_with fail
      go_roundw
      case rel => exact ⟨k + 1, _, by omega, by go_num, rfl⟩
      case measure => simp [intOf]; omega
    · go_wp2_with fail
      go_ret
      exact ⟨rfl, below_drewN b3 m⟩

end Go.Proofs.Qxb6612247a
