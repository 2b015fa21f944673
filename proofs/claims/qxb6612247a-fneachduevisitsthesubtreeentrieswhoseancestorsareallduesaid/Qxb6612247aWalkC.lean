/-
  Seat b6612247a: A CLONE ('make' of the same length, 'copy') as two equations for the walk.
-/
import Derived.Test.Qxb6612247aWalkB
import Derived.Laws.CopyOwn
namespace Go.Proofs.Qxb6612247a
open Go.RowKit

/-- The row that 'make' has just laid. -/
theorem made_row {w : World} {g n : Nat} {e : TypeId} {xs : List Value} (h : w.ownsRow g e 1 (.slice (some ⟨g, 0, none⟩) n n) n xs) :
    ∃ cur : List Value, cur.length = n ∧ w.heap[g]? = some (.cells cur.toArray e (0, 0)) ∧ g < w.heap.size := by
  have hlt := (h.lt g rfl).2
  rcases h.2 with ⟨h', _⟩ | ⟨g', cap', cur, h', _, hgg, _, _, hcs, _⟩
  · simp at h'
  · simp only [Value.slice.injEq, Option.some.injEq, Addr.mk.injEq, and_true, true_and] at h'
    obtain ⟨rfl, rfl⟩ := h'
    exact ⟨cur.toList, by simpa using hcs, by simpa using hgg, hlt⟩

theorem rowI_copied {w : World} {g n : Nat} {zs : List Int} (hlz : zs.length = n) (h : w.heap[g]? = some (.cells (zs.map (Value.int .i64)).toArray 2 (0, 0))) : RowI w (some ⟨g, 0, none⟩) n zs := by
  refine ⟨hlz, fun _ => ⟨g, 0, rfl, fun j hj => ?_⟩⟩
  rw [cell_of_row w g (0 + j) _ 2 (0, 0) h]
  have : j < zs.length := by omega
  simp [this]
theorem rowS_copied {w : World} {g n : Nat} {ks : List ByteArray} (hlz : ks.length = n) (h : w.heap[g]? = some (.cells (ks.map Value.string).toArray 9 (0, 0))) : RowS w (some ⟨g, 0, none⟩) n ks := by
  refine ⟨hlz, fun _ => ⟨g, 0, rfl, fun j hj => ?_⟩⟩
  rw [cell_of_row w g (0 + j) _ 9 (0, 0) h]
  have : j < ks.length := by omega
  simp [this]

/-- Old rows in a later world. -/
theorem RowI.later {w w' : World} {a : Option Addr} {n : Nat} {zs : List Int} (h : RowI w a n zs) (hb : Below w.heap.size w w') : RowI w' a n zs := by
  refine ⟨h.1, fun hn => ?_⟩
  obtain ⟨b, o, rfl, hc⟩ := h.2 hn
  exact ⟨b, o, rfl, fun j hj => (hb.cell (p := ⟨b, o + j, none⟩) (lt_of_cell (hc j hj))).trans (hc j hj)⟩
theorem RowS.later {w w' : World} {a : Option Addr} {n : Nat} {ks : List ByteArray} (h : RowS w a n ks) (hb : Below w.heap.size w w') : RowS w' a n ks := by
  refine ⟨h.1, fun hn => ?_⟩
  obtain ⟨b, o, rfl, hc⟩ := h.2 hn
  exact ⟨b, o, rfl, fun j hj => (hb.cell (p := ⟨b, o + j, none⟩) (lt_of_cell (hc j hj))).trans (hc j hj)⟩

/-- What 'copy' reads, cell by cell. -/
theorem srcI {w : World} {b o n : Nat} {zs : List Int} (hlz : zs.length = n) (hc : ∀ j, j < n → w.cell? ⟨b, o + j, none⟩ = some (.int .i64 (zs.getD j 0))) :
    ∀ j v, (zs.map (Value.int .i64))[j]? = some v → w.cell? ((⟨b, o, none⟩ : Addr).add j) = some v := by
  intro j v hj
  rw [List.getElem?_map, Option.map_eq_some_iff] at hj
  obtain ⟨z, hz, rfl⟩ := hj
  have hl : j < zs.length := (List.getElem?_eq_some_iff.1 hz).1
  rw [Addr.add_lit, hc j (by omega)]
  simp [List.getD, hz]
theorem srcS {w : World} {b o n : Nat} {ks : List ByteArray} (hlz : ks.length = n) (hc : ∀ j, j < n → w.cell? ⟨b, o + j, none⟩ = some (.string (ks.getD j ByteArray.empty))) :
    ∀ j v, (ks.map Value.string)[j]? = some v → w.cell? ((⟨b, o, none⟩ : Addr).add j) = some v := by
  intro j v hj
  rw [List.getElem?_map, Option.map_eq_some_iff] at hj
  obtain ⟨z, hz, rfl⟩ := hj
  have hl : j < ks.length := (List.getElem?_eq_some_iff.1 hz).1
  rw [Addr.add_lit, hc j (by omega)]
  simp [List.getD, hz]
theorem strs_oneCell (ks : List ByteArray) : ∀ u ∈ ks.map Value.string, u.oneCell' = true := by
  intro u hu
  obtain ⟨k, _, rfl⟩ := List.mem_map.1 hu
  rfl


theorem cloneI (w : World) (a : Option Addr) (n c : Nat) (zs : List Int) (h : RowI w a n zs) (hn : n ≤ 1000000) :
    ∃ w2 w3, (Instr.makeSlice 22 (.int .i64 n) (.int .i64 n)).run Try.prog w = .ok (.slice (some ⟨w.heap.size, 0, none⟩) n n) w2 ∧
      (Builtin.copy_ #[22, 22] 3 #[.slice (some ⟨w.heap.size, 0, none⟩) n n, .slice a n c]).run Try.prog w2 = .ok (.int .i64 n) w3 ∧
      RowI w3 (some ⟨w.heap.size, 0, none⟩) n zs ∧ Below w.heap.size w w3 ∧ w.heap.size < w3.heap.size := by
  obtain ⟨i0, hi, hz0, hz1, hz2⟩ := info_parts Try.info2
  have hs : (Try.prog.info? 2).map (·.size) = some 1 := by rw [hi]; exact congrArg some hz1
  obtain ⟨w2, hrun, hown, hgrow⟩ := run_make_full (P := Try.prog) w w.heap.size 22 2 i0 (.int .i64 0) 1 Try.underlying22 hi hz0 hz1 .i64 .i64 n (by rw [hz2]; omega) (by unfold maxLen; omega) (Nat.le_refl _)
  obtain ⟨cur, hcl, hcur, hlt2⟩ := made_row (n := n) hown
  have hb2 : Below w.heap.size w w2 := (Below.refl _ _).grown hgrow (Nat.le_refl _) (fun k hk => by cases hk)
  obtain ⟨hlz, hr⟩ := h
  by_cases h0 : n = 0
  · subst h0
    refine ⟨w2, w2, hrun, ?_, ⟨hlz, fun hn => absurd hn (by omega)⟩, hb2, hlt2⟩
    exact run_copy_none (P := Try.prog) w2 22 22 3 2 _ a 0 0 0 c Try.underlying22 hs rfl
  · obtain ⟨b, o, rfl, hc⟩ := hr (by omega)
    have e0 : ∀ j, j < n → w2.cell? ⟨b, o + j, none⟩ = some (Value.int .i64 (zs.getD j 0)) := fun j hj => (hb2.cell (p := ⟨b, o + j, none⟩) (lt_of_cell (hc j hj))).trans (hc j hj)
    have hml : (zs.map (Value.int .i64)).length = n := by simp [hlz]
    have hcp := run_copy_row (P := Try.prog) w2 22 22 3 2 w.heap.size 0 n n ⟨b, o, none⟩ n c cur.toArray 2 (zs.map (Value.int .i64)) Try.underlying22 hs hcur (by rw [hml]; exact (Nat.min_self n).symm) (srcI hlz e0) (by rw [hml]; simp [hcl]) (ints_oneCell _ _)
    have hall : (cur.toArray.toList.take 0 ++ zs.map (Value.int .i64) ++ cur.toArray.toList.drop (0 + (zs.map (Value.int .i64)).length)) = zs.map (Value.int .i64) := by
      rw [hml, List.drop_of_length_le (by simp [hcl])]; simp
    rw [hall, hml] at hcp
    refine ⟨w2, _, hrun, hcp, rowI_copied hlz (setRow_heap w2 w.heap.size _ _ 2 _ hcur), below_setRow hb2 (Nat.le_refl _) _, by simpa [World.setRow] using hlt2⟩

theorem cloneS (w : World) (a : Option Addr) (n c : Nat) (zs : List ByteArray) (h : RowS w a n zs) (hn : n ≤ 1000000) :
    ∃ w2 w3, (Instr.makeSlice 23 (.int .i64 n) (.int .i64 n)).run Try.prog w = .ok (.slice (some ⟨w.heap.size, 0, none⟩) n n) w2 ∧
      (Builtin.copy_ #[23, 23] 3 #[.slice (some ⟨w.heap.size, 0, none⟩) n n, .slice a n c]).run Try.prog w2 = .ok (.int .i64 n) w3 ∧
      RowS w3 (some ⟨w.heap.size, 0, none⟩) n zs ∧ Below w.heap.size w w3 ∧ w.heap.size < w3.heap.size := by
  obtain ⟨i0, hi, hz0, hz1, hz2⟩ := info_parts Try.info9
  have hs : (Try.prog.info? 9).map (·.size) = some 1 := by rw [hi]; exact congrArg some hz1
  obtain ⟨w2, hrun, hown, hgrow⟩ := run_make_full (P := Try.prog) w w.heap.size 23 9 i0 (.string ByteArray.empty) 1 Try.underlying23 hi hz0 hz1 .i64 .i64 n (by rw [hz2]; omega) (by unfold maxLen; omega) (Nat.le_refl _)
  obtain ⟨cur, hcl, hcur, hlt2⟩ := made_row (n := n) hown
  have hb2 : Below w.heap.size w w2 := (Below.refl _ _).grown hgrow (Nat.le_refl _) (fun k hk => by cases hk)
  obtain ⟨hlz, hr⟩ := h
  by_cases h0 : n = 0
  · subst h0
    refine ⟨w2, w2, hrun, ?_, ⟨hlz, fun hn => absurd hn (by omega)⟩, hb2, hlt2⟩
    exact run_copy_none (P := Try.prog) w2 23 23 3 9 _ a 0 0 0 c Try.underlying23 hs rfl
  · obtain ⟨b, o, rfl, hc⟩ := hr (by omega)
    have e0 : ∀ j, j < n → w2.cell? ⟨b, o + j, none⟩ = some (Value.string (zs.getD j ByteArray.empty)) := fun j hj => (hb2.cell (p := ⟨b, o + j, none⟩) (lt_of_cell (hc j hj))).trans (hc j hj)
    have hml : (zs.map (Value.string)).length = n := by simp [hlz]
    have hcp := run_copy_row (P := Try.prog) w2 23 23 3 9 w.heap.size 0 n n ⟨b, o, none⟩ n c cur.toArray 9 (zs.map (Value.string)) Try.underlying23 hs hcur (by rw [hml]; exact (Nat.min_self n).symm) (srcS hlz e0) (by rw [hml]; simp [hcl]) (strs_oneCell _)
    have hall : (cur.toArray.toList.take 0 ++ zs.map (Value.string) ++ cur.toArray.toList.drop (0 + (zs.map (Value.string)).length)) = zs.map (Value.string) := by
      rw [hml, List.drop_of_length_le (by simp [hcl])]; simp
    rw [hall, hml] at hcp
    refine ⟨w2, _, hrun, hcp, rowS_copied hlz (setRow_heap w2 w.heap.size _ _ 9 _ hcur), below_setRow hb2 (Nat.le_refl _) _, by simpa [World.setRow] using hlt2⟩

theorem RowI.at {w : World} {b o n : Nat} {zs : List Int} (h : RowI w (some ⟨b, o, none⟩) n zs) (j : Nat) (hj : j < n) : w.cell? ⟨b, o + j, none⟩ = some (.int .i64 (zs.getD j 0)) := by
  obtain ⟨b', o', e, hc⟩ := h.2 (by omega)
  cases e
  exact hc j hj
theorem RowS.at {w : World} {b o n : Nat} {ks : List ByteArray} (h : RowS w (some ⟨b, o, none⟩) n ks) (j : Nat) (hj : j < n) : w.cell? ⟨b, o + j, none⟩ = some (.string (ks.getD j ByteArray.empty)) := by
  obtain ⟨b', o', e, hc⟩ := h.2 (by omega)
  cases e
  exact hc j hj
theorem RowI.at0 {w : World} {b n : Nat} {zs : List Int} (h : RowI w (some ⟨b, 0, none⟩) n zs) (j : Nat) (hj : j < n) : w.cell? ⟨b, j, none⟩ = some (.int .i64 (zs.getD j 0)) := by
  have := h.at j hj
  rwa [Nat.zero_add] at this
theorem RowS.at0 {w : World} {b n : Nat} {ks : List ByteArray} (h : RowS w (some ⟨b, 0, none⟩) n ks) (j : Nat) (hj : j < n) : w.cell? ⟨b, j, none⟩ = some (.string (ks.getD j ByteArray.empty)) := by
  have := h.at j hj
  rwa [Nat.zero_add] at this
theorem RowI.drewN {w : World} {a : Option Addr} {n : Nat} {zs : List Int} (h : RowI w a n zs) (m : Nat) : RowI (w.drewN m) a n zs := h
theorem RowS.drewN {w : World} {a : Option Addr} {n : Nat} {ks : List ByteArray} (h : RowS w a n ks) (m : Nat) : RowS (w.drewN m) a n ks := h
end Go.Proofs.Qxb6612247a
