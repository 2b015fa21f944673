/-
  Seat b6612247a: FnDueIsTrueExactlyWhenSomeEntryIsDue (3): the walk.
-/
import Derived.Test.Qxb6612247aWalkC
namespace Go.Proofs.Qxb6612247a
open Go.RowKit

/-- Is one of them due? -/
def anyDue (zs : List Int) (now : Int) : Bool := zs.any fun z => decide (z ≤ now)

theorem due_iff {zs : List Int} (h : IsHeap zs) (now : Int) : dueB zs now = anyDue zs now := by
  cases zs with
  | nil => rfl
  | cons z zs =>
    show decide (z ≤ now) = anyDue (z :: zs) now
    unfold anyDue
    by_cases hz : z ≤ now
    · simp [hz]
    · rw [decide_eq_false hz]
      symm
      rw [List.any_eq_false]
      intro x hx
      obtain ⟨j, hj, rfl⟩ := List.mem_iff_getElem.1 hx
      have := heap_min h j hj
      rw [List.getD_eq_getElem?_getD, List.getD_eq_getElem?_getD, List.getElem?_eq_getElem hj] at this
      simp only [List.getElem?_cons_zero, Option.getD_some] at this
      simp only [decide_eq_true_eq]
      omega

theorem anyDue_snoc (zs : List Int) (now : Int) (k : Nat) (h : k < zs.length) : anyDue (zs.take (k + 1)) now = (anyDue (zs.take k) now || decide (zs[k] ≤ now)) := by
  unfold anyDue
  rw [List.take_succ_eq_append_getElem h, List.any_append]
  simp

set_option maxHeartbeats 400000 in
theorem law1_any (a0 : Option Addr) (n0 c0 : Nat) (a1 : Option Addr) (n1 c1 : Nat) (zs : List Int) (ks : List ByteArray) (now : Int) (w0 : World) (hn0 : n0 ≤ maxLen) (hn1 : n1 ≤ maxLen)
    (hR0 : RowI w0 a0 n0 zs) (hR1 : RowS w0 a1 n1 ks) (hnil0 : a0 = none → n0 = 0) :
    Calls Try.prog 3 #[.slice a0 n0 c0, .slice a1 n1 c1, .int .i64 now] w0 fun e w' => e = .returned (.bool true) ∧ Below w0.heap.size w0 w' := by
  have hnnI := fun (w : World) (a : Option Addr) (n c : Nat) => run_neq_slice_nil_any (P := Try.prog) w 22 2 a n c 0 0 Try.underlying22
  have hnnS := fun (w : World) (a : Option Addr) (n c : Nat) => run_neq_slice_nil_any (P := Try.prog) w 23 9 a n c 0 0 Try.underlying23
  go_enter Try.func3, Try.ntmps3
  go_wp2_with fail
  refine (bytes7_any _ _ _ _ _ _ ks _ _ hn0 hn1 hR1).mono ?_
  rintro e w ⟨⟨t, rfl⟩, rfl⟩
  cases t with
  | false =>
    go_wp2_with fail
    go_ret
    exact ⟨rfl, Below.refl _ _⟩
  | true =>
  go_wp2_with fail
  refine (big_any _ _ _ _ _ _ ks _ hn0 hn1 hR1).mono ?_
  rintro e w ⟨⟨t, rfl, hbig⟩, rfl⟩
  cases t with
  | true =>
    go_wp2_with fail
    go_ret
    exact ⟨rfl, Below.refl _ _⟩
  | false =>
  have hnb := hbig rfl
  clear hbig
  by_cases hne : n0 = n1
  case neg =>
    go_wp2_with fail
    go_ret
    exact ⟨rfl, Below.refl _ _⟩
  subst hne
  go_wp2_with fail
  refine (heap_any _ _ _ zs _ hn0 hR0).mono ?_
  rintro e w1 ⟨⟨t, rfl, hheap⟩, m, rfl⟩
  cases t with
  | false =>
    go_wp2_with fail
    go_ret
    exact ⟨rfl, below_drewN (Below.refl _ _) _⟩
  | true =>
  have HH : Hid (IsHeap zs) := hheap rfl
  clear hheap
  have hlz := hR0.1
  unfold maxLen at hn0
  by_cases ha0 : a0 = none
  · subst ha0
    have HZ : Hid (n0 = 0) := hnil0 rfl
    clear hnil0
    by_cases ha1 : a1 = none
    · subst ha1
      have S0 := hR0.drewN m
      have S1 := hR1.drewN m
      have BB : Below w.heap.size w (w.drewN m) := below_drewN (Below.refl _ _) m
      go_wp2_with fail
      go_loop [9, 10] (fun t i => ∃ k : Nat, k ≤ n0 ∧ i = .int .i64 k ∧ t = .bool (anyDue (zs.take k) now)) (fun _ i => n0 - (intOf i).toNat)
      case atStart => exact ⟨0, Nat.zero_le _, rfl, rfl⟩
      case round =>
        obtain ⟨k, hk, rfl, rfl⟩ := hrel
        by_cases hlt : k < n0
        · exact absurd hlt (by rw [HZ.out]; omega)
        · have HT : Hid (zs.take k = zs) := List.take_of_length_le (by omega)
          go_wp2_with fail
          refine (zzdue_any _ _ _ _ _ zs ks _ _ (by omega) S0 S1).mono ?_
          rintro e w9 ⟨rfl, hb9⟩
          go_wp2_with fail
          go_ret
          exact ⟨by rw [HT.out, due_iff HH.out]; simp, BB.trans (hb9.mono BB.size)⟩

    · obtain ⟨x1, rfl⟩ := Option.ne_none_iff_exists'.1 ha1
      obtain ⟨w4, w5, r3, r4, S1, B1, L1⟩ := cloneS (w.drewN m) _ _ c1 ks (hR1.drewN m) (by omega)
      simp only [World.heap_drewN] at r3 r4 S1 B1 L1
      have S0 := (hR0.drewN m).later B1
      have BB : Below w.heap.size w w5 := (below_drewN (Below.refl _ _) m).trans B1
      go_wp2_with fail
      go_loop [9, 10] (fun t i => ∃ k : Nat, k ≤ n0 ∧ i = .int .i64 k ∧ t = .bool (anyDue (zs.take k) now)) (fun _ i => n0 - (intOf i).toNat)
      case atStart => exact ⟨0, Nat.zero_le _, rfl, rfl⟩
      case round =>
        obtain ⟨k, hk, rfl, rfl⟩ := hrel
        by_cases hlt : k < n0
        · exact absurd hlt (by rw [HZ.out]; omega)
        · have HT : Hid (zs.take k = zs) := List.take_of_length_le (by omega)
          go_wp2_with fail
          refine (zzdue_any _ _ _ _ _ zs ks _ _ (by omega) S0 S1).mono ?_
          rintro e w9 ⟨rfl, hb9⟩
          go_wp2_with fail
          go_ret
          exact ⟨by rw [HT.out, due_iff HH.out]; simp, BB.trans (hb9.mono BB.size)⟩

  · obtain ⟨x0, rfl⟩ := Option.ne_none_iff_exists'.1 ha0
    obtain ⟨w2, w3, r1, r2, T0, B0, L0⟩ := cloneI (w.drewN m) _ _ c0 zs (hR0.drewN m) (by omega)
    simp only [World.heap_drewN] at r1 r2 T0 B0 L0
    by_cases ha1 : a1 = none
    · subst ha1
      have S0 := T0
      have S1 := (hR1.drewN m).later B0
      have BB : Below w.heap.size w w3 := (below_drewN (Below.refl _ _) m).trans B0
      go_wp2_with fail
      go_loop [9, 10] (fun t i => ∃ k : Nat, k ≤ n0 ∧ i = .int .i64 k ∧ t = .bool (anyDue (zs.take k) now)) (fun _ i => n0 - (intOf i).toNat)
      case atStart => exact ⟨0, Nat.zero_le _, rfl, rfl⟩
      case round =>
        obtain ⟨k, hk, rfl, rfl⟩ := hrel
        by_cases hlt : k < n0
        · have hcell := S0.at0 k hlt
          have hkz : k < zs.length := by omega
          have HS : Hid (anyDue (zs.take (k + 1)) now = (anyDue (zs.take k) now || decide (zs[k] ≤ now))) := anyDue_snoc zs now k hkz
          go_wp2_with fail
          · have hq : zs[k] ≤ now := by assumption
            go_round
            case rel => exact ⟨k + 1, by omega, by go_num, by rw [HS.out, decide_eq_true hq]; simp⟩
            case measure => simp [intOf]; omega
          · have hq : now < zs[k] := by assumption
            go_round
            case rel => exact ⟨k + 1, by omega, by go_num, by rw [HS.out, decide_eq_false (by omega)]; simp⟩
            case measure => simp [intOf]; omega
        · have HT : Hid (zs.take k = zs) := List.take_of_length_le (by omega)
          go_wp2_with fail
          refine (zzdue_any _ _ _ _ _ zs ks _ _ (by omega) S0 S1).mono ?_
          rintro e w9 ⟨rfl, hb9⟩
          go_wp2_with fail
          go_ret
          exact ⟨by rw [HT.out, due_iff HH.out]; simp, BB.trans (hb9.mono BB.size)⟩

    · obtain ⟨x1, rfl⟩ := Option.ne_none_iff_exists'.1 ha1
      obtain ⟨w4, w5, r3, r4, S1, B1, L1⟩ := cloneS w3 _ _ c1 ks ((hR1.drewN m).later B0) (by omega)
      have S0 := T0.later B1
      have BB : Below w.heap.size w w5 := ((below_drewN (Below.refl _ _) m).trans B0).trans (B1.mono (Nat.le_of_lt L0))
      go_wp2_with fail
      go_loop [9, 10] (fun t i => ∃ k : Nat, k ≤ n0 ∧ i = .int .i64 k ∧ t = .bool (anyDue (zs.take k) now)) (fun _ i => n0 - (intOf i).toNat)
      case atStart => exact ⟨0, Nat.zero_le _, rfl, rfl⟩
      case round =>
        obtain ⟨k, hk, rfl, rfl⟩ := hrel
        by_cases hlt : k < n0
        · have hcell := S0.at0 k hlt
          have hkz : k < zs.length := by omega
          have HS : Hid (anyDue (zs.take (k + 1)) now = (anyDue (zs.take k) now || decide (zs[k] ≤ now))) := anyDue_snoc zs now k hkz
          go_wp2_with fail
          · have hq : zs[k] ≤ now := by assumption
            go_round
            case rel => exact ⟨k + 1, by omega, by go_num, by rw [HS.out, decide_eq_true hq]; simp⟩
            case measure => simp [intOf]; omega
          · have hq : now < zs[k] := by assumption
            go_round
            case rel => exact ⟨k + 1, by omega, by go_num, by rw [HS.out, decide_eq_false (by omega)]; simp⟩
            case measure => simp [intOf]; omega
        · have HT : Hid (zs.take k = zs) := List.take_of_length_le (by omega)
          go_wp2_with fail
          refine (zzdue_any _ _ _ _ _ zs ks _ _ (by omega) S0 S1).mono ?_
          rintro e w9 ⟨rfl, hb9⟩
          go_wp2_with fail
          go_ret
          exact ⟨by rw [HT.out, due_iff HH.out]; simp, BB.trans (hb9.mono BB.size)⟩

end Go.Proofs.Qxb6612247a
