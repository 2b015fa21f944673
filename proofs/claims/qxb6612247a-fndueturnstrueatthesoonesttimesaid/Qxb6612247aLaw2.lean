/-
  Seat b6612247a: FnDueTurnsTrueAtTheSoonestTime (4): the walk.
-/
import Derived.Test.Qxb6612247aWalkC
namespace Go.Proofs.Qxb6612247a
open Go.RowKit

theorem due_none {zs : List Int} (h : zs.length = 0) (now : Int) : dueB zs now = false := by
  obtain rfl : zs = [] := List.length_eq_zero_iff.1 h
  rfl
theorem due_head {zs : List Int} (h : 0 < zs.length) (now : Int) : dueB zs now = decide (zs.getD 0 0 ≤ now) := by
  cases zs with
  | nil => simp at h
  | cons z zs => rfl

theorem wrap_pred {x : Int} (h0 : -9223372036854775808 ≤ x) (h1 : x ≤ 9223372036854775807) (h : (x == -9223372036854775808) = false) : wrap64 (x - 1) = x - 1 := by
  have hx : x ≠ -9223372036854775808 := by simpa using h
  exact IntWalk.wrap64_in _ ⟨by omega, by omega⟩

/-- x is one of the numbers, and none of the first k is less. -/
def MinTo (zs : List Int) (k : Nat) (x : Int) : Prop := x ∈ zs ∧ ∀ j, j < k → x ≤ zs.getD j 0
theorem MinTo.start {zs : List Int} {i : Nat} (h : i < zs.length) : MinTo zs 0 (zs[i]?.getD 0) := by
  rw [List.getElem?_eq_getElem h]
  exact ⟨List.getElem_mem h, fun _ hj => absurd hj (Nat.not_lt_zero _)⟩
theorem MinTo.less {zs : List Int} {k : Nat} {x : Int} (h : MinTo zs k x) (hk : k < zs.length) (hq : zs[k] < x) : MinTo zs (k + 1) zs[k] := by
  have e : zs.getD k 0 = zs[k] := by simp [hk]
  refine ⟨List.getElem_mem hk, fun j hj => ?_⟩
  by_cases ej : j = k
  · subst ej; omega
  · have := h.2 j (by omega); omega
theorem MinTo.more {zs : List Int} {k : Nat} {x : Int} (h : MinTo zs k x) (hk : k < zs.length) (hq : x ≤ zs[k]) : MinTo zs (k + 1) x := by
  have e : zs.getD k 0 = zs[k] := by simp [hk]
  refine ⟨h.1, fun j hj => ?_⟩
  by_cases ej : j = k
  · subst ej; omega
  · exact h.2 j (by omega)
theorem MinTo.ends {zs : List Int} {k : Nat} {x : Int} (h : MinTo zs k x) (hk : k = zs.length) (hh : IsHeap zs) (hp : 0 < zs.length) (hbd : ∀ z ∈ zs, -9223372036854775808 ≤ z ∧ z ≤ 9223372036854775807) :
    Hid (dueB zs x = true) ∧ Hid (dueB zs 9223372036854775807 = true) ∧ Hid (dueB zs (x - 1) = false) ∧ -9223372036854775808 ≤ x ∧ x ≤ 9223372036854775807 := by
  have hb := hbd x h.1
  have h0 := h.2 0 (by omega)
  have hx : zs.getD 0 0 ≤ x := by
    obtain ⟨j, hj, rfl⟩ := List.mem_iff_getElem.1 h.1
    have := heap_min hh j hj
    have e : zs.getD j 0 = zs[j] := by simp [hj]
    omega
  refine ⟨?_, ?_, ?_, hb.1, hb.2⟩
  · show dueB zs x = true
    rw [due_head hp, decide_eq_true hx]
  · show dueB zs _ = true
    rw [due_head hp, decide_eq_true (by omega)]
  · show dueB zs _ = false
    rw [due_head hp, decide_eq_false (by omega)]

set_option maxHeartbeats 400000 in
theorem law2_any (a0 : Option Addr) (n0 c0 : Nat) (a1 : Option Addr) (n1 c1 : Nat) (zs : List Int) (ks : List ByteArray) (w0 : World) (hn0 : n0 ≤ maxLen) (hn1 : n1 ≤ maxLen)
    (hR0 : RowI w0 a0 n0 zs) (hR1 : RowS w0 a1 n1 ks) (hnil0 : a0 = none → n0 = 0) (hbd : ∀ z ∈ zs, -9223372036854775808 ≤ z ∧ z ≤ 9223372036854775807) :
    Calls Try.prog 4 #[.slice a0 n0 c0, .slice a1 n1 c1] w0 fun e w' => e = .returned (.bool true) ∧ Below w0.heap.size w0 w' := by
  have hnnI := fun (w : World) (a : Option Addr) (n c : Nat) => run_neq_slice_nil_any (P := Try.prog) w 22 2 a n c 0 0 Try.underlying22
  have hnnS := fun (w : World) (a : Option Addr) (n c : Nat) => run_neq_slice_nil_any (P := Try.prog) w 23 9 a n c 0 0 Try.underlying23
  go_enter Try.func4, Try.ntmps4
  go_wp2_with fail
  refine (bytes11_any _ _ _ _ _ _ ks _ hn0 hn1 hR1).mono ?_
  rintro e w ⟨⟨t, rfl⟩, rfl⟩
  cases t with
  | false =>
    go_wp2_with fail
    go_ret
    exact ⟨rfl, Below.refl _ _⟩
  | true =>
  go_wp2_with fail
  refine (big_any _ _ _ _ _ _ ks _ hn0 hn1 hR1).mono ?_
  rintro e w ⟨⟨t, rfl, hbig⟩, rfl⟩
  cases t with
  | true =>
    go_wp2_with fail
    go_ret
    exact ⟨rfl, Below.refl _ _⟩
  | false =>
  have hnb := hbig rfl
  clear hbig
  by_cases hne : n0 = n1
  case neg =>
    go_wp2_with fail
    go_ret
    exact ⟨rfl, Below.refl _ _⟩
  subst hne
  go_wp2_with fail
  refine (heap_any _ _ _ zs _ hn0 hR0).mono ?_
  rintro e w1 ⟨⟨t, rfl, hheap⟩, m, rfl⟩
  cases t with
  | false =>
    go_wp2_with fail
    go_ret
    exact ⟨rfl, below_drewN (Below.refl _ _) _⟩
  | true =>
  have HH : Hid (IsHeap zs) := hheap rfl
  clear hheap
  have hlz := hR0.1
  unfold maxLen at hn0
  by_cases ha0 : a0 = none
  · subst ha0
    have HZ : Hid (n0 = 0) := hnil0 rfl
    clear hnil0
    have HE : Hid (dueB zs (-9223372036854775808) = false) := due_none (hlz.trans HZ.out) _
    have HE2 : Hid (dueB zs 9223372036854775807 = false) := due_none (hlz.trans HZ.out) _
    have hle0 : (n0 : Int) ≤ 0 := by have := HZ.out; omega
    by_cases ha1 : a1 = none
    · subst ha1
      have S0 := hR0.drewN m
      have S1 := hR1.drewN m
      have BB : Below w.heap.size w (w.drewN m) := below_drewN (Below.refl _ _) m
      go_wp2_with fail
      refine (zzdue_any _ _ _ _ _ zs ks _ _ (by omega) S0 S1).mono ?_
      rintro e w9 ⟨rfl, hb9⟩
      rw [HE.out]
      go_wp2_with fail
      refine (zzdue_any _ _ _ _ _ zs ks _ _ (by omega) (S0.later hb9) (S1.later hb9)).mono ?_
      rintro e w8 ⟨rfl, hb8⟩
      rw [HE2.out]
      go_wp2_with fail
      go_ret
      exact ⟨rfl, BB.trans ((hb9.trans (hb8.mono hb9.size)).mono BB.size)⟩

    · obtain ⟨x1, rfl⟩ := Option.ne_none_iff_exists'.1 ha1
      obtain ⟨w4, w5, r3, r4, S1, B1, L1⟩ := cloneS (w.drewN m) _ _ c1 ks (hR1.drewN m) (by omega)
      simp only [World.heap_drewN] at r3 r4 S1 B1 L1
      have S0 := (hR0.drewN m).later B1
      have BB : Below w.heap.size w w5 := (below_drewN (Below.refl _ _) m).trans B1
      go_wp2_with fail
      refine (zzdue_any _ _ _ _ _ zs ks _ _ (by omega) S0 S1).mono ?_
      rintro e w9 ⟨rfl, hb9⟩
      rw [HE.out]
      go_wp2_with fail
      refine (zzdue_any _ _ _ _ _ zs ks _ _ (by omega) (S0.later hb9) (S1.later hb9)).mono ?_
      rintro e w8 ⟨rfl, hb8⟩
      rw [HE2.out]
      go_wp2_with fail
      go_ret
      exact ⟨rfl, BB.trans ((hb9.trans (hb8.mono hb9.size)).mono BB.size)⟩

  · obtain ⟨x0, rfl⟩ := Option.ne_none_iff_exists'.1 ha0
    obtain ⟨w2, w3, r1, r2, T0, B0, L0⟩ := cloneI (w.drewN m) _ _ c0 zs (hR0.drewN m) (by omega)
    simp only [World.heap_drewN] at r1 r2 T0 B0 L0
    by_cases ha1 : a1 = none
    · subst ha1
      have S0 := T0
      have S1 := (hR1.drewN m).later B0
      have BB : Below w.heap.size w w3 := (below_drewN (Below.refl _ _) m).trans B0
      by_cases hz0 : n0 = 0
      · have HZ : Hid (n0 = 0) := hz0
        clear hz0
        have HE : Hid (dueB zs (-9223372036854775808) = false) := due_none (hlz.trans HZ.out) _
        have HE2 : Hid (dueB zs 9223372036854775807 = false) := due_none (hlz.trans HZ.out) _
        have hle0 : (n0 : Int) ≤ 0 := by have := HZ.out; omega
        go_wp2_with fail
        refine (zzdue_any _ _ _ _ _ zs ks _ _ (by omega) S0 S1).mono ?_
        rintro e w9 ⟨rfl, hb9⟩
        rw [HE.out]
        go_wp2_with fail
        refine (zzdue_any _ _ _ _ _ zs ks _ _ (by omega) (S0.later hb9) (S1.later hb9)).mono ?_
        rintro e w8 ⟨rfl, hb8⟩
        rw [HE2.out]
        go_wp2_with fail
        go_ret
        exact ⟨rfl, BB.trans ((hb9.trans (hb8.mono hb9.size)).mono BB.size)⟩

      · have hlast := S0.at0 (n0 - 1) (by omega)
        have hlz1 : n0 - 1 < zs.length := by omega
        have hpos : (0 : Int) < n0 := by omega
        have hne0 : ((n0 : Int) == 0) = false := by simp; omega
        go_wp2_with fail
        go_loop [7, 8] (fun t i => ∃ (k : Nat) (x : Int), k ≤ n0 ∧ i = .int .i64 k ∧ t = .int .i64 x ∧ MinTo zs k x) (fun _ i => n0 - (intOf i).toNat)
        case atStart => exact ⟨0, _, Nat.zero_le _, rfl, rfl, MinTo.start hlz1⟩
        case round =>
          obtain ⟨k, x, hk, rfl, rfl, HM⟩ := hrel
          by_cases hlt : k < n0
          · have hcell := S0.at0 k hlt
            have hkz : k < zs.length := by omega
            go_wp2_with fail
            · have hq : zs[k] < x := by assumption
              go_round
              case rel => exact ⟨k + 1, _, by omega, by go_num, rfl, HM.less hkz hq⟩
              case measure => simp [intOf]; omega
            · have hq : x ≤ zs[k] := by assumption
              go_round
              case rel => exact ⟨k + 1, _, by omega, by go_num, rfl, HM.more hkz hq⟩
              case measure => simp [intOf]; omega
          · have hkn : k = zs.length := by omega
            obtain ⟨D1, D2, D3, D4, D5⟩ := HM.ends hkn HH.out (by omega) hbd
            clear hkn HM hbd
            go_wp2_with fail
            refine (zzdue_any _ _ _ _ _ zs ks _ _ (by omega) S0 S1).mono ?_
            rintro e w9 ⟨rfl, hb9⟩
            rw [D1.out]
            go_wp2_with fail
            refine (zzdue_any _ _ _ _ _ zs ks _ _ (by omega) (S0.later hb9) (S1.later hb9)).mono ?_
            rintro e w8 ⟨rfl, hb8⟩
            rw [D2.out]
            have hb89 := hb9.trans (hb8.mono hb9.size)
            go_wp2_with fail
            · go_ret
              exact ⟨rfl, BB.trans (hb89.mono BB.size)⟩
            · have hne : (x == -9223372036854775808) = false := by assumption
              have HW : Hid (wrap64 (x - 1) = x - 1) := wrap_pred D4 D5 hne
              rw [HW.out]
              refine (zzdue_any _ _ _ _ _ zs ks _ _ (by omega) (S0.later hb89) (S1.later hb89)).mono ?_
              rintro e w7 ⟨rfl, hb7⟩
              rw [D3.out]
              go_wp2_with fail
              go_ret
              exact ⟨rfl, BB.trans ((hb89.trans (hb7.mono hb89.size)).mono BB.size)⟩

    · obtain ⟨x1, rfl⟩ := Option.ne_none_iff_exists'.1 ha1
      obtain ⟨w4, w5, r3, r4, S1, B1, L1⟩ := cloneS w3 _ _ c1 ks ((hR1.drewN m).later B0) (by omega)
      have S0 := T0.later B1
      have BB : Below w.heap.size w w5 := ((below_drewN (Below.refl _ _) m).trans B0).trans (B1.mono (Nat.le_of_lt L0))
      by_cases hz0 : n0 = 0
      · have HZ : Hid (n0 = 0) := hz0
        clear hz0
        have HE : Hid (dueB zs (-9223372036854775808) = false) := due_none (hlz.trans HZ.out) _
        have HE2 : Hid (dueB zs 9223372036854775807 = false) := due_none (hlz.trans HZ.out) _
        have hle0 : (n0 : Int) ≤ 0 := by have := HZ.out; omega
        go_wp2_with fail
        refine (zzdue_any _ _ _ _ _ zs ks _ _ (by omega) S0 S1).mono ?_
        rintro e w9 ⟨rfl, hb9⟩
        rw [HE.out]
        go_wp2_with fail
        refine (zzdue_any _ _ _ _ _ zs ks _ _ (by omega) (S0.later hb9) (S1.later hb9)).mono ?_
        rintro e w8 ⟨rfl, hb8⟩
        rw [HE2.out]
        go_wp2_with fail
        go_ret
        exact ⟨rfl, BB.trans ((hb9.trans (hb8.mono hb9.size)).mono BB.size)⟩

      · have hlast := S0.at0 (n0 - 1) (by omega)
        have hlz1 : n0 - 1 < zs.length := by omega
        have hpos : (0 : Int) < n0 := by omega
        have hne0 : ((n0 : Int) == 0) = false := by simp; omega
        go_wp2_with fail
        go_loop [7, 8] (fun t i => ∃ (k : Nat) (x : Int), k ≤ n0 ∧ i = .int .i64 k ∧ t = .int .i64 x ∧ MinTo zs k x) (fun _ i => n0 - (intOf i).toNat)
        case atStart => exact ⟨0, _, Nat.zero_le _, rfl, rfl, MinTo.start hlz1⟩
        case round =>
          obtain ⟨k, x, hk, rfl, rfl, HM⟩ := hrel
          by_cases hlt : k < n0
          · have hcell := S0.at0 k hlt
            have hkz : k < zs.length := by omega
            go_wp2_with fail
            · have hq : zs[k] < x := by assumption
              go_round
              case rel => exact ⟨k + 1, _, by omega, by go_num, rfl, HM.less hkz hq⟩
              case measure => simp [intOf]; omega
            · have hq : x ≤ zs[k] := by assumption
              go_round
              case rel => exact ⟨k + 1, _, by omega, by go_num, rfl, HM.more hkz hq⟩
              case measure => simp [intOf]; omega
          · have hkn : k = zs.length := by omega
            obtain ⟨D1, D2, D3, D4, D5⟩ := HM.ends hkn HH.out (by omega) hbd
            clear hkn HM hbd
            go_wp2_with fail
            refine (zzdue_any _ _ _ _ _ zs ks _ _ (by omega) S0 S1).mono ?_
            rintro e w9 ⟨rfl, hb9⟩
            rw [D1.out]
            go_wp2_with fail
            refine (zzdue_any _ _ _ _ _ zs ks _ _ (by omega) (S0.later hb9) (S1.later hb9)).mono ?_
            rintro e w8 ⟨rfl, hb8⟩
            rw [D2.out]
            have hb89 := hb9.trans (hb8.mono hb9.size)
            go_wp2_with fail
            · go_ret
              exact ⟨rfl, BB.trans (hb89.mono BB.size)⟩
            · have hne : (x == -9223372036854775808) = false := by assumption
              have HW : Hid (wrap64 (x - 1) = x - 1) := wrap_pred D4 D5 hne
              rw [HW.out]
              refine (zzdue_any _ _ _ _ _ zs ks _ _ (by omega) (S0.later hb89) (S1.later hb89)).mono ?_
              rintro e w7 ⟨rfl, hb7⟩
              rw [D3.out]
              go_wp2_with fail
              go_ret
              exact ⟨rfl, BB.trans ((hb89.trans (hb7.mono hb89.size)).mono BB.size)⟩

end Go.Proofs.Qxb6612247a
