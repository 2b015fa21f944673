/-
  Seat b6612247a: FnEachDueVisitsTheSubtreeEntriesWhoseAncestorsAreAllDue (6): the walk.
-/
import Derived.Test.Qxb6612247aWalkF
namespace Go.Proofs.Qxb6612247a
open Go.RowKit

/-- One step up: entry p is due. -/
theorem climb_yes {due : Nat → Bool} {i p : Nat} {b r : Bool} (h : r = (b && reach due i p)) (hp : i < p) (hd : due p = true) : r = (b && reach due i ((p - 1) / 2)) := by
  rw [h, reach_up due i p hp, hd]
  simp
/-- One step up: entry p is not due. -/
theorem climb_no {due : Nat → Bool} {i p : Nat} {b r : Bool} (h : r = (b && reach due i p)) (hp : i < p) (hd : due p = false) : r = (false && reach due i ((p - 1) / 2)) := by
  rw [h, reach_up due i p hp, hd]
  simp
theorem climb_off {due : Nat → Bool} {i p : Nat} {b r : Bool} (h : r = (b && reach due i p)) (hp : p < i) : r = false := by
  rw [h, reach_end due i p (by omega)]
  have : (p == i) = false := by simp; omega
  simp [this]
theorem climb_end {due : Nat → Bool} {i : Nat} {b r : Bool} (h : r = (b && reach due i i)) : r = (b && due i) := by
  rw [h, reach_end due i i (by omega)]
  simp

set_option maxHeartbeats 800000 in
theorem law4_any (a0 : Option Addr) (n0 c0 : Nat) (a1 : Option Addr) (n1 c1 : Nat) (zs : List Int) (ks : List ByteArray) (i now : Int) (w0 : World) (hn0 : n0 ≤ maxLen) (hn1 : n1 ≤ maxLen)
    (hR0 : RowI w0 a0 n0 zs) (hR1 : RowS w0 a1 n1 ks) (hnil0 : a0 = none → n0 = 0) (_hbd : ∀ z ∈ zs, -9223372036854775808 ≤ z ∧ z ≤ 9223372036854775807) (_hi : -9223372036854775808 ≤ i ∧ i ≤ 9223372036854775807) (_hnow : -9223372036854775808 ≤ now ∧ now ≤ 9223372036854775807) :
    Calls Try.prog 6 #[.slice a0 n0 c0, .slice a1 n1 c1, .int .i64 i, .int .i64 now] w0 fun e w' => e = .returned (.bool true) ∧ Below w0.heap.size w0 w' := by
  have hnnI := fun (w : World) (a : Option Addr) (n c : Nat) => run_neq_slice_nil_any (P := Try.prog) w 22 2 a n c 0 0 Try.underlying22
  have hnnS := fun (w : World) (a : Option Addr) (n c : Nat) => run_neq_slice_nil_any (P := Try.prog) w 23 9 a n c 0 0 Try.underlying23
  obtain ⟨i2, hi2, hz20, hz21, hz22⟩ := info_parts Try.info2
  obtain ⟨i9, hi9, hz90, hz91, hz92⟩ := info_parts Try.info9
  go_enter Try.func6, Try.ntmps6
  go_wp2_with fail
  refine (bytes15_any _ _ _ _ _ _ ks _ _ _ hn0 hn1 hR1).mono ?_
  rintro e w ⟨⟨t, rfl⟩, rfl⟩
  cases t with
  | false =>
    go_wp2_with fail
    go_ret
    exact ⟨rfl, Below.refl _ _⟩
  | true =>
  go_wp2_with fail
  refine (big_any _ _ _ _ _ _ ks _ hn0 hn1 hR1).mono ?_
  rintro e w ⟨⟨t, rfl, hbig⟩, rfl⟩
  cases t with
  | true =>
    go_wp2_with fail
    go_ret
    exact ⟨rfl, Below.refl _ _⟩
  | false =>
  have hnb := hbig rfl
  clear hbig
  by_cases hne : n0 = n1
  case neg =>
    go_wp2_with fail
    go_ret
    exact ⟨rfl, Below.refl _ _⟩
  subst hne
  by_cases hq : (4096 : Int) < n0
  · go_wp2_with fail
    go_ret
    exact ⟨rfl, Below.refl _ _⟩
  by_cases hi0 : i < 0
  · go_wp2_with fail
    go_ret
    exact ⟨rfl, Below.refl _ _⟩
  obtain ⟨iN, rfl⟩ : ∃ iN : Nat, i = iN := ⟨i.toNat, by omega⟩
  have hlz := hR0.1
  unfold maxLen at hn0
  by_cases ha0 : a0 = none
  · subst ha0
    have HZ : Hid (n0 = 0) := hnil0 rfl
    clear hnil0
    by_cases ha1 : a1 = none
    · subst ha1
      have S0 := hR0
      have S1 := hR1
      have BB : Below w.heap.size w w := Below.refl _ _
      go_wp2_with fail
      go_loopw [11, 12, 13, 14, 15] (fun v1 v2 i _ _ wr => ∃ (k : Nat) (js : List Nat) (m : Nat) (x1 : Option Addr) (c1 : Nat) (x2 : Option Addr) (c2 : Nat), k ≤ n0 ∧ i = .int .i64 k ∧ v1 = .slice x1 m c1 ∧ v2 = .slice x2 m c2 ∧ Hid (js = (List.range k).filter (reach (dueAt zs now) iN)) ∧ WantSt w wr w.heap.size zs ks js m x1 c1 x2 c2) (fun _ _ i _ _ _ => n0 - (intOf i).toNat)
      case atStart => exact ⟨0, [], 0, none, 0, none, 0, Nat.zero_le _, rfl, rfl, rfl, rfl, WantSt.start _ _ _⟩
      case round =>
        obtain ⟨k, js, m, x1, c1, x2, c2, hk, rfl, rfl, rfl, HJ, hW⟩ := hrel
        by_cases hlt : k < n0
        · exact absurd hlt (by rw [HZ.out]; omega)
        · have HR : Hid ((List.range k).filter (reach (dueAt zs now) iN) = (List.range n0).filter (reach (dueAt zs now) iN)) := by
            show _ = _
            rw [show k = n0 from by omega]
          go_wp2_with fail
          refine (zzeach_any _ _ _ _ _ zs ks iN now _ (by omega) (S0.later hW.below) (S1.later hW.below)).mono ?_
          rintro e w9 ⟨y1, e1, y2, e2, q, rfl, G0, G1, hb9⟩
          obtain ⟨A1, A2⟩ := agree (HJ.out.trans HR.out) G0.1
          have hmq : m = q := hW.len.symm.trans A1
          have L0 := hW.rowI.later hb9
          have L1 := hW.rowS.later hb9
          rw [hmq] at L0 L1 ⊢
          have hq9 : q ≤ 1000000 := by rw [← hmq, ← hW.len, HJ.out]; have := range_filter_len (reach (dueAt zs now) iN) k; omega
          go_wp2_with fail
          refine (same_any _ _ _ _ _ _ _ _ _ _ _ _ _ _ hq9 G0 G1 L0 L1 A2).mono ?_
          rintro e w8 ⟨rfl, hb8⟩
          go_wp2_with fail
          go_ret
          exact ⟨rfl, ((BB.trans (hW.below.mono BB.size)).trans (hb9.mono (Nat.le_trans BB.size hW.size))).trans (hb8.mono (Nat.le_trans BB.size (Nat.le_trans hW.size hb9.size)))⟩

    · obtain ⟨x1, rfl⟩ := Option.ne_none_iff_exists'.1 ha1
      obtain ⟨w4, w5, r3, r4, S1, B1, L1⟩ := cloneS w _ _ c1 ks hR1 (by omega)
      have S0 := hR0.later B1
      have BB : Below w.heap.size w w5 := B1
      go_wp2_with fail
      go_loopw [11, 12, 13, 14, 15] (fun v1 v2 i _ _ wr => ∃ (k : Nat) (js : List Nat) (m : Nat) (x1 : Option Addr) (c1 : Nat) (x2 : Option Addr) (c2 : Nat), k ≤ n0 ∧ i = .int .i64 k ∧ v1 = .slice x1 m c1 ∧ v2 = .slice x2 m c2 ∧ Hid (js = (List.range k).filter (reach (dueAt zs now) iN)) ∧ WantSt w5 wr w5.heap.size zs ks js m x1 c1 x2 c2) (fun _ _ i _ _ _ => n0 - (intOf i).toNat)
      case atStart => exact ⟨0, [], 0, none, 0, none, 0, Nat.zero_le _, rfl, rfl, rfl, rfl, WantSt.start _ _ _⟩
      case round =>
        obtain ⟨k, js, m, x1, c1, x2, c2, hk, rfl, rfl, rfl, HJ, hW⟩ := hrel
        by_cases hlt : k < n0
        · exact absurd hlt (by rw [HZ.out]; omega)
        · have HR : Hid ((List.range k).filter (reach (dueAt zs now) iN) = (List.range n0).filter (reach (dueAt zs now) iN)) := by
            show _ = _
            rw [show k = n0 from by omega]
          go_wp2_with fail
          refine (zzeach_any _ _ _ _ _ zs ks iN now _ (by omega) (S0.later hW.below) (S1.later hW.below)).mono ?_
          rintro e w9 ⟨y1, e1, y2, e2, q, rfl, G0, G1, hb9⟩
          obtain ⟨A1, A2⟩ := agree (HJ.out.trans HR.out) G0.1
          have hmq : m = q := hW.len.symm.trans A1
          have L0 := hW.rowI.later hb9
          have L1 := hW.rowS.later hb9
          rw [hmq] at L0 L1 ⊢
          have hq9 : q ≤ 1000000 := by rw [← hmq, ← hW.len, HJ.out]; have := range_filter_len (reach (dueAt zs now) iN) k; omega
          go_wp2_with fail
          refine (same_any _ _ _ _ _ _ _ _ _ _ _ _ _ _ hq9 G0 G1 L0 L1 A2).mono ?_
          rintro e w8 ⟨rfl, hb8⟩
          go_wp2_with fail
          go_ret
          exact ⟨rfl, ((BB.trans (hW.below.mono BB.size)).trans (hb9.mono (Nat.le_trans BB.size hW.size))).trans (hb8.mono (Nat.le_trans BB.size (Nat.le_trans hW.size hb9.size)))⟩

  · obtain ⟨x0, rfl⟩ := Option.ne_none_iff_exists'.1 ha0
    obtain ⟨w2, w3, r1, r2, T0, B0, L0⟩ := cloneI w _ _ c0 zs hR0 (by omega)
    by_cases ha1 : a1 = none
    · subst ha1
      have S0 := T0
      have S1 := hR1.later B0
      have BB : Below w.heap.size w w3 := B0
      go_wp2_with fail
      go_loopw [11, 12, 13, 14, 15] (fun v1 v2 i _ _ wr => ∃ (k : Nat) (js : List Nat) (m : Nat) (x1 : Option Addr) (c1 : Nat) (x2 : Option Addr) (c2 : Nat), k ≤ n0 ∧ i = .int .i64 k ∧ v1 = .slice x1 m c1 ∧ v2 = .slice x2 m c2 ∧ Hid (js = (List.range k).filter (reach (dueAt zs now) iN)) ∧ WantSt w3 wr w3.heap.size zs ks js m x1 c1 x2 c2) (fun _ _ i _ _ _ => n0 - (intOf i).toNat)
      case atStart => exact ⟨0, [], 0, none, 0, none, 0, Nat.zero_le _, rfl, rfl, rfl, rfl, WantSt.start _ _ _⟩
      case round =>
        obtain ⟨k, js, m, x1, c1, x2, c2, hk, rfl, rfl, rfl, HJ, hW⟩ := hrel
        by_cases hlt : k < n0
        · exact absurd (S1.2 (by omega)) (fun ⟨_, _, h, _⟩ => by cases h)
        · have HR : Hid ((List.range k).filter (reach (dueAt zs now) iN) = (List.range n0).filter (reach (dueAt zs now) iN)) := by
            show _ = _
            rw [show k = n0 from by omega]
          go_wp2_with fail
          refine (zzeach_any _ _ _ _ _ zs ks iN now _ (by omega) (S0.later hW.below) (S1.later hW.below)).mono ?_
          rintro e w9 ⟨y1, e1, y2, e2, q, rfl, G0, G1, hb9⟩
          obtain ⟨A1, A2⟩ := agree (HJ.out.trans HR.out) G0.1
          have hmq : m = q := hW.len.symm.trans A1
          have L0 := hW.rowI.later hb9
          have L1 := hW.rowS.later hb9
          rw [hmq] at L0 L1 ⊢
          have hq9 : q ≤ 1000000 := by rw [← hmq, ← hW.len, HJ.out]; have := range_filter_len (reach (dueAt zs now) iN) k; omega
          go_wp2_with fail
          refine (same_any _ _ _ _ _ _ _ _ _ _ _ _ _ _ hq9 G0 G1 L0 L1 A2).mono ?_
          rintro e w8 ⟨rfl, hb8⟩
          go_wp2_with fail
          go_ret
          exact ⟨rfl, ((BB.trans (hW.below.mono BB.size)).trans (hb9.mono (Nat.le_trans BB.size hW.size))).trans (hb8.mono (Nat.le_trans BB.size (Nat.le_trans hW.size hb9.size)))⟩

    · obtain ⟨x1, rfl⟩ := Option.ne_none_iff_exists'.1 ha1
      obtain ⟨w4, w5, r3, r4, S1, B1, L1⟩ := cloneS w3 _ _ c1 ks (hR1.later B0) (by omega)
      have S0 := T0.later B1
      have BB : Below w.heap.size w w5 := B0.trans (B1.mono (Nat.le_of_lt L0))
      go_wp2_with fail
      go_loopw [11, 12, 13, 14, 15] (fun v1 v2 i _ _ wr => ∃ (k : Nat) (js : List Nat) (m : Nat) (x1 : Option Addr) (c1 : Nat) (x2 : Option Addr) (c2 : Nat), k ≤ n0 ∧ i = .int .i64 k ∧ v1 = .slice x1 m c1 ∧ v2 = .slice x2 m c2 ∧ Hid (js = (List.range k).filter (reach (dueAt zs now) iN)) ∧ WantSt w5 wr w5.heap.size zs ks js m x1 c1 x2 c2) (fun _ _ i _ _ _ => n0 - (intOf i).toNat)
      case atStart => exact ⟨0, [], 0, none, 0, none, 0, Nat.zero_le _, rfl, rfl, rfl, rfl, WantSt.start _ _ _⟩
      case round =>
        obtain ⟨k, js, m, x1, c1, x2, c2, hk, rfl, rfl, rfl, HJ, hW⟩ := hrel
        by_cases hlt : k < n0
        · have fz : ∀ j, j < n0 → wr.cell? ⟨w.heap.size, j, none⟩ = some (.int .i64 (zs.getD j 0)) := fun j hj => (S0.later hW.below).at0 j hj
          go_wp2_with fail
          go_loop [14, 15] (fun a ok => ∃ (p : Nat) (b : Bool), p ≤ k ∧ a = .int .i64 p ∧ ok = .bool b ∧ Hid (reach (dueAt zs now) iN k = (b && reach (dueAt zs now) iN p))) (fun a _ => (intOf a).toNat)
          case atStart => exact ⟨k, true, Nat.le_refl _, rfl, rfl, (Bool.true_and _).symm⟩
          case round =>
            obtain ⟨p, b, hpk, rfl, rfl, HC⟩ := hrel
            by_cases hip : iN < p
            · obtain ⟨z, hz⟩ : ∃ z, z = zs.getD p 0 := ⟨_, rfl⟩
              have q1 : wr.cell? ⟨w.heap.size, p, none⟩ = some (.int .i64 z) := by rw [hz]; exact fz p (by omega)
              have HZ : Hid (z = zs.getD p 0) := hz
              clear hz
              by_cases hd : z ≤ now
              · have HC2 : Hid (reach (dueAt zs now) iN k = (b && reach (dueAt zs now) iN ((p - 1) / 2))) := climb_yes HC.out hip (by unfold dueAt; rw [← HZ.out]; exact decide_eq_true hd)
                go_wp2_with fail
                go_round
                case rel => exact ⟨(p - 1) / 2, b, by omega, by go_num, rfl, HC2⟩
                case measure => simp [intOf]; omega
              · have HC2 : Hid (reach (dueAt zs now) iN k = (false && reach (dueAt zs now) iN ((p - 1) / 2))) := climb_no HC.out hip (by unfold dueAt; rw [← HZ.out]; exact decide_eq_false hd)
                go_wp2_with fail
                go_round
                case rel => exact ⟨(p - 1) / 2, false, by omega, by go_num, rfl, HC2⟩
                case measure => simp [intOf]; omega
            · by_cases hpi : p < iN
              · have hsel := climb_off HC.out hpi
                have HJ2 : Hid (js = (List.range (k + 1)).filter (reach (dueAt zs now) iN)) := by show _ = _; rw [range_filter_no _ _ hsel]; exact HJ.out
                clear hsel
                go_wp2_with fail
                go_roundw
                case rel => exact ⟨k + 1, js, m, x1, c1, x2, c2, by omega, by go_num, rfl, rfl, HJ2, hW⟩
                case measure => simp [intOf]; omega
              · obtain rfl : p = iN := by omega
                obtain ⟨z, hz⟩ : ∃ z, z = zs.getD p 0 := ⟨_, rfl⟩
                have q1 : wr.cell? ⟨w.heap.size, p, none⟩ = some (.int .i64 z) := by rw [hz]; exact fz p (by omega)
                have HZ : Hid (z = zs.getD p 0) := hz
                clear hz
                have HE := climb_end HC.out
                have HEE : Hid (reach (dueAt zs now) p k = (b && dueAt zs now p)) := HE
                clear HE
                by_cases hsel : b = true ∧ z ≤ now
                · obtain ⟨rfl, hd⟩ := hsel
                  have hsel : Hid (reach (dueAt zs now) p k = true) := by show _ = _; rw [HEE.out]; unfold dueAt; rw [← HZ.out, decide_eq_true hd]; rfl
                  obtain ⟨zk, hzk⟩ : ∃ z, z = zs.getD k 0 := ⟨_, rfl⟩
                  obtain ⟨s, hs⟩ : ∃ s, s = ks.getD k ByteArray.empty := ⟨_, rfl⟩
                  have HK : Hid (zk = zs.getD k 0) := hzk
                  have HS : Hid (s = ks.getD k ByteArray.empty) := hs
                  have q3 : wr.cell? ⟨w.heap.size, k, none⟩ = some (.int .i64 zk) := by rw [hzk]; exact fz k hlt
                  have fs : ∀ W, Below w5.heap.size w5 W → W.cell? ⟨w3.heap.size, k, none⟩ = some (.string s) := fun W hb => by rw [hs]; exact (S1.later hb).at0 k hlt
                  clear hzk hs
                  have hml : m ≤ k := by rw [← hW.len, HJ.out]; exact range_filter_len _ _
                  have hBs := hW.size
                  clear fz
                  go_wp2_with (at_builtin; refine wpList_append_own _ rfl (.tmp 86) (.tmp 91) 22 rfl w5.heap.size 2 i2 (.int .i64 0) 1 8 Try.underlying22 hi2 hz20 hz21 hz22 rfl (by decide) _ _ _ rfl (hW.own1.alloc _) ⟨wr.heap.size, 0, none⟩ 1 1 [.int .i64 zk] rfl rfl ?c1 ?c2 ?c3 ?c4 ?c5 ?_)
                  case c2 => first | rfl | (intro u hu; simp at hu; subst hu; rfl)
                  case c3 => first | omega | (unfold maxLen; omega)
                  case c4 => omega
                  case c5 => first | omega | (simp; omega)
                  intro v1 w6 ho1 hg1 _
                  obtain ⟨y1, d1, hv1⟩ := own_shape ho1
                  subst hv1
                  obtain ⟨T1, T2, T3⟩ := hW.mid hg1
                  have q2 := fs w6 T2
                  have HO1 : Hid (w6.ownsRow w5.heap.size 2 1 (.slice y1 (m + 1) d1) (m + 1) ((js.map fun j => .int .i64 (zs.getD j 0)) ++ [.int .i64 zk])) := ho1
                  clear ho1 hg1 q1 q3
                  go_wp2_with (at_builtin; refine wpList_append_own _ rfl (.tmp 93) (.tmp 98) 23 rfl w5.heap.size 9 i9 (.string ByteArray.empty) 1 16 Try.underlying23 hi9 hz90 hz91 hz92 rfl (by decide) _ _ _ rfl (T1.alloc _) ⟨w6.heap.size, 0, none⟩ 1 1 [.string s] rfl rfl ?d1 ?d2 ?d3 ?d4 ?d5 ?_)
                  case d1 =>
                    intro j u hj
                    match j, hj with
                    | 0, hj => simp at hj; subst hj; simp [Addr.add]
                  case d2 => first | rfl | (intro u hu; simp at hu; subst hu; rfl)
                  case d3 => first | omega | (unfold maxLen; omega)
                  case d4 => omega
                  case d5 => first | omega | (simp; omega)
                  intro v2 w7 ho2 hg2 _
                  obtain ⟨y2, d2, hv2⟩ := own_shape ho2
                  subst hv2
                  have N := WantSt.next hW.len HO1.out T1 T2 T3 hg2 ho2 HK.out HS.out
                  have HJ2 : Hid (js ++ [k] = (List.range (k + 1)).filter (reach (dueAt zs now) p)) := by show _ = _; rw [range_filter_yes _ _ hsel.out, HJ.out]
                  clear ho2 hg2 HO1 T1 q2
                  go_wp2_with fail
                  go_roundw
                  case rel => exact ⟨k + 1, js ++ [k], m + 1, y1, d1, y2, d2, by omega, by go_num, rfl, rfl, HJ2, N⟩
                  case measure => simp [intOf]; omega
                · have hno : Hid (reach (dueAt zs now) p k = false) := by
                    show _ = _
                    rw [HEE.out]
                    unfold dueAt
                    rw [← HZ.out]
                    by_cases hd : z ≤ now
                    · cases b with
                      | false => rfl
                      | true => exact absurd ⟨rfl, hd⟩ hsel
                    · rw [decide_eq_false hd, Bool.and_false]
                  have HJ2 : Hid (js = (List.range (k + 1)).filter (reach (dueAt zs now) p)) := by show _ = _; rw [range_filter_no _ _ hno.out]; exact HJ.out
                  by_cases hd : z ≤ now
                  · obtain rfl : b = false := by
                      cases b with
                      | false => rfl
                      | true => exact absurd ⟨rfl, hd⟩ hsel
                    clear hsel
                    go_wp2_with fail
                    go_roundw
                    case rel => exact ⟨k + 1, js, m, x1, c1, x2, c2, by omega, by go_num, rfl, rfl, HJ2, hW⟩
                    case measure => simp [intOf]; omega
                  · clear hsel
                    go_wp2_with fail
                    go_roundw
                    case rel => exact ⟨k + 1, js, m, x1, c1, x2, c2, by omega, by go_num, rfl, rfl, HJ2, hW⟩
                    case measure => simp [intOf]; omega
        · have HR : Hid ((List.range k).filter (reach (dueAt zs now) iN) = (List.range n0).filter (reach (dueAt zs now) iN)) := by
            show _ = _
            rw [show k = n0 from by omega]
          go_wp2_with fail
          refine (zzeach_any _ _ _ _ _ zs ks iN now _ (by omega) (S0.later hW.below) (S1.later hW.below)).mono ?_
          rintro e w9 ⟨y1, e1, y2, e2, q, rfl, G0, G1, hb9⟩
          obtain ⟨A1, A2⟩ := agree (HJ.out.trans HR.out) G0.1
          have hmq : m = q := hW.len.symm.trans A1
          have L0 := hW.rowI.later hb9
          have L1 := hW.rowS.later hb9
          rw [hmq] at L0 L1 ⊢
          have hq9 : q ≤ 1000000 := by rw [← hmq, ← hW.len, HJ.out]; have := range_filter_len (reach (dueAt zs now) iN) k; omega
          go_wp2_with fail
          refine (same_any _ _ _ _ _ _ _ _ _ _ _ _ _ _ hq9 G0 G1 L0 L1 A2).mono ?_
          rintro e w8 ⟨rfl, hb8⟩
          go_wp2_with fail
          go_ret
          exact ⟨rfl, ((BB.trans (hW.below.mono BB.size)).trans (hb9.mono (Nat.le_trans BB.size hW.size))).trans (hb8.mono (Nat.le_trans BB.size (Nat.le_trans hW.size hb9.size)))⟩

end Go.Proofs.Qxb6612247a
