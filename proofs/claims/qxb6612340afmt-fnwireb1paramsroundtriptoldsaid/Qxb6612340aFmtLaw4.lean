/-
  Seat b6612340aF: FnWireB1ParamsRoundTrip (6): the walk.
-/
import Derived.Test.Qxb6612340aFmtLaw1
namespace Go.Proofs.Qxb6612340aFmt
open Go.RowKit Go.Extern.Stop Go.Stop Go.Extern

theorem RowB.cells {w : World} {x : Option Addr} {n : Nat} {zs : List Int} (h : RowB w x n zs) : ∀ ad, x = some ad → ∀ j u, (zs.map (Value.int .u8))[j]? = some u → w.cell? (ad.add j) = some u := by
  rintro ad rfl j u hj
  rw [List.getElem?_map, Option.map_eq_some_iff] at hj
  obtain ⟨z, hz, rfl⟩ := hj
  have hl : j < zs.length := (List.getElem?_eq_some_iff.1 hz).1
  have hn := h.1
  obtain ⟨b, o, e, hc⟩ := h.2 (by omega)
  cases e
  rw [Addr.add_lit, hc j (by omega)]
  simp [List.getD, hz]

theorem rowB_own {w : World} {B g n c : Nat} {zs : List Int} (h : w.ownsRow B 5 1 (.slice (some ⟨g, 0, none⟩) n c) n (zs.map (Value.int .u8))) : RowB w (some ⟨g, 0, none⟩) n zs := by
  have hl : zs.length = n := by simpa using h.1
  refine ⟨hl, fun hn => ⟨g, 0, rfl, fun j hj => ?_⟩⟩
  rw [Nat.zero_add, h.cellAt j (by omega)]
  have : j < zs.length := by omega
  simp [this]

theorem body_list (nq : Nat) (zq zt : List Int) : [Value.int .u8 (nq : Int)] ++ zq.map (Value.int .u8) ++ zt.map (Value.int .u8) = ((nq : Int) :: (zq ++ zt)).map (Value.int .u8) := by simp

set_option maxRecDepth 4000 in
set_option maxHeartbeats 1000000 in
theorem law4_any (F : Interp) (a0 : Option Addr) (nq cq : Nat) (zq : List Int) (a1 : Option Addr) (nt ct : Nat) (zt : List Int) (a : Addr) (s : ByteArray) (w0 : World) (hE : Env F w0 a s) (hnq : nq ≤ maxLen) (hnt : nt ≤ maxLen)
    (hR0 : RowB w0 a0 nq zq) (hR1 : RowB w0 a1 nt zt) (hn0 : a0 = none → nq = 0 ∧ cq = 0) (hn1 : a1 = none → nt = 0 ∧ ct = 0) :
    Calls Tryf.prog 6 #[.slice a0 nq cq, .slice a1 nt ct] w0 fun e w' => e = .returned (.bool true) ∧ Below w0.heap.size w0 w' := by
  have hnn := fun (w : World) (a : Option Addr) (n c : Nat) => Lib.run_eql_slice_nil (P := Tryf.prog) w 22 5 a n c 0 0 Tryf.underlying22
  obtain ⟨i5, hi5, hz50, hz51, hz52⟩ := info_parts Tryf.info5
  have HN0 := hide_prop hn0
  have HN1 := hide_prop hn1
  clear hn0 hn1
  go_enter Tryf.func6, Tryf.ntmps6
  go_wp2_with fail
  refine (bytes19_any _ _ _ _ _ _ _ hnq hnt).mono ?_
  rintro e w ⟨⟨t, rfl⟩, rfl⟩
  cases t with
  | false =>
    go_wp2_with fail
    go_ret
    exact ⟨rfl, Below.refl _ _⟩
  | true =>
  by_cases hq : (255 : Int) < nq
  · go_wp2_with fail
    go_ret
    exact ⟨rfl, Below.refl _ _⟩
  by_cases ht : (1048576 : Int) < nt
  · go_wp2_with fail
    go_ret
    exact ⟨rfl, Below.refl _ _⟩
  have hq2 : nq ≤ 255 := by omega
  have ht2 : nt ≤ 1048576 := by omega
  go_wp2_with (at_make; refine wpList_make_own _ rfl _ _ 22 rfl w.heap.size 5 i5 (.int .u8 0) 1 Tryf.underlying22 hi5 hz50 hz51 _ _ _ (1 + nq + nt) rfl rfl (by omega) (by rw [hz52]; omega) (by unfold maxLen; omega) (Nat.le_refl _) ?_)
  intro w1 ho1 hg1
  have b1 : Below w.heap.size w w1 := (Below.refl _ _).grown hg1 (Nat.le_refl _) (fun k hk => by cases hk)
  have s1 : w.heap.size < w1.heap.size := (ho1.lt _ rfl).2
  clear hg1
  go_wp2_with (at_builtin; refine wpList_append_fits _ rfl (.tmp 27) (.tmp 31) 22 rfl w.heap.size 5 i5 1 Tryf.underlying22 hi5 hz51 w.heap.size 0 (1 + nq + nt) [] rfl (ho1.alloc _) ⟨w1.heap.size, 0, none⟩ 1 1 [.int .u8 nq] rfl rfl ?c1 ?c2 ?c3 ?_)
  case c1 =>
    intro j u hj
    match j, hj with
    | 0, hj => simp at hj; subst hj; simp [Addr.add]
  case c2 => intro u hu; simp at hu; subst hu; rfl
  case c3 => omega
  intro w2 ho2 hg2
  have b2 : Below w.heap.size w w2 := (b1.alloc (Nat.le_of_lt s1) _).grown hg2 (by simp; omega) (fun k hk => by cases hk; exact Nat.le_refl _)
  have s2 : w.heap.size < w2.heap.size := (ho2.lt _ rfl).2
  have q2 := (hR0.later b2).cells
  have HQ2 := hide_prop q2
  clear hg2 ho1 q2
  have lq : (zq.map (Value.int .u8)).length = nq * 1 := by have := hR0.1; simp; omega
  have LQ := hide_prop lq
  have lt : (zt.map (Value.int .u8)).length = nt * 1 := by have := hR1.1; simp; omega
  have LT := hide_prop lt
  clear lq lt
  go_wp2_with (at_builtin; refine wpList_append_fits_any _ rfl (.tmp 33) (.tmp 34) 22 rfl w.heap.size 5 i5 1 Tryf.underlying22 hi5 hz51 w.heap.size 1 (1 + nq + nt) [.int .u8 nq] rfl ho2 a0 nq cq (zq.map (Value.int .u8)) rfl LQ.out HN0.out HQ2.out (ints_oneCell _ _) ?e3 ?_)
  case e3 => omega
  intro w3 ho3 hg3
  have b3 : Below w.heap.size w w3 := b2.grown hg3 (Nat.le_of_lt s2) (fun k hk => by cases hk; exact Nat.le_refl _)
  have s3 : w.heap.size < w3.heap.size := (ho3.lt _ rfl).2
  have q3 := (hR1.later b3).cells
  have HQ3 := hide_prop q3
  clear hg3 ho2 q3
  go_wp2_with (at_builtin; refine wpList_append_fits_any _ rfl (.tmp 36) (.tmp 37) 22 rfl w.heap.size 5 i5 1 Tryf.underlying22 hi5 hz51 w.heap.size (1 + nq) (1 + nq + nt) _ rfl ho3 a1 nt ct (zt.map (Value.int .u8)) rfl LT.out HN1.out HQ3.out (ints_oneCell _ _) (Nat.le_refl _) ?_)
  intro W1 ho4 hg4
  have hB : Below w.heap.size w W1 := b3.grown hg4 (Nat.le_of_lt s3) (fun k hk => by cases hk; exact Nat.le_refl _)
  have hlt : w.heap.size < W1.heap.size := (ho4.lt _ rfl).2
  have hRow : RowB W1 (some ⟨w.heap.size, 0, none⟩) (1 + nq + nt) ((nq : Int) :: (zq ++ zt)) := rowB_own (by simpa using ho4)
  have P0 : RowB W1 a0 nq zq := hR0.later hB
  have P1 : RowB W1 a1 nt zt := hR1.later hB
  have LZ : Hid (zq.length = nq) := hR0.1
  clear ho4 hg4 ho3 hR0 hR1 b1 b2 b3 HQ2 HQ3 LQ LT s1 s2 s3
  go_wp2_with fail
  refine (new10 (some ⟨w.heap.size, 0, none⟩) (1 + nq + nt) (1 + nq + nt) W1).mono ?_
  rintro e W2 ⟨rfl, rfl⟩
  have E2 : Env2 F (W1.alloc (.cells #[.slice (some ⟨w.heap.size, 0, none⟩) (1 + nq + nt) (1 + nq + nt), .nilIface] 47)) a s W1.heap.size := hE.two (hB.alloc hB.size _) hB.size
  have d1 : Dec (W1.alloc (.cells #[.slice (some ⟨w.heap.size, 0, none⟩) (1 + nq + nt) (1 + nq + nt), .nilIface] 47)) W1.heap.size (some ⟨w.heap.size, 0, none⟩) (nq + nt + 1) (nq + nt + 1) .nilIface := by
    have e : nq + nt + 1 = 1 + nq + nt := by omega
    rw [e]
    exact dec_new _ _ _ _
  have hne : w.heap.size ≠ W1.heap.size := by omega
  have q0 : W1.cell? ⟨w.heap.size, 0, none⟩ = some (.int .u8 nq) := by simpa using hRow.at 0 (by omega)
  have hm : nq + nt + 1 ≤ maxLen := by unfold maxLen; omega
  by_cases hk0 : nq = 0
  · subst hk0
    have hzq : zq = [] := List.length_eq_zero_iff.1 LZ.out
    subst hzq
    go_wp2_with fail
    refine (zparams_zero F W1.heap.size w.heap.size 0 (0 + nt) (0 + nt) a s _ d1 (Nat.le_refl _) hm hne ((World.cell?_alloc_lt _ _ _ hlt).trans q0) E2).mono ?_
    rintro e w2 ⟨rfl, o', v, d2, ho, g2⟩
    rw [Nat.zero_add] at d2 ho
    have HO := hide_prop ho
    clear ho
    have R2 := hRow.passD g2
    have T1 : RowB w2 (some ⟨w.heap.size, o', none⟩) nt zt := by
      have e : 1 + 0 + nt - 1 = nt := by omega
      have := R2.drop (o' := o') 1 (fun h => by rw [e] at h; exact HO.out h)
      rw [e] at this
      simpa using this
    have T2 := P1.passD g2
    go_wp2_with fail
    refine (rest13 W1.heap.size _ nt nt _ w2 d2).mono ?_
    rintro e w6 ⟨rfl, rfl⟩
    go_wp2_with fail
    refine (err14_set W1.heap.size _ nt nt 71 v w2 d2).mono ?_
    rintro e w7 ⟨rfl, rfl⟩
    go_wp2_with fail
    refine (same_yes _ _ _ _ _ zt _ (by omega) T1 T2).mono ?_
    rintro e w4 ⟨rfl, m, rfl⟩
    go_wp2_with fail
    go_ret
    exact ⟨rfl, below_drewN (below_dec hB g2) _⟩
  · have hk1 : (0 : Int) < nq := by omega
    go_wp2_with fail
    refine (zparams_ok W1.heap.size w.heap.size 0 (nq + nt) (nq + nt) nq _ d1 (Nat.le_refl _) hm hne (by omega) (by omega) hq2 ((World.cell?_alloc_lt _ _ _ hlt).trans q0)).mono ?_
    rintro e w2 ⟨rfl, o', d2, ho, g2⟩
    rw [Nat.add_sub_cancel_left] at d2 ho
    have HO := hide_prop ho
    clear ho
    have R2 := hRow.passD g2
    have T1 : RowB w2 (some ⟨w.heap.size, o', none⟩) nt zt := by
      have e : 1 + nq + nt - (1 + nq) = nt := by omega
      have hl := LZ.out
      have := R2.drop (o' := o') (1 + nq) (fun h => by rw [e] at h; have := HO.out h; omega)
      rw [e] at this
      have e2 : ((nq : Int) :: (zq ++ zt)).drop (1 + nq) = zt := by rw [Nat.add_comm, List.drop_succ_cons, ← hl, List.drop_left]
      rw [e2] at this
      exact this
    have T2 := P1.passD g2
    have M1 : RowB w2 (some ⟨w.heap.size, 0 + 1, none⟩) nq zq := by
      have hl := LZ.out
      have := R2.mid 1 nq (by omega)
      have e2 : (((nq : Int) :: (zq ++ zt)).drop 1).take nq = zq := by rw [List.drop_succ_cons, List.drop_zero, ← hl, List.take_left]
      rw [e2] at this
      exact this
    have M2 := P0.passD g2
    go_wp2_with fail
    refine (rest13 W1.heap.size _ nt nt _ w2 d2).mono ?_
    rintro e w6 ⟨rfl, rfl⟩
    go_wp2_with fail
    refine (err14_nil W1.heap.size _ nt nt w2 d2).mono ?_
    rintro e w7 ⟨rfl, rfl⟩
    go_wp2_with fail
    refine (same_yes _ _ _ _ _ zq _ (by omega) M1 M2).mono ?_
    rintro e w3 ⟨rfl, m1, rfl⟩
    go_wp2_with fail
    refine (same_yes _ _ _ _ _ zt _ (by omega) (T1.drewN m1) (T2.drewN m1)).mono ?_
    rintro e w4 ⟨rfl, m2, rfl⟩
    go_wp2_with fail
    go_ret
    exact ⟨rfl, below_drewN (below_dec hB g2) _⟩

end Go.Proofs.Qxb6612340aFmt
