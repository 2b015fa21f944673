/-
  Seat b6612340aF: FnWireB1ParamsReadsALengthPrefixedField (5): the walk.
-/
import Derived.Test.Qxb6612340aFmtLaw1
namespace Go.Proofs.Qxb6612340aFmt
open Go.RowKit Go.Extern.Stop Go.Stop Go.Extern

set_option maxHeartbeats 400000 in
theorem law3_nil (F : Interp) (n c : Nat) (f : Bool) (a : Addr) (s : ByteArray) (w0 : World) (hE : Env F w0 a s) (hn : n ≤ maxLen) :
    Calls Tryf.prog 5 #[.slice none n c, .bool f] w0 fun e w' => e = .returned (.bool true) ∧ Below w0.heap.size w0 w' := by
  have hnn := fun (w : World) (a : Option Addr) (n c : Nat) => Lib.run_eql_slice_nil (P := Tryf.prog) w 22 5 a n c 0 0 Tryf.underlying22
  go_enter Tryf.func5, Tryf.ntmps5
  go_wp2_with fail
  refine (bytes17_any _ _ _ _ _ hn).mono ?_
  rintro e w ⟨⟨t, rfl⟩, rfl⟩
  cases t with
  | false =>
    go_wp2_with fail
    go_ret
    exact ⟨rfl, Below.refl _ _⟩
  | true =>
  by_cases hbig : (1048576 : Int) < n
  · go_wp2_with fail
    go_ret
    exact ⟨rfl, Below.refl _ _⟩
  go_wp2_with fail
  refine (clone_nil n c w).mono ?_
  rintro e W1 ⟨rfl, rfl⟩
  go_wp2_with fail
  refine (new10 none 0 0 W1).mono ?_
  rintro e W2 ⟨rfl, rfl⟩
  obtain ⟨zs, hRow⟩ : ∃ zs, RowB W1 none 0 zs := ⟨[], rfl, fun h => absurd h (Nat.lt_irrefl _)⟩
  have hB : Below W1.heap.size W1 W1 := Below.refl _ _
  have d0 := dec_new W1 none 0 0
  have E2 : Env2 F (W1.alloc (.cells #[.slice none 0 0, .nilIface] 47)) a s W1.heap.size := hE.two ((Below.refl _ _).alloc (Nat.le_refl _) _) (Nat.le_refl _)
  cases f with
  | true =>
    go_wp2_with fail
    refine (ztake_short F W1.heap.size none 0 0 1 a s _ d0 (by omega) E2).mono ?_
    rintro e w2 ⟨rfl, v, d2, g2⟩
    go_wp2_with fail
    refine (zparams_err W1.heap.size none 0 0 71 v w2 d2).mono ?_
    rintro e w3 ⟨rfl, rfl⟩
    have R2 := hRow.passD g2
    go_wp2_with fail
    refine (rest13 W1.heap.size none 0 0 _ w2 d2).mono ?_
    rintro e w6 ⟨rfl, rfl⟩
    go_wp2_with fail
    refine (err14_set W1.heap.size none 0 0 71 v w2 d2).mono ?_
    rintro e w7 ⟨rfl, rfl⟩
    go_wp2_with fail
    refine (same_yes none 0 none 0 0 zs _ (by omega) R2 R2).mono ?_
    rintro e w4 ⟨rfl, m, rfl⟩
    go_wp2_with fail
    go_ret
    exact ⟨rfl, below_drewN (below_dec hB g2) _⟩

  | false =>
    go_wp2_with fail
    refine (zparams_empty F W1.heap.size none 0 a s _ d0 E2).mono ?_
    rintro e w2 ⟨rfl, v, d2, g2⟩
    have R2 := hRow.passD g2
    go_wp2_with fail
    refine (rest13 W1.heap.size none 0 0 _ w2 d2).mono ?_
    rintro e w6 ⟨rfl, rfl⟩
    go_wp2_with fail
    refine (err14_set W1.heap.size none 0 0 71 v w2 d2).mono ?_
    rintro e w7 ⟨rfl, rfl⟩
    go_wp2_with fail
    refine (same_yes none 0 none 0 0 zs _ (by omega) R2 R2).mono ?_
    rintro e w4 ⟨rfl, m, rfl⟩
    go_wp2_with fail
    go_ret
    exact ⟨rfl, below_drewN (below_dec hB g2) _⟩

set_option maxHeartbeats 800000 in
theorem law3_some (F : Interp) (x : Addr) (n c : Nat) (zs : List Int) (f : Bool) (a : Addr) (s : ByteArray) (w0 : World) (hE : Env F w0 a s) (hn : n ≤ maxLen) (h0 : RowB w0 (some x) n zs) (hbd : ∀ j, 0 ≤ zs.getD j 0 ∧ zs.getD j 0 ≤ 255) :
    Calls Tryf.prog 5 #[.slice (some x) n c, .bool f] w0 fun e w' => e = .returned (.bool true) ∧ Below w0.heap.size w0 w' := by
  have hnn := fun (w : World) (a : Option Addr) (n c : Nat) => Lib.run_eql_slice_nil (P := Tryf.prog) w 22 5 a n c 0 0 Tryf.underlying22
  go_enter Tryf.func5, Tryf.ntmps5
  go_wp2_with fail
  refine (bytes17_any _ _ _ _ _ hn).mono ?_
  rintro e w ⟨⟨t, rfl⟩, rfl⟩
  cases t with
  | false =>
    go_wp2_with fail
    go_ret
    exact ⟨rfl, Below.refl _ _⟩
  | true =>
  by_cases hbig : (1048576 : Int) < n
  · go_wp2_with fail
    go_ret
    exact ⟨rfl, Below.refl _ _⟩
  go_wp2_with fail
  refine (clone_some x n c zs w (by omega) h0).mono ?_
  rintro e W1 ⟨rfl, hRow, hB, hlt⟩
  go_wp2_with fail
  refine (new10 (some ⟨w.heap.size, 0, none⟩) n n W1).mono ?_
  rintro e W2 ⟨rfl, rfl⟩
  have d0 := dec_new W1 (some ⟨w.heap.size, 0, none⟩) n n
  have E2 : Env2 F (W1.alloc (.cells #[.slice (some ⟨w.heap.size, 0, none⟩) n n, .nilIface] 47)) a s W1.heap.size := hE.two (hB.alloc hB.size _) hB.size
  cases f with
  | true =>
    go_wp2_with fail
    rw [show ((n : Int) + 1) = ((n + 1 : Nat) : Int) from by omega]
    refine (ztake_short F W1.heap.size (some ⟨w.heap.size, 0, none⟩) n n (n + 1) a s _ d0 (by omega) E2).mono ?_
    rintro e w2 ⟨rfl, v, d2, g2⟩
    go_wp2_with fail
    refine (zparams_err W1.heap.size (some ⟨w.heap.size, 0, none⟩) n n 71 v w2 d2).mono ?_
    rintro e w3 ⟨rfl, rfl⟩
    have R2 := hRow.passD g2
    go_wp2_with fail
    refine (rest13 W1.heap.size (some ⟨w.heap.size, 0, none⟩) n n _ w2 d2).mono ?_
    rintro e w6 ⟨rfl, rfl⟩
    go_wp2_with fail
    refine (err14_set W1.heap.size (some ⟨w.heap.size, 0, none⟩) n n 71 v w2 d2).mono ?_
    rintro e w7 ⟨rfl, rfl⟩
    go_wp2_with fail
    refine (same_yes (some ⟨w.heap.size, 0, none⟩) n (some ⟨w.heap.size, 0, none⟩) n n zs _ (by omega) R2 R2).mono ?_
    rintro e w4 ⟨rfl, m, rfl⟩
    go_wp2_with fail
    go_ret
    exact ⟨rfl, below_drewN (below_dec hB g2) _⟩

  | false =>
    by_cases hz : n = 0
    · subst hz
      go_wp2_with fail
      refine (zparams_empty F W1.heap.size (some ⟨w.heap.size, 0, none⟩) 0 a s _ d0 E2).mono ?_
      rintro e w2 ⟨rfl, v, d2, g2⟩
      have R2 := hRow.passD g2
      go_wp2_with fail
      refine (rest13 W1.heap.size (some ⟨w.heap.size, 0, none⟩) 0 0 _ w2 d2).mono ?_
      rintro e w6 ⟨rfl, rfl⟩
      go_wp2_with fail
      refine (err14_set W1.heap.size (some ⟨w.heap.size, 0, none⟩) 0 0 71 v w2 d2).mono ?_
      rintro e w7 ⟨rfl, rfl⟩
      go_wp2_with fail
      refine (same_yes (some ⟨w.heap.size, 0, none⟩) 0 (some ⟨w.heap.size, 0, none⟩) 0 0 zs _ (by omega) R2 R2).mono ?_
      rintro e w4 ⟨rfl, m, rfl⟩
      go_wp2_with fail
      go_ret
      exact ⟨rfl, below_drewN (below_dec hB g2) _⟩

    · obtain ⟨k, hk⟩ : ∃ k : Nat, zs.getD 0 0 = k := ⟨(zs.getD 0 0).toNat, by have := hbd 0; omega⟩
      have hk8 : k ≤ 255 := by have := hbd 0; omega
      have q0 : W1.cell? ⟨w.heap.size, 0, none⟩ = some (.int .u8 k) := by rw [← hk]; simpa using hRow.at 0 (by omega)
      clear hk hbd
      have hne : w.heap.size ≠ W1.heap.size := by omega
      have hpos : (0 : Int) < n := by omega
      have hn1 : n - 1 + 1 ≤ maxLen := by omega
      have d1 : Dec (W1.alloc (.cells #[.slice (some ⟨w.heap.size, 0, none⟩) n n, .nilIface] 47)) W1.heap.size (some ⟨w.heap.size, 0, none⟩) (n - 1 + 1) (n - 1 + 1) .nilIface := by
        have e : n - 1 + 1 = n := by omega
        rw [e]
        exact d0
      have hz0 : 0 < n := by omega
      clear hz
      by_cases hk0 : k = 0
      · subst hk0
        go_wp2_with fail
        refine (zparams_zero F W1.heap.size w.heap.size 0 (n - 1) (n - 1) a s _ d1 (Nat.le_refl _) hn1 hne ((World.cell?_alloc_lt _ _ _ hlt).trans q0) E2).mono ?_
        rintro e w2 ⟨rfl, o', v, d2, ho, g2⟩
        have HO := hide_prop ho
        clear ho
        have R2 := hRow.passD g2
        have q2 : w2.cell? ⟨w.heap.size, 0, none⟩ = some (.int .u8 0) := grown_cell g2 hne ((World.cell?_alloc_lt _ _ _ hlt).trans (by simpa using q0))
        have T1 : RowB w2 (some ⟨w.heap.size, o', none⟩) (n - 1) (zs.drop 1) := R2.drop 1 HO.out
        go_wp2_with fail
        refine (rest13 W1.heap.size _ (n - 1) (n - 1) _ w2 d2).mono ?_
        rintro e w6 ⟨rfl, rfl⟩
        go_wp2_with fail
        refine (err14_set W1.heap.size _ (n - 1) (n - 1) 71 v w2 d2).mono ?_
        rintro e w7 ⟨rfl, rfl⟩
        by_cases hp : n = 1
        · subst hp
          have T2 : RowB w2 (some ⟨w.heap.size, 0, none⟩) 0 (zs.drop 1) := ⟨T1.1, fun h => absurd h (Nat.lt_irrefl _)⟩
          go_wp2_with fail
          refine (same_yes _ _ _ _ _ (zs.drop 1) _ (by omega) T1 T2).mono ?_
          rintro e w4 ⟨rfl, m, rfl⟩
          go_wp2_with fail
          go_ret
          exact ⟨rfl, below_drewN (below_dec hB g2) _⟩
        · have T2 : RowB w2 (some ⟨w.heap.size, 1, none⟩) (n - 1) (zs.drop 1) := R2.drop 1 (fun _ => rfl)
          have hp1 : 1 < n := by omega
          clear hp
          go_wp2_with fail
          refine (same_yes _ _ _ _ _ (zs.drop 1) _ (by omega) T1 T2).mono ?_
          rintro e w4 ⟨rfl, m, rfl⟩
          go_wp2_with fail
          go_ret
          exact ⟨rfl, below_drewN (below_dec hB g2) _⟩

      · have hk1 : (0 : Int) < k := by omega
        by_cases hkp : k ≤ n - 1
        · go_wp2_with fail
          refine (zparams_ok W1.heap.size w.heap.size 0 (n - 1) (n - 1) k _ d1 (Nat.le_refl _) hn1 hne hkp (by omega) hk8 ((World.cell?_alloc_lt _ _ _ hlt).trans q0)).mono ?_
          rintro e w2 ⟨rfl, o', d2, ho, g2⟩
          have HO := hide_prop ho
          clear ho
          have R2 := hRow.passD g2
          have q2 : w2.cell? ⟨w.heap.size, 0, none⟩ = some (.int .u8 k) := grown_cell g2 hne ((World.cell?_alloc_lt _ _ _ hlt).trans q0)
          have hkp' : (k : Int) ≤ n - 1 := by omega
          go_wp2_with fail
          refine (rest13 W1.heap.size _ (n - 1 - k) (n - 1 - k) _ w2 d2).mono ?_
          rintro e w6 ⟨rfl, rfl⟩
          go_wp2_with fail
          refine (err14_nil W1.heap.size _ (n - 1 - k) (n - 1 - k) w2 d2).mono ?_
          rintro e w7 ⟨rfl, rfl⟩
          have M : RowB w2 (some ⟨w.heap.size, 1, none⟩) k ((zs.drop 1).take k) := by
            have := R2.mid 1 k (by omega)
            rwa [Nat.zero_add] at this
          go_wp2_with fail
          refine (same_yes _ _ _ _ _ ((zs.drop 1).take k) _ (by omega) M M).mono ?_
          rintro e w3 ⟨rfl, m1, rfl⟩
          have D2 : RowB w2 (some ⟨w.heap.size, 0, none⟩) n zs := R2
          by_cases hnk : n = 1 + k
          · subst hnk
            obtain ⟨ys, Y1, Y2⟩ : ∃ ys, RowB (w2.drewN m1) (some ⟨w.heap.size, o', none⟩) 0 ys ∧ RowB (w2.drewN m1) (some ⟨w.heap.size, 0, none⟩) 0 ys := ⟨[], ⟨rfl, fun h => absurd h (Nat.lt_irrefl _)⟩, ⟨rfl, fun h => absurd h (Nat.lt_irrefl _)⟩⟩
            go_wp2_with fail
            refine (same_yes _ _ _ _ _ ys _ (by omega) Y1 Y2).mono ?_
            rintro e w4 ⟨rfl, m2, rfl⟩
            go_wp2_with fail
            go_ret
            exact ⟨rfl, below_drewN (below_dec hB g2) _⟩
          · have Y1 : RowB w2 (some ⟨w.heap.size, o', none⟩) (n - (1 + k)) (zs.drop (1 + k)) := R2.drop (1 + k) (fun h => by have := HO.out (by omega); omega)
            have Y2 : RowB w2 (some ⟨w.heap.size, 1 + k, none⟩) (n - (1 + k)) (zs.drop (1 + k)) := R2.drop (1 + k) (fun h => by omega)
            rw [← Nat.sub_sub] at Y1 Y2
            go_wp2_with fail
            rw [← Nat.sub_sub]
            refine (same_yes _ _ _ _ _ (zs.drop (1 + k)) _ (by omega) (Y1.drewN m1) (Y2.drewN m1)).mono ?_
            rintro e w4 ⟨rfl, m2, rfl⟩
            go_wp2_with fail
            go_ret
            exact ⟨rfl, below_drewN (below_dec hB g2) _⟩
        · go_wp2_with fail
          refine (zparams_short F W1.heap.size w.heap.size 0 (n - 1) (n - 1) k a s _ d1 (Nat.le_refl _) hn1 hne (by omega) hk8 ((World.cell?_alloc_lt _ _ _ hlt).trans q0) E2).mono ?_
          rintro e w2 ⟨rfl, o', v, d2, ho, g2⟩
          have hkp' : (n : Int) - 1 < k := by omega
          have HO := hide_prop ho
          clear ho
          have R2 := hRow.passD g2
          have q2 : w2.cell? ⟨w.heap.size, 0, none⟩ = some (.int .u8 k) := grown_cell g2 hne ((World.cell?_alloc_lt _ _ _ hlt).trans q0)
          have T1 : RowB w2 (some ⟨w.heap.size, o', none⟩) (n - 1) (zs.drop 1) := R2.drop 1 HO.out
          go_wp2_with fail
          refine (rest13 W1.heap.size _ (n - 1) (n - 1) _ w2 d2).mono ?_
          rintro e w6 ⟨rfl, rfl⟩
          go_wp2_with fail
          refine (err14_set W1.heap.size _ (n - 1) (n - 1) 71 v w2 d2).mono ?_
          rintro e w7 ⟨rfl, rfl⟩
          by_cases hp : n = 1
          · subst hp
            have T2 : RowB w2 (some ⟨w.heap.size, 0, none⟩) 0 (zs.drop 1) := ⟨T1.1, fun h => absurd h (Nat.lt_irrefl _)⟩
            go_wp2_with fail
            refine (same_yes _ _ _ _ _ (zs.drop 1) _ (by omega) T1 T2).mono ?_
            rintro e w4 ⟨rfl, m, rfl⟩
            go_wp2_with fail
            go_ret
            exact ⟨rfl, below_drewN (below_dec hB g2) _⟩
          · have T2 : RowB w2 (some ⟨w.heap.size, 1, none⟩) (n - 1) (zs.drop 1) := R2.drop 1 (fun _ => rfl)
            have hp1 : 1 < n := by omega
            clear hp
            go_wp2_with fail
            refine (same_yes _ _ _ _ _ (zs.drop 1) _ (by omega) T1 T2).mono ?_
            rintro e w4 ⟨rfl, m, rfl⟩
            go_wp2_with fail
            go_ret
            exact ⟨rfl, below_drewN (below_dec hB g2) _⟩

theorem law3_any (F : Interp) (x : Option Addr) (n c : Nat) (zs : List Int) (f : Bool) (a : Addr) (s : ByteArray) (w0 : World) (hE : Env F w0 a s) (hn : n ≤ maxLen) (h0 : RowB w0 x n zs) (hbd : ∀ j, 0 ≤ zs.getD j 0 ∧ zs.getD j 0 ≤ 255) :
    Calls Tryf.prog 5 #[.slice x n c, .bool f] w0 fun e w' => e = .returned (.bool true) ∧ Below w0.heap.size w0 w' := by
  cases x with
  | none => exact law3_nil F n c f a s w0 hE hn
  | some x => exact law3_some F x n c zs f a s w0 hE hn h0 hbd

end Go.Proofs.Qxb6612340aFmt
