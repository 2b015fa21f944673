/-
  Seat b6612340aF: what all four laws share; FnWireB1U8ReadsTheFirstByte (3): the walk.
-/
import Derived.Test.Qxb6612340aFmtRow
import Derived.Test.Qxb6612340aFmtThin
namespace Go.Proofs.Qxb6612340aFmt
open Go.RowKit Go.Extern.Stop Go.Stop Go.Extern

theorem Env.later {F : Interp} {w w' : World} {a : Addr} {s : ByteArray} (h : Env F w a s) (hb : Below w.heap.size w w') : Env F w' a s :=
  ⟨(hb.cell (p := ⟨0, 0, none⟩) (World.block_lt_of_cell? _ _ h.var)).trans h.var, (hb.cell (p := a) (World.block_lt_of_cell? _ _ h.text)).trans h.text, by rw [hb.tape]; exact h.tape⟩

theorem Env.two {F : Interp} {w w' : World} {a : Addr} {s : ByteArray} (h : Env F w a s) (hb : Below w.heap.size w w') {D : Nat} (hD : w.heap.size ≤ D) : Env2 F w' a s D := by
  have h0 := World.block_lt_of_cell? _ _ h.var
  have h1 := World.block_lt_of_cell? _ _ h.text
  exact ⟨h.later hb, (by show D ≠ 0; exact fun e => by rw [e] at hD; exact absurd h0 (by show ¬ (0 < _); omega)), by omega⟩

/-- An old row behind what the decoder's block has become. -/
theorem RowB.passD {w w2 : World} {x : Option Addr} {n : Nat} {zs : List Int} {o : Obj} (h : RowB w x n zs) (hg : (w.alloc o).grownBy w2 (some w.heap.size)) : RowB w2 x n zs := by
  refine ⟨h.1, fun hn => ?_⟩
  obtain ⟨b, o, rfl, hc⟩ := h.2 hn
  refine ⟨b, o, rfl, fun j hj => ?_⟩
  have hb := World.block_lt_of_cell? _ _ (hc j hj)
  exact grown_cell hg (by show b ≠ _; exact Nat.ne_of_lt hb) ((World.cell?_alloc_lt _ _ _ hb).trans (hc j hj))

theorem below_dec {w W1 w2 : World} {o : Obj} (hB : Below w.heap.size w W1) (hg : (W1.alloc o).grownBy w2 (some W1.heap.size)) : Below w.heap.size w w2 := by
  have hs := hB.size
  exact (hB.alloc hs o).grown hg (by simp; omega) (fun k hk => by cases hk; exact hs)

theorem RowB.drewN {w : World} {x : Option Addr} {n : Nat} {zs : List Int} (h : RowB w x n zs) (m : Nat) : RowB (w.drewN m) x n zs := h

/-- What lies behind the first p of n bytes: the same cells. -/
theorem RowB.drop {w : World} {b o o' n : Nat} {zs : List Int} (p : Nat) (h : RowB w (some ⟨b, o, none⟩) n zs) (ho : 0 < n - p → o' = o + p) : RowB w (some ⟨b, o', none⟩) (n - p) (zs.drop p) := by
  refine ⟨by rw [List.length_drop, h.1], fun hn => ⟨b, o', rfl, fun j hj => ?_⟩⟩
  rw [ho hn, Nat.add_assoc, h.at (p + j) (by omega)]
  simp [List.getD]
/-- The first p of what lies behind the first q. -/
theorem RowB.mid {w : World} {b o n : Nat} {zs : List Int} (q p : Nat) (h : RowB w (some ⟨b, o, none⟩) n zs) (hp : q + p ≤ n) : RowB w (some ⟨b, o + q, none⟩) p ((zs.drop q).take p) := by
  have hl := h.1
  refine ⟨by simp; omega, fun hn => ⟨b, o + q, rfl, fun j hj => ?_⟩⟩
  rw [Nat.add_assoc, h.at (q + j) (by omega)]
  simp [List.getD, hj]

set_option maxHeartbeats 400000 in
theorem law1_nil (F : Interp) (n c : Nat) (f : Bool) (a : Addr) (s : ByteArray) (w0 : World) (hE : Env F w0 a s) (hn : n ≤ maxLen) :
    Calls Tryf.prog 3 #[.slice none n c, .bool f] w0 fun e w' => e = .returned (.bool true) ∧ Below w0.heap.size w0 w' := by
  go_enter Tryf.func3, Tryf.ntmps3
  go_wp2_with fail
  refine (bytes8_any _ _ _ _ _ hn).mono ?_
  rintro e w ⟨⟨t, rfl⟩, rfl⟩
  cases t with
  | false =>
    go_wp2_with fail
    go_ret
    exact ⟨rfl, Below.refl _ _⟩
  | true =>
  by_cases hbig : (1048576 : Int) < n
  · go_wp2_with fail
    go_ret
    exact ⟨rfl, Below.refl _ _⟩
  go_wp2_with fail
  refine (clone_nil n c w).mono ?_
  rintro e W1 ⟨rfl, rfl⟩
  go_wp2_with fail
  refine (new10 none 0 0 W1).mono ?_
  rintro e W2 ⟨rfl, rfl⟩
  obtain ⟨zs, hRow⟩ : ∃ zs, RowB W1 none 0 zs := ⟨[], rfl, fun h => absurd h (Nat.lt_irrefl _)⟩
  have hB : Below W1.heap.size W1 W1 := Below.refl _ _
  have d0 := dec_new W1 none 0 0
  have E2 : Env2 F (W1.alloc (.cells #[.slice none 0 0, .nilIface] 47)) a s W1.heap.size := hE.two ((Below.refl _ _).alloc (Nat.le_refl _) _) (Nat.le_refl _)
  cases f with
  | true =>
    go_wp2_with fail
    refine (ztake_short F W1.heap.size none 0 0 1 a s _ d0 (by omega) E2).mono ?_
    rintro e w2 ⟨rfl, v, d2, g2⟩
    go_wp2_with fail
    refine (zu8_err W1.heap.size none 0 0 71 v w2 d2).mono ?_
    rintro e w3 ⟨rfl, rfl⟩
    have R2 := hRow.passD g2
    go_wp2_with fail
    refine (rest13 W1.heap.size none 0 0 _ w2 d2).mono ?_
    rintro e w6 ⟨rfl, rfl⟩
    go_wp2_with fail
    refine (err14_set W1.heap.size none 0 0 71 v w2 d2).mono ?_
    rintro e w7 ⟨rfl, rfl⟩
    go_wp2_with fail
    refine (same_yes none 0 none 0 0 zs _ (by omega) R2 R2).mono ?_
    rintro e w4 ⟨rfl, m, rfl⟩
    go_wp2_with fail
    go_ret
    exact ⟨rfl, below_drewN (below_dec hB g2) _⟩

  | false =>
    go_wp2_with fail
    refine (zu8_short F W1.heap.size none 0 a s _ d0 E2).mono ?_
    rintro e w2 ⟨rfl, v, d2, g2⟩
    have R2 := hRow.passD g2
    go_wp2_with fail
    refine (rest13 W1.heap.size none 0 0 _ w2 d2).mono ?_
    rintro e w6 ⟨rfl, rfl⟩
    go_wp2_with fail
    refine (err14_set W1.heap.size none 0 0 71 v w2 d2).mono ?_
    rintro e w7 ⟨rfl, rfl⟩
    go_wp2_with fail
    refine (same_yes none 0 none 0 0 zs _ (by omega) R2 R2).mono ?_
    rintro e w4 ⟨rfl, m, rfl⟩
    go_wp2_with fail
    go_ret
    exact ⟨rfl, below_drewN (below_dec hB g2) _⟩

set_option maxHeartbeats 400000 in
theorem law1_some (F : Interp) (x : Addr) (n c : Nat) (zs : List Int) (f : Bool) (a : Addr) (s : ByteArray) (w0 : World) (hE : Env F w0 a s) (hn : n ≤ maxLen) (h0 : RowB w0 (some x) n zs) :
    Calls Tryf.prog 3 #[.slice (some x) n c, .bool f] w0 fun e w' => e = .returned (.bool true) ∧ Below w0.heap.size w0 w' := by
  go_enter Tryf.func3, Tryf.ntmps3
  go_wp2_with fail
  refine (bytes8_any _ _ _ _ _ hn).mono ?_
  rintro e w ⟨⟨t, rfl⟩, rfl⟩
  cases t with
  | false =>
    go_wp2_with fail
    go_ret
    exact ⟨rfl, Below.refl _ _⟩
  | true =>
  by_cases hbig : (1048576 : Int) < n
  · go_wp2_with fail
    go_ret
    exact ⟨rfl, Below.refl _ _⟩
  go_wp2_with fail
  refine (clone_some x n c zs w (by omega) h0).mono ?_
  rintro e W1 ⟨rfl, hRow, hB, hlt⟩
  go_wp2_with fail
  refine (new10 (some ⟨w.heap.size, 0, none⟩) n n W1).mono ?_
  rintro e W2 ⟨rfl, rfl⟩
  have d0 := dec_new W1 (some ⟨w.heap.size, 0, none⟩) n n
  have E2 : Env2 F (W1.alloc (.cells #[.slice (some ⟨w.heap.size, 0, none⟩) n n, .nilIface] 47)) a s W1.heap.size := hE.two (hB.alloc hB.size _) hB.size
  cases f with
  | true =>
    go_wp2_with fail
    rw [show ((n : Int) + 1) = ((n + 1 : Nat) : Int) from by omega]
    refine (ztake_short F W1.heap.size (some ⟨w.heap.size, 0, none⟩) n n (n + 1) a s _ d0 (by omega) E2).mono ?_
    rintro e w2 ⟨rfl, v, d2, g2⟩
    go_wp2_with fail
    refine (zu8_err W1.heap.size (some ⟨w.heap.size, 0, none⟩) n n 71 v w2 d2).mono ?_
    rintro e w3 ⟨rfl, rfl⟩
    have R2 := hRow.passD g2
    go_wp2_with fail
    refine (rest13 W1.heap.size (some ⟨w.heap.size, 0, none⟩) n n _ w2 d2).mono ?_
    rintro e w6 ⟨rfl, rfl⟩
    go_wp2_with fail
    refine (err14_set W1.heap.size (some ⟨w.heap.size, 0, none⟩) n n 71 v w2 d2).mono ?_
    rintro e w7 ⟨rfl, rfl⟩
    go_wp2_with fail
    refine (same_yes (some ⟨w.heap.size, 0, none⟩) n (some ⟨w.heap.size, 0, none⟩) n n zs _ (by omega) R2 R2).mono ?_
    rintro e w4 ⟨rfl, m, rfl⟩
    go_wp2_with fail
    go_ret
    exact ⟨rfl, below_drewN (below_dec hB g2) _⟩

  | false =>
    by_cases hz : n = 0
    · subst hz
      go_wp2_with fail
      refine (zu8_short F W1.heap.size (some ⟨w.heap.size, 0, none⟩) 0 a s _ d0 E2).mono ?_
      rintro e w2 ⟨rfl, v, d2, g2⟩
      have R2 := hRow.passD g2
      go_wp2_with fail
      refine (rest13 W1.heap.size (some ⟨w.heap.size, 0, none⟩) 0 0 _ w2 d2).mono ?_
      rintro e w6 ⟨rfl, rfl⟩
      go_wp2_with fail
      refine (err14_set W1.heap.size (some ⟨w.heap.size, 0, none⟩) 0 0 71 v w2 d2).mono ?_
      rintro e w7 ⟨rfl, rfl⟩
      go_wp2_with fail
      refine (same_yes (some ⟨w.heap.size, 0, none⟩) 0 (some ⟨w.heap.size, 0, none⟩) 0 0 zs _ (by omega) R2 R2).mono ?_
      rintro e w4 ⟨rfl, m, rfl⟩
      go_wp2_with fail
      go_ret
      exact ⟨rfl, below_drewN (below_dec hB g2) _⟩

    · obtain ⟨p, rfl⟩ : ∃ p, n = p + 1 := ⟨n - 1, by omega⟩
      obtain ⟨z, hz⟩ : ∃ z, z = zs.getD 0 0 := ⟨_, rfl⟩
      have q0 : W1.cell? ⟨w.heap.size, 0, none⟩ = some (.int .u8 z) := by rw [hz]; simpa using hRow.at 0 (by omega)
      clear hz
      have hne : w.heap.size ≠ W1.heap.size := by omega
      go_wp2_with fail
      refine (zu8_ok W1.heap.size w.heap.size 0 p p z _ d0 (Nat.le_refl _) hn hne ((World.cell?_alloc_lt _ _ _ hlt).trans q0)).mono ?_
      rintro e w2 ⟨rfl, o', d2, ho, g2⟩
      have HO := hide_prop ho
      clear ho
      have R2 := hRow.passD g2
      have q2 : w2.cell? ⟨w.heap.size, 0, none⟩ = some (.int .u8 z) := grown_cell g2 hne ((World.cell?_alloc_lt _ _ _ hlt).trans q0)
      go_wp2_with fail
      refine (rest13 W1.heap.size _ p p _ w2 d2).mono ?_
      rintro e w6 ⟨rfl, rfl⟩
      go_wp2_with fail
      refine (err14_nil W1.heap.size _ p p w2 d2).mono ?_
      rintro e w7 ⟨rfl, rfl⟩
      have hpos : (0 : Int) < ((p + 1 : Nat) : Int) := by omega
      have T1 : RowB w2 (some ⟨w.heap.size, o', none⟩) p (zs.drop 1) := R2.drop 1 HO.out
      by_cases hp : p = 0
      · subst hp
        have T2 : RowB w2 (some ⟨w.heap.size, 0, none⟩) 0 (zs.drop 1) := ⟨T1.1, fun h => absurd h (Nat.lt_irrefl _)⟩
        go_wp2_with fail
        refine (same_yes _ _ _ _ _ (zs.drop 1) _ (by omega) T1 T2).mono ?_
        rintro e w4 ⟨rfl, m, rfl⟩
        go_wp2_with fail
        go_ret
        exact ⟨rfl, below_drewN (below_dec hB g2) _⟩
      · have T2 : RowB w2 (some ⟨w.heap.size, 1, none⟩) p (zs.drop 1) := R2.drop 1 (fun _ => rfl)
        have hp1 : 0 < p := by omega
        go_wp2_with fail
        refine (same_yes _ _ _ _ _ (zs.drop 1) _ (by omega) T1 T2).mono ?_
        rintro e w4 ⟨rfl, m, rfl⟩
        go_wp2_with fail
        go_ret
        exact ⟨rfl, below_drewN (below_dec hB g2) _⟩

theorem law1_any (F : Interp) (x : Option Addr) (n c : Nat) (zs : List Int) (f : Bool) (a : Addr) (s : ByteArray) (w0 : World) (hE : Env F w0 a s) (hn : n ≤ maxLen) (h0 : RowB w0 x n zs) :
    Calls Tryf.prog 3 #[.slice x n c, .bool f] w0 fun e w' => e = .returned (.bool true) ∧ Below w0.heap.size w0 w' := by
  cases x with
  | none => exact law1_nil F n c f a s w0 hE hn
  | some x => exact law1_some F x n c zs f a s w0 hE hn h0

end Go.Proofs.Qxb6612340aFmt
