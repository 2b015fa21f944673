/-
  Seat b6612340aF: FnWireB1U8ScriptSpellsTheBody (4): the walk.
-/
import Derived.Test.Qxb6612340aFmtLaw1
import Derived.Deep.RegionWith
namespace Go.Proofs.Qxb6612340aFmt
open Go.RowKit Go.Extern.Stop Go.Stop Go.Extern

theorem grown_drew (w : World) (r : Option Nat) : w.grownBy w.drew r := ⟨rfl, rfl, rfl, Nat.le_refl _, fun _ _ _ => rfl⟩

/-- The loop's state: k bytes have been read, r are left. -/
structure ScriptSt (W1 w : World) (g n k r o : Nat) : Prop where
  sum : k + r = n
  dec : Dec w W1.heap.size (some ⟨g, o, none⟩) r r .nilIface
  off : 0 < r → o = k
  grown : (W1.alloc (.cells #[.slice (some ⟨g, 0, none⟩) n n, .nilIface] 47)).grownBy w (some W1.heap.size)

theorem ScriptSt.next {W1 w w2 : World} {g n k p o o2 : Nat} (h : ScriptSt W1 w g n k (p + 1) o) (d2 : Dec w2 W1.heap.size (some ⟨g, o2, none⟩) p p .nilIface) (ho : 0 < p → o2 = o + 1) (hg : w.grownBy w2 (some W1.heap.size)) : ScriptSt W1 w2 g n (k + 1) p o2 :=
  ⟨by have := h.sum; omega, d2, fun hp => by have := h.off (by omega); have := ho hp; omega, grown_trans h.grown hg⟩

set_option maxHeartbeats 400000 in
theorem law2_nil (F : Interp) (n c : Nat) (a : Addr) (s : ByteArray) (w0 : World) (hE : Env F w0 a s) (hn : n ≤ maxLen) :
    Calls Tryf.prog 4 #[.slice none n c] w0 fun e w' => e = .returned (.bool true) ∧ Below w0.heap.size w0 w' := by
  go_enter Tryf.func4, Tryf.ntmps4
  go_wp2_with fail
  refine (bytes16_any _ _ _ _ hn).mono ?_
  rintro e w ⟨⟨t, rfl⟩, rfl⟩
  cases t with
  | false =>
    go_wp2_with fail
    go_ret
    exact ⟨rfl, Below.refl _ _⟩
  | true =>
  by_cases hbig : (65536 : Int) < n
  · go_wp2_with fail
    go_ret
    exact ⟨rfl, Below.refl _ _⟩
  go_wp2_with fail
  refine (clone_nil n c w).mono ?_
  rintro e W1 ⟨rfl, rfl⟩
  go_wp2_with fail
  refine (new10 none 0 0 W1).mono ?_
  rintro e W2 ⟨rfl, rfl⟩
  have hB : Below W1.heap.size W1 W1 := Below.refl _ _
  have d0 := dec_new W1 none 0 0
  have E2 : Env2 F (W1.alloc (.cells #[.slice none 0 0, .nilIface] 47)) a s W1.heap.size := hE.two ((Below.refl _ _).alloc (Nat.le_refl _) _) (Nat.le_refl _)
  go_wp2_with fail
  refine wp_loop_rounds 1 ?_
  rw [rounds_succ]
  go_wp2_with fail
  refine (zu8_short F W1.heap.size none 0 a s _ d0 E2).mono ?_
  rintro e w2 ⟨rfl, v, d2, g2⟩
  go_wp2_with fail
  refine (err14_set W1.heap.size none 0 0 71 v w2 d2).mono ?_
  rintro e w3 ⟨rfl, rfl⟩
  go_wp2_with fail
  refine (zu8_err W1.heap.size none 0 0 71 v w2 d2).mono ?_
  rintro e w4 ⟨rfl, rfl⟩
  go_wp2_with fail
  refine (err14_set W1.heap.size none 0 0 71 v w2 d2).mono ?_
  rintro e w5 ⟨rfl, rfl⟩
  go_wp2_with fail
  refine (rest13 W1.heap.size none 0 0 _ w2 d2).mono ?_
  rintro e w6 ⟨rfl, rfl⟩
  go_wp2_with fail
  go_ret
  exact ⟨rfl, below_dec hB g2⟩

set_option maxHeartbeats 800000 in
theorem law2_some (F : Interp) (x : Addr) (n c : Nat) (zs : List Int) (a : Addr) (s : ByteArray) (w0 : World) (hE : Env F w0 a s) (hn : n ≤ maxLen) (h0 : RowB w0 (some x) n zs) :
    Calls Tryf.prog 4 #[.slice (some x) n c] w0 fun e w' => e = .returned (.bool true) ∧ Below w0.heap.size w0 w' := by
  go_enter Tryf.func4, Tryf.ntmps4
  go_wp2_with fail
  refine (bytes16_any _ _ _ _ hn).mono ?_
  rintro e w ⟨⟨t, rfl⟩, rfl⟩
  cases t with
  | false =>
    go_wp2_with fail
    go_ret
    exact ⟨rfl, Below.refl _ _⟩
  | true =>
  by_cases hbig : (65536 : Int) < n
  · go_wp2_with fail
    go_ret
    exact ⟨rfl, Below.refl _ _⟩
  go_wp2_with fail
  refine (clone_some x n c zs w (by omega) h0).mono ?_
  rintro e W1 ⟨rfl, hRow, hB, hlt⟩
  go_wp2_with fail
  refine (new10 (some ⟨w.heap.size, 0, none⟩) n n W1).mono ?_
  rintro e W2 ⟨rfl, rfl⟩
  have d0 := dec_new W1 (some ⟨w.heap.size, 0, none⟩) n n
  have E2 : Env2 F (W1.alloc (.cells #[.slice (some ⟨w.heap.size, 0, none⟩) n n, .nilIface] 47)) a s W1.heap.size := hE.two (hB.alloc hB.size _) hB.size
  have hne : w.heap.size ≠ W1.heap.size := by omega
  have S0 : ScriptSt W1 (W1.alloc (.cells #[.slice (some ⟨w.heap.size, 0, none⟩) n n, .nilIface] 47)) w.heap.size n 0 n 0 := ⟨by omega, d0, fun _ => rfl, World.grownBy.refl _ _⟩
  clear d0
  go_wp2_with fail
  go_loopw [4] (fun i wr => ∃ k r o : Nat, i = .int .i64 k ∧ ScriptSt W1 wr w.heap.size n k r o) (fun i _ => n - (intOf i).toNat)
  case atStart => exact ⟨0, n, 0, rfl, S0⟩
  case round =>
    clear S0
    obtain ⟨k, r, o, rfl, hS⟩ := hrel
    by_cases hr : r = 0
    · have hk1 : (n : Int) ≤ k := by have := hS.sum; omega
      have dz := hS.dec
      rw [hr] at dz
      have E3 := E2.grown hS.grown
      go_wp2_with fail
      refine (zu8_short F W1.heap.size (some ⟨w.heap.size, o, none⟩) 0 a s _ dz E3).mono ?_
      rintro e w2 ⟨rfl, v, d2, g2⟩
      go_wp2_with fail
      refine (err14_set W1.heap.size (some ⟨w.heap.size, o, none⟩) 0 0 71 v w2 d2).mono ?_
      rintro e w3 ⟨rfl, rfl⟩
      go_wp2_with fail
      refine (zu8_err W1.heap.size (some ⟨w.heap.size, o, none⟩) 0 0 71 v w2 d2).mono ?_
      rintro e w4 ⟨rfl, rfl⟩
      go_wp2_with fail
      refine (err14_set W1.heap.size (some ⟨w.heap.size, o, none⟩) 0 0 71 v w2 d2).mono ?_
      rintro e w5 ⟨rfl, rfl⟩
      go_wp2_with fail
      refine (rest13 W1.heap.size (some ⟨w.heap.size, o, none⟩) 0 0 _ w2 d2).mono ?_
      rintro e w6 ⟨rfl, rfl⟩
      go_wp2_with fail
      go_ret
      exact ⟨rfl, below_dec hB (grown_trans hS.grown g2)⟩

    · obtain ⟨p, rfl⟩ : ∃ p, r = p + 1 := ⟨r - 1, by omega⟩
      clear hr
      have hk1 : (k : Int) < n := by have := hS.sum; omega
      have hA1 : (n : Int) - k - 1 ≤ p := by have := hS.sum; omega
      have hA2 : (p : Int) ≤ (n : Int) - k - 1 := by have := hS.sum; omega
      obtain ⟨z, hz⟩ : ∃ z, z = zs.getD k 0 := ⟨_, rfl⟩
      have q0 : wr.cell? ⟨w.heap.size, k, none⟩ = some (.int .u8 z) := by rw [hz]; simpa using (hRow.passD hS.grown).at k (by omega)
      have HO : Hid (o = k) := hS.off (by omega)
      clear hz
      have qo : wr.cell? ⟨w.heap.size, o, none⟩ = some (.int .u8 z) := by rw [HO.out]; exact q0
      have HQ := hide_prop qo
      clear qo
      have hp1 : p + 1 ≤ maxLen := by have := hS.sum; omega
      go_wp2_with fail
      go_region_with (first | (go_at_call 12; refine (zu8_ok W1.heap.size w.heap.size o p p z _ (by exact hS.dec) (Nat.le_refl _) hp1 hne (by exact HQ.out)).mono ?_; rintro e w2 ⟨rfl, o2, d2, ho2, g2⟩; have HO2 := hide_prop ho2; clear ho2; have q2 := grown_cell g2 hne q0) | (go_at_call 14; refine (err14_nil W1.heap.size _ p p _ (by exact d2)).mono ?_; rintro e w3 ⟨rfl, rfl⟩))
      all_goals
        go_wp2_with fail
        refine (rest13 W1.heap.size _ p p _ _ (by exact d2)).mono ?_
        rintro e w6 ⟨rfl, rfl⟩
        have N := hS.next d2 HO2.out (grown_trans (grown_drew _ _) g2)
        go_wp2_with fail
        go_roundw
        case rel => exact ⟨k + 1, p, o2, by go_num, N⟩
        case measure => simp [intOf]; omega

theorem law2_any (F : Interp) (x : Option Addr) (n c : Nat) (zs : List Int) (a : Addr) (s : ByteArray) (w0 : World) (hE : Env F w0 a s) (hn : n ≤ maxLen) (h0 : RowB w0 x n zs) :
    Calls Tryf.prog 4 #[.slice x n c] w0 fun e w' => e = .returned (.bool true) ∧ Below w0.heap.size w0 w' := by
  cases x with
  | none => exact law2_nil F n c a s w0 hE hn
  | some x => exact law2_some F x n c zs a s w0 hE hn h0

end Go.Proofs.Qxb6612340aFmt
