/-
  Seat b6612340aF: THE DECODER: take (27), u8 (28), bytes (33), params (29), and the thin callers (10, 11, 12, 13, 14, 18).
-/
import Derived.Test.Qxb6612340aFmtErr
import Derived.OneCell
namespace Go.Proofs.Qxb6612340aFmt
open Go.RowKit Go.Extern.Stop Go.Stop Go.Extern

/-- The decoder in block D: what is left of the body, the error. -/
def Dec (w : World) (D : Nat) (x : Option Addr) (n c : Nat) (er : Value) : Prop := w.heap[D]? = some (.cells #[.slice x n c, er] 47 (0, 0))

theorem Dec.c0 {w : World} {D : Nat} {x : Option Addr} {n c : Nat} {er : Value} (h : Dec w D x n c er) : w.cell? ⟨D, 0, none⟩ = some (.slice x n c) := by
  rw [cell_of_row w D 0 _ 47 (0, 0) h]; rfl
theorem Dec.c1 {w : World} {D : Nat} {x : Option Addr} {n c : Nat} {er : Value} (h : Dec w D x n c er) : w.cell? ⟨D, 1, none⟩ = some er := by
  rw [cell_of_row w D 1 _ 47 (0, 0) h]; rfl
theorem Dec.free {w : World} {D : Nat} {x : Option Addr} {n c : Nat} {er : Value} (h : Dec w D x n c er) (j : Nat) : w.frozen? ⟨D, j, none⟩ = false := frozen_of_row w D j _ 47 h
theorem Dec.set0 {w : World} {D : Nat} {x : Option Addr} {n c : Nat} {er : Value} (h : Dec w D x n c er) (x' : Option Addr) (n' c' : Nat) : Dec (w.setCell ⟨D, 0, none⟩ (.slice x' n' c')) D x' n' c' er := by
  have := heap_setCell_same w D 0 _ 47 (.slice x' n' c') h
  simpa [Dec] using this
theorem Dec.set1 {w : World} {D : Nat} {x : Option Addr} {n c : Nat} {er : Value} (h : Dec w D x n c er) (er' : Value) : Dec (w.setCell ⟨D, 1, none⟩ er') D x n c er' := by
  have := heap_setCell_same w D 1 _ 47 er' h
  simpa [Dec] using this

/-- What fmt needs: the sentinel's cells and the tape. -/
structure Env (F : Interp) (w : World) (a : Addr) (s : ByteArray) : Prop where
  var : w.cell? ⟨0, 0, none⟩ = some (.iface 74 (.pointer (some a)))
  text : w.cell? a = some (.string s)
  tape : F.answers w.tape

theorem grown_trans {w0 w1 w2 : World} {r : Option Nat} (h : w0.grownBy w1 r) (k : w1.grownBy w2 r) : w0.grownBy w2 r :=
  ⟨k.os.trans h.os, k.tape.trans h.tape, k.output.trans h.output, Nat.le_trans h.size k.size, fun j hj hr => (k.block j (Nat.lt_of_lt_of_le hj h.size) hr).trans (h.block j hj hr)⟩
theorem grown_set (w : World) (D j : Nat) (v : Value) : w.grownBy (w.setCell ⟨D, j, none⟩ v) (some D) :=
  ⟨rfl, rfl, rfl, by simp, fun k _ hk => Below.heap_setCell w ⟨D, j, none⟩ v k (fun e => hk (by rw [e]))⟩
theorem grown_below {w0 w1 : World} (h : Below w0.heap.size w0 w1) (r : Option Nat) : w0.grownBy w1 r := ⟨h.os, h.tape, h.output, h.size, fun k hk _ => h.block k hk⟩
theorem grown_cell {w0 w1 : World} {D : Nat} (h : w0.grownBy w1 (some D)) {b o : Nat} {v : Value} (hb : b ≠ D) (hc : w0.cell? ⟨b, o, none⟩ = some v) : w1.cell? ⟨b, o, none⟩ = some v :=
  h.cell hc (fun e => hb (by simpa using e))

/-- The sentinel lies outside the decoder. -/
structure Env2 (F : Interp) (w : World) (a : Addr) (s : ByteArray) (D : Nat) : Prop where
  env : Env F w a s
  d0 : D ≠ 0
  da : D ≠ a.block

theorem Env2.grown {F : Interp} {w w1 : World} {a : Addr} {s : ByteArray} {D : Nat} (h : Env2 F w a s D) (hg : w.grownBy w1 (some D)) : Env2 F w1 a s D :=
  ⟨⟨hg.cell h.env.var (fun e => h.d0 (by simpa using e.symm)), hg.cell h.env.text (fun e => h.da (by simpa using e.symm)), by rw [hg.tape]; exact h.env.tape⟩, h.d0, h.da⟩

theorem take_err (D : Nat) (x : Option Addr) (n c : Nat) (t : TypeId) (v : Value) (k : Int) (w : World) (hd : Dec w D x n c (.iface t v)) :
    Calls Tryf.prog 27 #[.pointer (some ⟨D, 0, none⟩), .int .i64 k] w fun e w' => e = .returned (.slice none 0 0) ∧ w' = w := by
  have c1 := hd.c1
  go_enter Tryf.func27, Tryf.ntmps27
  go_wp2
  go_ret
  exact ⟨rfl, rfl⟩

set_option maxHeartbeats 400000 in
theorem take_ok (D g o n c k : Nat) (w : World) (hd : Dec w D (some ⟨g, o, none⟩) n c .nilIface) (hk : k ≤ n) (hnc : n ≤ c) (hc : c ≤ maxLen) :
    Calls Tryf.prog 27 #[.pointer (some ⟨D, 0, none⟩), .int .i64 k] w fun e w' => e = .returned (.slice (some ⟨g, o, none⟩) k k) ∧
      ∃ o', Dec w' D (some ⟨g, o', none⟩) (n - k) (c - k) .nilIface ∧ (0 < n - k → o' = o + k) ∧ w.grownBy w' (some D) := by
  unfold maxLen at hc
  have c0 := hd.c0
  have c1 := hd.c1
  have f0 := hd.free 0
  go_enter Tryf.func27, Tryf.ntmps27
  go_wp2
  · go_ret
    exact ⟨rfl, _, hd.set0 _ _ _, fun _ => by omega, grown_set _ _ _ _⟩
  · go_ret
    exact ⟨rfl, _, hd.set0 _ _ _, fun _ => by omega, grown_set _ _ _ _⟩

set_option maxHeartbeats 400000 in
theorem take_short (F : Interp) (D : Nat) (x : Option Addr) (n c k : Nat) (a : Addr) (s : ByteArray) (w : World) (hd : Dec w D x n c .nilIface) (hk : n < k) (hE : Env2 F w a s D) :
    Calls Tryf.prog 27 #[.pointer (some ⟨D, 0, none⟩), .int .i64 k] w fun e w' => e = .returned (.slice none 0 0) ∧ ∃ v, Dec w' D x n c (.iface 71 v) ∧ w.grownBy w' (some D) := by
  have c0 := hd.c0
  have c1 := hd.c1
  have f1 := hd.free 1
  have hkn : (n : Int) < (k : Int) := by omega
  have hv := hE.env.var
  have hD := lt_of_block hd
  have h0 := World.block_lt_of_cell? _ _ hv
  have ha := World.block_lt_of_cell? _ _ hE.env.text
  go_enter Tryf.func27, Tryf.ntmps27
  go_wp2_with fail
  refine (errorf_a F s a w.heap.size (w.alloc (.cells #[.iface 74 (.pointer (some a))] 20)) hE.env.tape (by simp) ((World.cell?_alloc_lt _ _ _ ha).trans hE.env.text)).mono ?_
  rintro e w1 ⟨rfl, hb⟩
  have d1 : Dec w1 D x n c .nilIface := (hb.block D (by simp; omega)).trans ((Below.heap_alloc w _ D hD).trans hd)
  have g1 : w.grownBy w1 (some D) := grown_trans (World.grownBy_alloc w _ _) (grown_below hb _)
  have e1 := d1.c1
  have u1 := d1.free 1
  clear hb
  go_wp2_with fail
  go_ret
  exact ⟨rfl, _, d1.set1 _, grown_trans g1 (grown_set _ _ _ _)⟩

theorem u8_err (D : Nat) (x : Option Addr) (n c : Nat) (t : TypeId) (v : Value) (w : World) (hd : Dec w D x n c (.iface t v)) :
    Calls Tryf.prog 28 #[.pointer (some ⟨D, 0, none⟩)] w fun e w' => e = .returned (.int .u8 0) ∧ w' = w := by
  have hnn := fun (w : World) (a : Option Addr) (n c : Nat) => run_neq_slice_nil_any (P := Tryf.prog) w 22 5 a n c 0 0 Tryf.underlying22
  go_enter Tryf.func28, Tryf.ntmps28
  go_wp2_with fail
  refine (take_err D x n c t v 1 w hd).mono ?_
  rintro e w1 ⟨rfl, rfl⟩
  go_wp2_with fail
  go_ret
  exact ⟨rfl, rfl⟩

theorem u8_short (F : Interp) (D : Nat) (x : Option Addr) (c : Nat) (a : Addr) (s : ByteArray) (w : World) (hd : Dec w D x 0 c .nilIface) (hE : Env2 F w a s D) :
    Calls Tryf.prog 28 #[.pointer (some ⟨D, 0, none⟩)] w fun e w' => e = .returned (.int .u8 0) ∧ ∃ v, Dec w' D x 0 c (.iface 71 v) ∧ w.grownBy w' (some D) := by
  have hnn := fun (w : World) (a : Option Addr) (n c : Nat) => run_neq_slice_nil_any (P := Tryf.prog) w 22 5 a n c 0 0 Tryf.underlying22
  go_enter Tryf.func28, Tryf.ntmps28
  go_wp2_with fail
  refine (take_short F D x 0 c 1 a s w hd (by omega) hE).mono ?_
  rintro e w1 ⟨rfl, v, d1, g1⟩
  go_wp2_with fail
  go_ret
  exact ⟨rfl, v, d1, g1⟩

theorem u8_ok (D g o n c : Nat) (z : Int) (w : World) (hd : Dec w D (some ⟨g, o, none⟩) (n + 1) (c + 1) .nilIface) (hnc : n ≤ c) (hc : c + 1 ≤ maxLen) (hg : g ≠ D) (hz : w.cell? ⟨g, o, none⟩ = some (.int .u8 z)) :
    Calls Tryf.prog 28 #[.pointer (some ⟨D, 0, none⟩)] w fun e w' => e = .returned (.int .u8 z) ∧
      ∃ o', Dec w' D (some ⟨g, o', none⟩) n c .nilIface ∧ (0 < n → o' = o + 1) ∧ w.grownBy w' (some D) := by
  have hnn := fun (w : World) (a : Option Addr) (n c : Nat) => run_neq_slice_nil_any (P := Tryf.prog) w 22 5 a n c 0 0 Tryf.underlying22
  go_enter Tryf.func28, Tryf.ntmps28
  go_wp2_with fail
  refine (take_ok D g o (n + 1) (c + 1) 1 w hd (by omega) (by omega) hc).mono ?_
  rintro e w1 ⟨rfl, o', d1, ho, g1⟩
  have hz1 := grown_cell g1 hg hz
  go_wp2_with fail
  go_ret
  exact ⟨rfl, o', d1, ho, g1⟩

theorem bytes_err (D : Nat) (x : Option Addr) (n c : Nat) (t : TypeId) (v : Value) (k : Nat) (w : World) (hd : Dec w D x n c (.iface t v)) :
    Calls Tryf.prog 33 #[.pointer (some ⟨D, 0, none⟩), .int .i64 k] w fun e w' => e = .returned (.slice none 0 0) ∧ w' = w := by
  by_cases h0 : k = 0
  · subst h0
    go_enter Tryf.func33, Tryf.ntmps33
    go_wp2_with fail
    refine (take_err D x n c t v _ w hd).mono ?_
    rintro e w1 ⟨rfl, rfl⟩
    go_wp2_with fail
    go_ret
    exact ⟨rfl, rfl⟩
  · have hk0 : (0 : Int) < k := by omega
    go_enter Tryf.func33, Tryf.ntmps33
    go_wp2_with fail
    refine (take_err D x n c t v _ w hd).mono ?_
    rintro e w1 ⟨rfl, rfl⟩
    go_wp2_with fail
    go_ret
    exact ⟨rfl, rfl⟩

theorem bytes_short (F : Interp) (D : Nat) (x : Option Addr) (n c k : Nat) (a : Addr) (s : ByteArray) (w : World) (hd : Dec w D x n c .nilIface) (hk : n < k) (hE : Env2 F w a s D) :
    Calls Tryf.prog 33 #[.pointer (some ⟨D, 0, none⟩), .int .i64 k] w fun e w' => e = .returned (.slice none 0 0) ∧ ∃ v, Dec w' D x n c (.iface 71 v) ∧ w.grownBy w' (some D) := by
  have hk0 : (0 : Int) < k := by omega
  go_enter Tryf.func33, Tryf.ntmps33
  go_wp2_with fail
  refine (take_short F D x n c k a s w hd hk hE).mono ?_
  rintro e w1 ⟨rfl, v, d1, g1⟩
  go_wp2_with fail
  go_ret
  exact ⟨rfl, v, d1, g1⟩

theorem bytes_ok (D g o n c k : Nat) (w : World) (hd : Dec w D (some ⟨g, o, none⟩) n c .nilIface) (hk : k ≤ n) (hk1 : 0 < k) (hnc : n ≤ c) (hc : c ≤ maxLen) :
    Calls Tryf.prog 33 #[.pointer (some ⟨D, 0, none⟩), .int .i64 k] w fun e w' => e = .returned (.slice (some ⟨g, o, none⟩) k k) ∧
      ∃ o', Dec w' D (some ⟨g, o', none⟩) (n - k) (c - k) .nilIface ∧ (0 < n - k → o' = o + k) ∧ w.grownBy w' (some D) := by
  have hk0 : (0 : Int) < k := by omega
  go_enter Tryf.func33, Tryf.ntmps33
  go_wp2_with fail
  refine (take_ok D g o n c k w hd hk hnc hc).mono ?_
  rintro e w1 ⟨rfl, o', d1, ho, g1⟩
  go_wp2_with fail
  go_ret
  exact ⟨rfl, o', d1, ho, g1⟩

theorem bytes_zero (D g o n c : Nat) (w : World) (hd : Dec w D (some ⟨g, o, none⟩) n c .nilIface) (hnc : n ≤ c) (hc : c ≤ maxLen) :
    Calls Tryf.prog 33 #[.pointer (some ⟨D, 0, none⟩), .int .i64 0] w fun e w' => e = .returned (.slice none 0 0) ∧
      ∃ o', Dec w' D (some ⟨g, o', none⟩) n c .nilIface ∧ (0 < n → o' = o) ∧ w.grownBy w' (some D) := by
  go_enter Tryf.func33, Tryf.ntmps33
  go_wp2_with fail
  refine (take_ok D g o n c 0 w hd (by omega) hnc hc).mono ?_
  rintro e w1 ⟨rfl, o', d1, ho, g1⟩
  go_wp2_with fail
  go_ret
  exact ⟨rfl, o', d1, ho, g1⟩

/-! ### params -/
theorem params_err (D : Nat) (x : Option Addr) (n c : Nat) (t : TypeId) (v : Value) (w : World) (hd : Dec w D x n c (.iface t v)) :
    Calls Tryf.prog 29 #[.pointer (some ⟨D, 0, none⟩)] w fun e w' => e = .returned (.slice none 0 0) ∧ w' = w := by
  have c1 := hd.c1
  go_enter Tryf.func29, Tryf.ntmps29
  go_wp2_with fail
  refine (u8_err D x n c t v w hd).mono ?_
  rintro e w1 ⟨rfl, rfl⟩
  go_wp2_with fail
  refine (bytes_err D x n c t v 0 w1 hd).mono ?_
  rintro e w2 ⟨rfl, rfl⟩
  go_wp2_with fail
  go_ret
  exact ⟨rfl, rfl⟩

theorem params_empty (F : Interp) (D : Nat) (x : Option Addr) (c : Nat) (a : Addr) (s : ByteArray) (w : World) (hd : Dec w D x 0 c .nilIface) (hE : Env2 F w a s D) :
    Calls Tryf.prog 29 #[.pointer (some ⟨D, 0, none⟩)] w fun e w' => e = .returned (.slice none 0 0) ∧ ∃ v, Dec w' D x 0 c (.iface 71 v) ∧ w.grownBy w' (some D) := by
  go_enter Tryf.func29, Tryf.ntmps29
  go_wp2_with fail
  refine (u8_short F D x c a s w hd hE).mono ?_
  rintro e w1 ⟨rfl, v, d1, g1⟩
  have c1 := d1.c1
  go_wp2_with fail
  refine (bytes_err D x 0 c 71 v 0 w1 d1).mono ?_
  rintro e w2 ⟨rfl, rfl⟩
  go_wp2_with fail
  go_ret
  exact ⟨rfl, v, d1, g1⟩

set_option maxHeartbeats 400000 in
theorem params_zero (F : Interp) (D g o n c : Nat) (a : Addr) (s : ByteArray) (w : World) (hd : Dec w D (some ⟨g, o, none⟩) (n + 1) (c + 1) .nilIface) (hnc : n ≤ c) (hc : c + 1 ≤ maxLen) (hg : g ≠ D) (hz : w.cell? ⟨g, o, none⟩ = some (.int .u8 0)) (hE : Env2 F w a s D) :
    Calls Tryf.prog 29 #[.pointer (some ⟨D, 0, none⟩)] w fun e w' => e = .returned (.slice none 0 0) ∧
      ∃ o' v, Dec w' D (some ⟨g, o', none⟩) n c (.iface 71 v) ∧ (0 < n → o' = o + 1) ∧ w.grownBy w' (some D) := by
  go_enter Tryf.func29, Tryf.ntmps29
  go_wp2_with fail
  refine (u8_ok D g o n c 0 w hd hnc hc hg hz).mono ?_
  rintro e w1 ⟨rfl, o1, d1, ho1, g1⟩
  go_wp2_with fail
  refine (bytes_zero D g o1 n c w1 d1 hnc (by omega)).mono ?_
  rintro e w2 ⟨rfl, o2, d2, ho2, g2⟩
  have E2 := (hE.grown g1).grown g2
  have c1 := d2.c1
  have f1 := d2.free 1
  have hv := E2.env.var
  have hD := lt_of_block d2
  have h0 := World.block_lt_of_cell? _ _ hv
  have ha := World.block_lt_of_cell? _ _ E2.env.text
  go_wp2_with fail
  refine (errorf_b F s a w2.heap.size (w2.alloc (.cells #[.iface 74 (.pointer (some a))] 20)) E2.env.tape (by simp) ((World.cell?_alloc_lt _ _ _ ha).trans E2.env.text)).mono ?_
  rintro e w3 ⟨rfl, hb⟩
  have d3 : Dec w3 D (some ⟨g, o2, none⟩) n c .nilIface := (hb.block D (by simp; omega)).trans ((Below.heap_alloc w2 _ D hD).trans d2)
  have g3 : w2.grownBy w3 (some D) := grown_trans (World.grownBy_alloc w2 _ _) (grown_below hb _)
  have e1 := d3.c1
  have u1 := d3.free 1
  clear hb
  go_wp2_with fail
  go_ret
  exact ⟨rfl, o2, _, d3.set1 _, fun h => (ho2 h).trans (ho1 h), grown_trans (grown_trans (grown_trans g1 g2) g3) (grown_set _ _ _ _)⟩

theorem params_short (F : Interp) (D g o n c k : Nat) (a : Addr) (s : ByteArray) (w : World) (hd : Dec w D (some ⟨g, o, none⟩) (n + 1) (c + 1) .nilIface) (hnc : n ≤ c) (hc : c + 1 ≤ maxLen) (hg : g ≠ D) (hk : n < k) (hk8 : k ≤ 255) (hz : w.cell? ⟨g, o, none⟩ = some (.int .u8 k)) (hE : Env2 F w a s D) :
    Calls Tryf.prog 29 #[.pointer (some ⟨D, 0, none⟩)] w fun e w' => e = .returned (.slice none 0 0) ∧
      ∃ o' v, Dec w' D (some ⟨g, o', none⟩) n c (.iface 71 v) ∧ (0 < n → o' = o + 1) ∧ w.grownBy w' (some D) := by
  go_enter Tryf.func29, Tryf.ntmps29
  go_wp2_with fail
  refine (u8_ok D g o n c k w hd hnc hc hg hz).mono ?_
  rintro e w1 ⟨rfl, o1, d1, ho1, g1⟩
  go_wp2_with fail
  refine (bytes_short F D _ n c k a s w1 d1 hk (hE.grown g1)).mono ?_
  rintro e w2 ⟨rfl, v, d2, g2⟩
  have c1 := d2.c1
  go_wp2_with fail
  go_ret
  exact ⟨rfl, o1, v, d2, ho1, grown_trans g1 g2⟩

theorem params_ok (D g o n c k : Nat) (w : World) (hd : Dec w D (some ⟨g, o, none⟩) (n + 1) (c + 1) .nilIface) (hnc : n ≤ c) (hc : c + 1 ≤ maxLen) (hg : g ≠ D) (hk : k ≤ n) (hk1 : 0 < k) (hk8 : k ≤ 255) (hz : w.cell? ⟨g, o, none⟩ = some (.int .u8 k)) :
    Calls Tryf.prog 29 #[.pointer (some ⟨D, 0, none⟩)] w fun e w' => e = .returned (.slice (some ⟨g, o + 1, none⟩) k k) ∧
      ∃ o', Dec w' D (some ⟨g, o', none⟩) (n - k) (c - k) .nilIface ∧ (0 < n - k → o' = o + 1 + k) ∧ w.grownBy w' (some D) := by
  have hk0 : (0 : Int) < k := by omega
  go_enter Tryf.func29, Tryf.ntmps29
  go_wp2_with fail
  refine (u8_ok D g o n c k w hd hnc hc hg hz).mono ?_
  rintro e w1 ⟨rfl, o1, d1, ho1, g1⟩
  obtain rfl : o1 = o + 1 := ho1 (by omega)
  go_wp2_with fail
  refine (bytes_ok D g (o + 1) n c k w1 d1 hk hk1 hnc (by omega)).mono ?_
  rintro e w2 ⟨rfl, o2, d2, ho2, g2⟩
  have c1 := d2.c1
  go_wp2_with fail
  go_ret
  exact ⟨rfl, o2, d2, ho2, grown_trans g1 g2⟩

end Go.Proofs.Qxb6612340aFmt
