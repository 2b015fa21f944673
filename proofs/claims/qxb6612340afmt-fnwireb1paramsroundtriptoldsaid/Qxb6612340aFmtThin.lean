/-
  Seat b6612340aF: the thin callers ZZnewDecoder (10), ZZtake (11), ZZu8 (12), ZZrest (13), ZZerr (14), ZZparams (18), each by the contract of what it calls.
-/
import Derived.Test.Qxb6612340aFmtDec
namespace Go.Proofs.Qxb6612340aFmt
open Go.RowKit Go.Extern.Stop Go.Stop Go.Extern

/-- A decoder over a body x, as ZZnewDecoder makes it. -/
theorem dec_new (w : World) (x : Option Addr) (n c : Nat) : Dec (w.alloc (.cells #[.slice x n c, .nilIface] 47)) w.heap.size x n c .nilIface := heap_alloc_new w _

theorem new10 (x : Option Addr) (n c : Nat) (w : World) : Calls Tryf.prog 10 #[.slice x n c] w fun e w' => e = .returned (.pointer (some ⟨w.heap.size, 0, none⟩)) ∧ w.alloc (.cells #[.slice x n c, .nilIface] 47) = w' := by
  go_enter Tryf.func10, Tryf.ntmps10
  go_wp2
  go_ret
  exact ⟨rfl, rfl⟩
theorem rest13 (D : Nat) (x : Option Addr) (n c : Nat) (er : Value) (w : World) (hd : Dec w D x n c er) : Calls Tryf.prog 13 #[.pointer (some ⟨D, 0, none⟩)] w fun e w' => e = .returned (.slice x n c) ∧ w = w' := by
  have c0 := hd.c0
  go_enter Tryf.func13, Tryf.ntmps13
  go_wp2
  go_ret
  exact ⟨rfl, rfl⟩
theorem err14_nil (D : Nat) (x : Option Addr) (n c : Nat) (w : World) (hd : Dec w D x n c .nilIface) : Calls Tryf.prog 14 #[.pointer (some ⟨D, 0, none⟩)] w fun e w' => e = .returned .nilIface ∧ w = w' := by
  have c1 := hd.c1
  go_enter Tryf.func14, Tryf.ntmps14
  go_wp2
  go_ret
  exact ⟨rfl, rfl⟩
theorem err14_set (D : Nat) (x : Option Addr) (n c : Nat) (t : TypeId) (v : Value) (w : World) (hd : Dec w D x n c (.iface t v)) : Calls Tryf.prog 14 #[.pointer (some ⟨D, 0, none⟩)] w fun e w' => e = .returned (.iface t v) ∧ w = w' := by
  have c1 := hd.c1
  go_enter Tryf.func14, Tryf.ntmps14
  go_wp2
  go_ret
  exact ⟨rfl, rfl⟩

theorem hide_prop {p : Prop} (h : p) : Hid p := h

theorem ztake_short (F : Interp) (D : Nat) (x : Option Addr) (n c k : Nat) (a : Addr) (s : ByteArray) (w : World) (hd : Dec w D x n c .nilIface) (hk : n < k) (hE : Env2 F w a s D) :
    Calls Tryf.prog 11 #[.pointer (some ⟨D, 0, none⟩), .int .i64 k] w fun e w' => e = .returned (.slice none 0 0) ∧ ∃ v, Dec w' D x n c (.iface 71 v) ∧ w.grownBy w' (some D) := by
  go_enter Tryf.func11, Tryf.ntmps11
  go_wp2_with fail
  refine (take_short F D x n c k a s w hd hk hE).mono ?_
  rintro e w1 ⟨rfl, v', d1, g1⟩
  go_wp2_with fail
  go_ret
  exact ⟨rfl, v', d1, g1⟩

theorem zu8_err (D : Nat) (x : Option Addr) (n c : Nat) (t : TypeId) (v : Value) (w : World) (hd : Dec w D x n c (.iface t v)) :
    Calls Tryf.prog 12 #[.pointer (some ⟨D, 0, none⟩)] w fun e w' => e = .returned (.int .u8 0) ∧ w = w' := by
  go_enter Tryf.func12, Tryf.ntmps12
  go_wp2_with fail
  refine (u8_err D x n c t v w hd).mono ?_
  rintro e w1 ⟨rfl, rfl⟩
  go_wp2_with fail
  go_ret
  exact ⟨rfl, rfl⟩

theorem zu8_short (F : Interp) (D : Nat) (x : Option Addr) (c : Nat) (a : Addr) (s : ByteArray) (w : World) (hd : Dec w D x 0 c .nilIface) (hE : Env2 F w a s D) :
    Calls Tryf.prog 12 #[.pointer (some ⟨D, 0, none⟩)] w fun e w' => e = .returned (.int .u8 0) ∧ ∃ v, Dec w' D x 0 c (.iface 71 v) ∧ w.grownBy w' (some D) := by
  go_enter Tryf.func12, Tryf.ntmps12
  go_wp2_with fail
  refine (u8_short F D x c a s w hd hE).mono ?_
  rintro e w1 ⟨rfl, v', d1, g1⟩
  go_wp2_with fail
  go_ret
  exact ⟨rfl, v', d1, g1⟩

theorem zu8_ok (D g o n c : Nat) (z : Int) (w : World) (hd : Dec w D (some ⟨g, o, none⟩) (n + 1) (c + 1) .nilIface) (hnc : n ≤ c) (hc : c + 1 ≤ maxLen) (hg : g ≠ D) (hz : w.cell? ⟨g, o, none⟩ = some (.int .u8 z)) :
    Calls Tryf.prog 12 #[.pointer (some ⟨D, 0, none⟩)] w fun e w' => e = .returned (.int .u8 z) ∧
      ∃ o', Dec w' D (some ⟨g, o', none⟩) n c .nilIface ∧ (0 < n → o' = o + 1) ∧ w.grownBy w' (some D) := by
  go_enter Tryf.func12, Tryf.ntmps12
  go_wp2_with fail
  refine (u8_ok D g o n c z w hd hnc hc hg hz).mono ?_
  rintro e w1 ⟨rfl, o', d1, ho, g1⟩
  have HO := hide_prop ho
  clear ho
  go_wp2_with fail
  go_ret
  exact ⟨rfl, o', d1, HO.out, g1⟩

theorem zparams_err (D : Nat) (x : Option Addr) (n c : Nat) (t : TypeId) (v : Value) (w : World) (hd : Dec w D x n c (.iface t v)) :
    Calls Tryf.prog 18 #[.pointer (some ⟨D, 0, none⟩)] w fun e w' => e = .returned (.slice none 0 0) ∧ w = w' := by
  go_enter Tryf.func18, Tryf.ntmps18
  go_wp2_with fail
  refine (params_err D x n c t v w hd).mono ?_
  rintro e w1 ⟨rfl, rfl⟩
  go_wp2_with fail
  go_ret
  exact ⟨rfl, rfl⟩

theorem zparams_empty (F : Interp) (D : Nat) (x : Option Addr) (c : Nat) (a : Addr) (s : ByteArray) (w : World) (hd : Dec w D x 0 c .nilIface) (hE : Env2 F w a s D) :
    Calls Tryf.prog 18 #[.pointer (some ⟨D, 0, none⟩)] w fun e w' => e = .returned (.slice none 0 0) ∧ ∃ v, Dec w' D x 0 c (.iface 71 v) ∧ w.grownBy w' (some D) := by
  go_enter Tryf.func18, Tryf.ntmps18
  go_wp2_with fail
  refine (params_empty F D x c a s w hd hE).mono ?_
  rintro e w1 ⟨rfl, v', d1, g1⟩
  go_wp2_with fail
  go_ret
  exact ⟨rfl, v', d1, g1⟩

theorem zparams_zero (F : Interp) (D g o n c : Nat) (a : Addr) (s : ByteArray) (w : World) (hd : Dec w D (some ⟨g, o, none⟩) (n + 1) (c + 1) .nilIface) (hnc : n ≤ c) (hc : c + 1 ≤ maxLen) (hg : g ≠ D) (hz : w.cell? ⟨g, o, none⟩ = some (.int .u8 0)) (hE : Env2 F w a s D) :
    Calls Tryf.prog 18 #[.pointer (some ⟨D, 0, none⟩)] w fun e w' => e = .returned (.slice none 0 0) ∧
      ∃ o' v, Dec w' D (some ⟨g, o', none⟩) n c (.iface 71 v) ∧ (0 < n → o' = o + 1) ∧ w.grownBy w' (some D) := by
  go_enter Tryf.func18, Tryf.ntmps18
  go_wp2_with fail
  refine (params_zero F D g o n c a s w hd hnc hc hg hz hE).mono ?_
  rintro e w1 ⟨rfl, o', v, d1, ho, g1⟩
  have HO := hide_prop ho
  clear ho
  go_wp2_with fail
  go_ret
  exact ⟨rfl, o', v, d1, HO.out, g1⟩

theorem zparams_short (F : Interp) (D g o n c k : Nat) (a : Addr) (s : ByteArray) (w : World) (hd : Dec w D (some ⟨g, o, none⟩) (n + 1) (c + 1) .nilIface) (hnc : n ≤ c) (hc : c + 1 ≤ maxLen) (hg : g ≠ D) (hk : n < k) (hk8 : k ≤ 255) (hz : w.cell? ⟨g, o, none⟩ = some (.int .u8 k)) (hE : Env2 F w a s D) :
    Calls Tryf.prog 18 #[.pointer (some ⟨D, 0, none⟩)] w fun e w' => e = .returned (.slice none 0 0) ∧
      ∃ o' v, Dec w' D (some ⟨g, o', none⟩) n c (.iface 71 v) ∧ (0 < n → o' = o + 1) ∧ w.grownBy w' (some D) := by
  go_enter Tryf.func18, Tryf.ntmps18
  go_wp2_with fail
  refine (params_short F D g o n c k a s w hd hnc hc hg hk hk8 hz hE).mono ?_
  rintro e w1 ⟨rfl, o', v, d1, ho, g1⟩
  have HO := hide_prop ho
  clear ho
  go_wp2_with fail
  go_ret
  exact ⟨rfl, o', v, d1, HO.out, g1⟩

theorem zparams_ok (D g o n c k : Nat) (w : World) (hd : Dec w D (some ⟨g, o, none⟩) (n + 1) (c + 1) .nilIface) (hnc : n ≤ c) (hc : c + 1 ≤ maxLen) (hg : g ≠ D) (hk : k ≤ n) (hk1 : 0 < k) (hk8 : k ≤ 255) (hz : w.cell? ⟨g, o, none⟩ = some (.int .u8 k)) :
    Calls Tryf.prog 18 #[.pointer (some ⟨D, 0, none⟩)] w fun e w' => e = .returned (.slice (some ⟨g, o + 1, none⟩) k k) ∧
      ∃ o', Dec w' D (some ⟨g, o', none⟩) (n - k) (c - k) .nilIface ∧ (0 < n - k → o' = o + 1 + k) ∧ w.grownBy w' (some D) := by
  go_enter Tryf.func18, Tryf.ntmps18
  go_wp2_with fail
  refine (params_ok D g o n c k w hd hnc hc hg hk hk1 hk8 hz).mono ?_
  rintro e w1 ⟨rfl, o', d1, ho, g1⟩
  have HO := hide_prop ho
  clear ho
  go_wp2_with fail
  go_ret
  exact ⟨rfl, o', d1, HO.out, g1⟩

end Go.Proofs.Qxb6612340aFmt
