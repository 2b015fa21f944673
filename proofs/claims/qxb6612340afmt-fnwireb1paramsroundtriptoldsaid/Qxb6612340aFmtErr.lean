/-
  Seat b6612340aF: fmt.Errorf (32) at "%w: .." of a sentinel, over the calling stop: a new error that is not nil; nothing old turns. (After the guide's worked HostportFmt, HostportCalls.)
-/
import Derived.Test.Qxb6612340aFmtRows
import Derived.Stop.CallBack
import Derived.Stop.IfaceNil
import GoSem.ClaimData
import Derived.WalkKit
import Derived.WalkSpells
import Derived.BigCall
namespace Go.Proofs.Qxb6612340aFmt
open Go.RowKit Go.Extern.Stop Go.Stop Go.Extern

theorem Tryf.call36 (args : Array Value) (w : World) : (callFunc 36 args).run Tryf.prog w = (FmtCalls.errorf #[9, 69] #[31] args).run Tryf.prog w :=
  run_callFunc_next Tryf.func36 (by kernel_rfl) (by kernel_rfl) (by kernel_rfl) args w
theorem Tryf.guard (name : String) (w : World) : (FmtStop.guard name).run Tryf.prog w = .ok () w := by kernel_rfl
theorem Tryf.nextTurns : Extern.next FmtCalls.turnsRow = some (FmtCalls.begun #[] #[]) := by kernel_rfl
theorem Tryf.fmtA : FmtStop.printed? ⟨#[37, 119, 58, 32, 116, 114, 117, 110, 99, 97, 116, 101, 100]⟩ 1 = some [(0, 119, false)] := by kernel_rfl
theorem Tryf.fmtAr (w : World) : (FmtDoors.printed ⟨#[37, 119, 58, 32, 116, 114, 117, 110, 99, 97, 116, 101, 100]⟩ 1).run Tryf.prog w = .ok [(0, 119, false)] w := by kernel_rfl
theorem Tryf.fmtB : FmtStop.printed? ⟨#[37, 119, 58, 32, 97, 32, 114, 101, 97, 100, 32, 116, 104, 97, 116, 32, 115, 97, 121, 115, 32, 105, 116, 32, 99, 97, 114, 114, 105, 101, 115, 32, 112, 97, 114, 97, 109, 101, 116, 101, 114, 115, 32, 99, 97, 114, 114, 105, 101, 115, 32, 110, 111, 110, 101]⟩ 1 = some [(0, 119, false)] := by kernel_rfl
theorem Tryf.fmtBr (w : World) : (FmtDoors.printed ⟨#[37, 119, 58, 32, 97, 32, 114, 101, 97, 100, 32, 116, 104, 97, 116, 32, 115, 97, 121, 115, 32, 105, 116, 32, 99, 97, 114, 114, 105, 101, 115, 32, 112, 97, 114, 97, 109, 101, 116, 101, 114, 115, 32, 99, 97, 114, 114, 105, 101, 115, 32, 110, 111, 110, 101]⟩ 1).run Tryf.prog w = .ok [(0, 119, false)] w := by kernel_rfl
theorem Tryf.ptr71 (w : World) : (FmtStop.ptrTo "fmt.wrapError").run Tryf.prog w = .ok 71 w := by kernel_rfl
theorem Tryf.elem71 (w : World) : (elemOf 71).run Tryf.prog w = .ok 107 w := by kernel_rfl
theorem Tryf.ptr74 (w : World) : (FmtStop.ptrTo "errors.errorString").run Tryf.prog w = .ok 74 w := by kernel_rfl
theorem Tryf.elem74 (w : World) : (elemOf 74).run Tryf.prog w = .ok 76 w := by kernel_rfl
theorem Tryf.isError74' (w : World) : (FmtDoors.textMethod 74 "Error").run Tryf.prog w = .ok true w := by kernel_rfl
theorem Tryf.opPlain74_119w (name : String) (a : Addr) (s : ByteArray) (w : World) (hc : w.cell? a = some (.string s)) :
    ∃ r, (FmtStop.operand name true 119 false (.iface 74 (.pointer (some a)))).run Tryf.prog w = .ok (r, s.data.toList) w := by
  refine ⟨14 :: FmtStop.pack Tryf.t74.str.toUTF8.data.toList, ?_⟩
  have h1 : (typeStr 74).run Tryf.prog w = .ok Tryf.t74.str w := by kernel_rfl
  have d2 : Tryf.t74.desc = .pointer 76 := rfl
  have d3 : Tryf.t76.desc = .named "errors.errorString" 75 := rfl
  simp [FmtStop.operand, h1, d2, d3, run_load, hc]
theorem Tryf.actPlain74_119w (name : String) (x : Value) (w : World) : (FmtCalls.act name true 119 false (.iface 74 x)).run Tryf.prog w = .ok (.closed true) w := by kernel_rfl

attribute [local go_sem] Tryf.call36 Tryf.guard Tryf.fmtA Tryf.fmtAr Tryf.fmtB Tryf.fmtBr Tryf.ptr71 Tryf.elem71 Tryf.ptr74 Tryf.elem74 Tryf.isError74' Tryf.actPlain74_119w

set_option maxHeartbeats 800000 in
theorem errorf_a (F : Interp) (t : ByteArray) (a : Addr) (blk : Nat) (w : World) (hF : F.answers w.tape)
    (hc0 : w.cell? ⟨blk, 0, none⟩ = some (.iface 74 (.pointer (some a)))) (hs : w.cell? a = some (.string t)) :
    Calls Tryf.prog 32 #[.string ⟨#[37, 119, 58, 32, 116, 114, 117, 110, 99, 97, 116, 101, 100]⟩, .slice (some ⟨blk, 0, none⟩) 1 1] w fun e w' =>
      e = .returned (.iface 71 (.pointer (some ⟨w.heap.size, 0, none⟩))) ∧ Below w.heap.size w w' := by
  have hF' := answers_open hF
  obtain ⟨r, hop⟩ := Tryf.opPlain74_119w "fmt.errorf" a t w hs
  go_enter Tryf.func32, Tryf.ntmps32
  go_wp2
  apply rows_value Tryf.nextTurns
  case hr =>
    go_simp
    exact ⟨rfl, rfl⟩
  case h =>
    go_wp2
    go_ret
    exact ⟨rfl, ((Below.refl _ _).alloc (Nat.le_refl _) _).drew⟩

set_option maxHeartbeats 800000 in
theorem errorf_b (F : Interp) (t : ByteArray) (a : Addr) (blk : Nat) (w : World) (hF : F.answers w.tape)
    (hc0 : w.cell? ⟨blk, 0, none⟩ = some (.iface 74 (.pointer (some a)))) (hs : w.cell? a = some (.string t)) :
    Calls Tryf.prog 32 #[.string ⟨#[37, 119, 58, 32, 97, 32, 114, 101, 97, 100, 32, 116, 104, 97, 116, 32, 115, 97, 121, 115, 32, 105, 116, 32, 99, 97, 114, 114, 105, 101, 115, 32, 112, 97, 114, 97, 109, 101, 116, 101, 114, 115, 32, 99, 97, 114, 114, 105, 101, 115, 32, 110, 111, 110, 101]⟩, .slice (some ⟨blk, 0, none⟩) 1 1] w fun e w' =>
      e = .returned (.iface 71 (.pointer (some ⟨w.heap.size, 0, none⟩))) ∧ Below w.heap.size w w' := by
  have hF' := answers_open hF
  obtain ⟨r, hop⟩ := Tryf.opPlain74_119w "fmt.errorf" a t w hs
  go_enter Tryf.func32, Tryf.ntmps32
  go_wp2
  apply rows_value Tryf.nextTurns
  case hr =>
    go_simp
    exact ⟨rfl, rfl⟩
  case h =>
    go_wp2
    go_ret
    exact ⟨rfl, ((Below.refl _ _).alloc (Nat.le_refl _) _).drew⟩

end Go.Proofs.Qxb6612340aFmt
