/-
  Seat b6612247a: WHAT IS WANTED, collected by append: the state of that loop, and the end (ZZeachDue and zzSameMultiset agree).
-/
import Derived.Test.Qxb6612247aWalkD
import Derived.Test.Qxb6612247aWalkE
namespace Go.Proofs.Qxb6612247a
open Go.RowKit

structure WantSt (w0 w : World) (B : Nat) (zs : List Int) (ks : List ByteArray) (js : List Nat) (m : Nat) (x1 : Option Addr) (c1 : Nat) (x2 : Option Addr) (c2 : Nat) : Prop where
  len : js.length = m
  own1 : w.ownsRow B 2 1 (.slice x1 m c1) m (js.map fun j => .int .i64 (zs.getD j 0))
  own2 : w.ownsRow B 9 1 (.slice x2 m c2) m (js.map fun j => .string (ks.getD j ByteArray.empty))
  below : Below B w0 w
  size : B ≤ w.heap.size

theorem WantSt.start (w : World) (zs : List Int) (ks : List ByteArray) : WantSt w w w.heap.size zs ks [] 0 none 0 none 0 :=
  ⟨rfl, World.ownsRow_nil _ _ _ _, World.ownsRow_nil _ _ _ _, Below.refl _ _, Nat.le_refl _⟩

theorem WantSt.mid {w0 w w1 : World} {B : Nat} {zs : List Int} {ks : List ByteArray} {js : List Nat} {m : Nat} {x1 : Option Addr} {c1 : Nat} {x2 : Option Addr} {c2 : Nat} {o : Obj} (h : WantSt w0 w B zs ks js m x1 c1 x2 c2)
    (hg : (w.alloc o).grownBy w1 (Value.slice x1 m c1).ownBlock) :
    w1.ownsRow B 9 1 (.slice x2 m c2) m (js.map fun j => .string (ks.getD j ByteArray.empty)) ∧ Below B w0 w1 ∧ B ≤ w1.heap.size := by
  have hs := hg.size
  simp at hs
  refine ⟨(h.own2.alloc o).kept hg (own_apart h.own2 h.own1 (by decide)), (h.below.alloc h.size o).grown hg (by have := h.size; simp; omega) (fun k hk => (h.own1.lt k hk).1), by have := h.size; omega⟩

theorem WantSt.next {w0 w1 w2 : World} {B k : Nat} {zs : List Int} {ks : List ByteArray} {js : List Nat} {m : Nat} {y1 : Option Addr} {d1 : Nat} {x2 : Option Addr} {c2 : Nat} {y2 : Option Addr} {d2 : Nat} {o : Obj} {z : Int} {s : ByteArray}
    (hl : js.length = m) (ho1 : w1.ownsRow B 2 1 (.slice y1 (m + 1) d1) (m + 1) ((js.map fun j => .int .i64 (zs.getD j 0)) ++ [.int .i64 z]))
    (own2 : w1.ownsRow B 9 1 (.slice x2 m c2) m (js.map fun j => .string (ks.getD j ByteArray.empty))) (below : Below B w0 w1) (size : B ≤ w1.heap.size)
    (hg : (w1.alloc o).grownBy w2 (Value.slice x2 m c2).ownBlock) (ho2 : w2.ownsRow B 9 1 (.slice y2 (m + 1) d2) (m + 1) ((js.map fun j => .string (ks.getD j ByteArray.empty)) ++ [.string s]))
    (hz : z = zs.getD k 0) (hs : s = ks.getD k ByteArray.empty) : WantSt w0 w2 B zs ks (js ++ [k]) (m + 1) y1 d1 y2 d2 := by
  have hsz := hg.size
  simp at hsz
  refine ⟨by simp [hl], ?_, ?_, (below.alloc size o).grown hg (by simp; omega) (fun k hk => (own2.lt k hk).1), by omega⟩
  · have := (ho1.alloc o).kept hg (own_apart ho1 own2 (by decide))
    simpa [hz] using this
  · simpa [hs] using ho2

theorem rowI_own {w : World} {B n : Nat} {zs : List Int} {x : Option Addr} {c : Nat} (h : w.ownsRow B 2 1 (.slice x n c) n (zs.map (Value.int .i64))) : RowI w x n zs := by
  have hl : zs.length = n := by simpa using h.1
  refine ⟨hl, fun hn => ?_⟩
  rcases h.2 with ⟨_, h0⟩ | ⟨g, cap, cur, hv, _⟩
  · omega
  · simp only [Value.slice.injEq, true_and] at hv
    obtain ⟨rfl, rfl⟩ := hv
    refine ⟨g, 0, rfl, fun j hj => ?_⟩
    rw [Nat.zero_add, h.cellAt j (by omega)]
    have : j < zs.length := by omega
    simp [this]
theorem rowS_own {w : World} {B n : Nat} {ks : List ByteArray} {x : Option Addr} {c : Nat} (h : w.ownsRow B 9 1 (.slice x n c) n (ks.map Value.string)) : RowS w x n ks := by
  have hl : ks.length = n := by simpa using h.1
  refine ⟨hl, fun hn => ?_⟩
  rcases h.2 with ⟨_, h0⟩ | ⟨g, cap, cur, hv, _⟩
  · omega
  · simp only [Value.slice.injEq, true_and] at hv
    obtain ⟨rfl, rfl⟩ := hv
    refine ⟨g, 0, rfl, fun j hj => ?_⟩
    rw [Nat.zero_add, h.cellAt j (by omega)]
    have : j < ks.length := by omega
    simp [this]

theorem WantSt.rowI {w0 w : World} {B : Nat} {zs : List Int} {ks : List ByteArray} {js : List Nat} {m : Nat} {x1 : Option Addr} {c1 : Nat} {x2 : Option Addr} {c2 : Nat} (h : WantSt w0 w B zs ks js m x1 c1 x2 c2) :
    RowI w x1 m (js.map fun j => zs.getD j 0) := rowI_own (B := B) (c := c1) (by rw [List.map_map]; exact h.own1)
theorem WantSt.rowS {w0 w : World} {B : Nat} {zs : List Int} {ks : List ByteArray} {js : List Nat} {m : Nat} {x1 : Option Addr} {c1 : Nat} {x2 : Option Addr} {c2 : Nat} (h : WantSt w0 w B zs ks js m x1 c1 x2 c2) :
    RowS w x2 m (js.map fun j => ks.getD j ByteArray.empty) := rowS_own (B := B) (c := c2) (by rw [List.map_map]; exact h.own2)

theorem pairs_map (L : List Nat) (f : Nat → Int) (g : Nat → ByteArray) : pairsTo (L.map f) (L.map g) L.length = L.map fun j => (f j, g j) := by
  unfold pairsTo
  apply List.ext_getElem
  · simp
  · intro i h1 h2
    simp at h1 h2
    simp [h1]

/-- The visited and the wanted are the same pairs. -/
theorem agree {n i m : Nat} {zs : List Int} {ks : List ByteArray} {now : Int} {js : List Nat} (hjs : js = (List.range n).filter (reach (dueAt zs now) i)) (hm : ((visit n (dueAt zs now) n i).map fun j => (pairAt zs ks j).1).length = m) :
    js.length = m ∧ (pairsTo ((visit n (dueAt zs now) n i).map fun j => (pairAt zs ks j).1) ((visit n (dueAt zs now) n i).map fun j => (pairAt zs ks j).2) m).Perm (pairsTo (js.map fun j => zs.getD j 0) (js.map fun j => ks.getD j ByteArray.empty) m) := by
  have hp := perm_visit n (dueAt zs now) n i (by omega)
  rw [← hjs] at hp
  rw [List.length_map] at hm
  have hl : js.length = m := hp.length_eq.symm.trans hm
  refine ⟨hl, ?_⟩
  have e1 := pairs_map (visit n (dueAt zs now) n i) (fun j => (pairAt zs ks j).1) (fun j => (pairAt zs ks j).2)
  have e2 := pairs_map js (fun j => zs.getD j 0) (fun j => ks.getD j ByteArray.empty)
  rw [hm] at e1
  rw [hl] at e2
  rw [e1, e2]
  exact hp.map _

theorem range_filter_yes (sel : Nat → Bool) (k : Nat) (h : sel k = true) : (List.range (k + 1)).filter sel = (List.range k).filter sel ++ [k] := by
  rw [List.range_succ, List.filter_append]
  simp [h]
theorem range_filter_no (sel : Nat → Bool) (k : Nat) (h : sel k = false) : (List.range (k + 1)).filter sel = (List.range k).filter sel := by
  rw [List.range_succ, List.filter_append]
  simp [h]
theorem range_filter_len (sel : Nat → Bool) (k : Nat) : ((List.range k).filter sel).length ≤ k := by
  have := List.length_filter_le sel (List.range k)
  simpa using this

end Go.Proofs.Qxb6612247a
