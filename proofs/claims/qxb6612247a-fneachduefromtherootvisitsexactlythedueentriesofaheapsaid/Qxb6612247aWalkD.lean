/-
  Seat b6612247a: the collecting closure of ZZeachDue (19), (deadlines).eachDue (18), ZZeachDue (13).
-/
import Derived.Test.Qxb6612247aWalkC
namespace Go.Proofs.Qxb6612247a
open Go.RowKit

theorem own_shape {w : World} {base : Nat} {e : TypeId} {size : Nat} {v : Value} {n : Nat} {xs : List Value} (h : w.ownsRow base e size v n xs) : ∃ x c, v = .slice x n c := by
  rcases h.2 with ⟨rfl, rfl⟩ | ⟨g, cap, cur, rfl, _⟩
  · exact ⟨_, _, rfl⟩
  · exact ⟨_, _, rfl⟩

/-- A captured slice variable in block b (its slice type t), the slice it holds owning the n cells xs (element type e), in a row from block C on. -/
structure Box (w : World) (C b : Nat) (t e : TypeId) (n : Nat) (xs : List Value) (x : Option Addr) (c : Nat) : Prop where
  blk : w.heap[b]? = some (.cells #[.slice x n c] t (0, 0))
  own : w.ownsRow C e 1 (.slice x n c) n xs

/-- Two rows of different element types lie in different blocks. -/
theorem own_apart {w : World} {C D e e' size size' n n' : Nat} {v v' : Value} {xs xs' : List Value} (h : w.ownsRow C e size v n xs) (h' : w.ownsRow D e' size' v' n' xs') (he : e ≠ e') : v.ownBlock = none ∨ v.ownBlock ≠ v'.ownBlock := by
  rcases h.2 with ⟨rfl, _⟩ | ⟨g, cap, cur, rfl, _, hg, _⟩
  · exact .inl rfl
  · rcases h'.2 with ⟨rfl, _⟩ | ⟨g', cap', cur', rfl, _, hg', _⟩
    · exact .inr (by simp [Value.ownBlock])
    · refine .inr fun e0 => he ?_
      simp only [Value.ownBlock, Option.some.injEq] at e0
      subst e0
      rw [hg] at hg'
      simp at hg'
      exact hg'.2

theorem Box.alloc {w : World} {C b t e n : Nat} {xs : List Value} {x : Option Addr} {c : Nat} (h : Box w C b t e n xs x c) (o : Obj) : Box (w.alloc o) C b t e n xs x c :=
  ⟨(Below.heap_alloc w o b (lt_of_block h.blk)).trans h.blk, h.own.alloc o⟩

/-- Another row has grown. -/
theorem Box.other {w w1 : World} {C b t e n : Nat} {xs : List Value} {x : Option Addr} {c : Nat} {row : Option Nat} (h : Box w C b t e n xs x c) (hg : w.grownBy w1 row) (hb : b < C) (hr : ∀ k, row = some k → C ≤ k)
    (hne : (Value.slice x n c).ownBlock = none ∨ (Value.slice x n c).ownBlock ≠ row) : Box w1 C b t e n xs x c :=
  ⟨(hg.block b (lt_of_block h.blk) (fun e0 => by have := hr b e0.symm; omega)).trans h.blk, h.own.kept hg hne⟩

/-- Another variable has been written. -/
theorem Box.setOther {w : World} {C b b' t e n : Nat} {xs : List Value} {x : Option Addr} {c : Nat} (h : Box w C b t e n xs x c) (hb : b ≠ b') (hC : b' < C) (v : Value) : Box (w.setCell ⟨b', 0, none⟩ v) C b t e n xs x c :=
  ⟨(Below.heap_setCell w ⟨b', 0, none⟩ v b hb).trans h.blk, ownsRow_setCell_below h.own (a := ⟨b', 0, none⟩) hC v⟩

/-- The variable itself is written: it holds another row. -/
theorem Box.set {w : World} {C b t e n' : Nat} {v : Value} {xs : List Value} {x' : Option Addr} {c' : Nat} (h : w.heap[b]? = some (.cells #[v] t (0, 0))) (hC : b < C) (ho : w.ownsRow C e 1 (.slice x' n' c') n' xs) :
    Box (w.setCell ⟨b, 0, none⟩ (.slice x' n' c')) C b t e n' xs x' c' :=
  ⟨one_setCell h, ownsRow_setCell_below ho (a := ⟨b, 0, none⟩) hC _⟩

/-- WHAT THE CALLS OF THE CLOSURE KEEP: ps has been collected; below C nothing but the two variables has turned. -/
structure Got (w0 w : World) (C ga gk : Nat) (ps : List (Int × ByteArray)) : Prop where
  lta : ga < C
  ltk : gk < C
  ne : ga ≠ gk
  ats : ∃ x c, Box w C ga 22 2 ps.length (ps.map fun p => .int .i64 p.1) x c
  keys : ∃ x c, Box w C gk 23 9 ps.length (ps.map fun p => .string p.2) x c
  size : C ≤ w.heap.size
  os : w.os = w0.os
  tape : w.tape = w0.tape
  output : w.output = w0.output
  block : ∀ k, k < C → k ≠ ga → k ≠ gk → w.heap[k]? = w0.heap[k]?

set_option maxHeartbeats 400000 in
theorem fn_any (w0 w : World) (C ga gk : Nat) (ps : List (Int × ByteArray)) (z : Int) (s : ByteArray) (h : Got w0 w C ga gk ps) (hl : ps.length ≤ 100000) :
    Calls Try.prog 19 #[.agg #[.int .i64 z, .string s], .pointer (some ⟨ga, 0, none⟩), .pointer (some ⟨gk, 0, none⟩)] w fun e w' => e = .returned (.tuple #[]) ∧ Got w0 w' C ga gk (ps ++ [(z, s)]) := by
  obtain ⟨i2, hi2, hz20, hz21, hz22⟩ := info_parts Try.info2
  obtain ⟨i9, hi9, hz90, hz91, hz92⟩ := info_parts Try.info9
  obtain ⟨x1, c1, bA⟩ := h.ats
  obtain ⟨x2, c2, bK⟩ := h.keys
  have lA := h.lta
  have lK := h.ltk
  have hne := h.ne
  have hC := h.size
  have ga_ := cell_of_one bA.blk
  have fa_ := free_of_one bA.blk
  have l1 := lt_of_block bA.blk
  have l2 := lt_of_block bK.blk
  go_enter Try.func19, Try.ntmps19
  go_wp2_with (at_builtin; refine wpList_append_own _ rfl (.tmp 4) (.tmp 7) 22 rfl C 2 i2 (.int .i64 0) 1 8 Try.underlying22 hi2 hz20 hz21 hz22 rfl (by decide) _ _ _ rfl ((bA.own.alloc _).alloc _) ⟨w.heap.size + 1, 0, none⟩ 1 1 [.int .i64 z] rfl rfl ?c1 ?c2 ?c3 ?c4 ?c5 ?_)
  case c1 =>
    intro j u hj
    match j, hj with
    | 0, hj => simp at hj; subst hj; simp [Addr.add]
  case c2 => intro u hu; simp at hu; subst hu; rfl
  case c3 => unfold maxLen; omega
  case c4 => omega
  case c5 => simp; omega
  intro v1 w1 ho1 hg1 _
  obtain ⟨y1, d1, hv1⟩ := own_shape ho1
  subst hv1
  have hr1 : ∀ k, (Value.slice x1 ps.length c1).ownBlock = some k → C ≤ k := fun k hk => (bA.own.lt k hk).1
  have lr1 : ∀ k, (Value.slice x1 ps.length c1).ownBlock = some k → k < w.heap.size := fun k hk => (bA.own.lt k hk).2
  have hA1 : w1.heap[ga]? = some (.cells #[.slice x1 ps.length c1] 22 (0, 0)) := (hg1.block ga (by simp; omega) (fun e0 => by have := hr1 ga e0.symm; omega)).trans ((bA.alloc _).alloc _).blk
  have bK1 : Box w1 C gk 23 9 ps.length (ps.map fun p => .string p.2) x2 c2 := ((bK.alloc _).alloc _).other hg1 lK hr1 (own_apart bK.own bA.own (by decide))
  have ec : w1.cell? ⟨w.heap.size, 1, none⟩ = some (.string s) := by
    refine (World.cell?_of_block (w := (w.alloc (.cells #[.int .i64 z, .string s] 37)).alloc (.cells #[.int .i64 z] 2)) (hg1.block w.heap.size (by simp; omega) (fun e0 => by have := lr1 _ e0.symm; omega))).trans ?_
    rw [World.cell?_alloc_lt _ _ _ (by simp)]
    simp
  have bA2 : Box (w1.setCell ⟨ga, 0, none⟩ (.slice y1 (ps.length + 1) d1)) C ga 22 2 (ps.length + 1) _ y1 d1 := Box.set hA1 lA ho1
  have bK2 := bK1.setOther (b' := ga) (Ne.symm hne) lA (.slice y1 (ps.length + 1) d1)
  have z1 : w.heap.size + 2 ≤ w1.heap.size := by have := hg1.size; simpa using this
  have HG : Hid (((w.alloc (.cells #[.int .i64 z, .string s] 37)).alloc (.cells #[.int .i64 z] 2)).grownBy w1 (Value.slice x1 ps.length c1).ownBlock) := hg1
  have ca1 := cell_of_one hA1
  have fa1 := free_of_one hA1
  have ck1 := cell_of_one bK1.blk
  have fk1 := free_of_one bK1.blk
  have n1 : ¬ ga = w.heap.size := by omega
  have n2 : ¬ gk = w.heap.size := by omega
  clear hg1 ho1 ga_ fa_
  go_wp2_with (at_builtin; refine wpList_append_own _ rfl (.tmp 9) (.tmp 12) 23 rfl C 9 i9 (.string ByteArray.empty) 1 16 Try.underlying23 hi9 hz90 hz91 hz92 rfl (by decide) _ _ _ rfl (bK2.own.alloc _) ⟨w1.heap.size, 0, none⟩ 1 1 [.string s] rfl rfl ?d1 ?d2 ?d3 ?d4 ?d5 ?_)
  case d1 =>
    intro j u hj
    match j, hj with
    | 0, hj =>
      simp at hj
      subst hj
      have := World.cell?_alloc_new (w1.setCell ⟨ga, 0, none⟩ (.slice y1 (ps.length + 1) d1)) #[.string s] 9 0
      rw [World.size_setCell] at this
      exact this
  case d2 => intro u hu; simp at hu; subst hu; rfl
  case d3 => unfold maxLen; omega
  case d4 => omega
  case d5 => simp; omega
  intro v2 w2 ho2 hg2 _
  obtain ⟨y2, d2, hv2⟩ := own_shape ho2
  subst hv2
  have hr2 : ∀ k, (Value.slice x2 ps.length c2).ownBlock = some k → C ≤ k := fun k hk => (bK.own.lt k hk).1
  have hK2 : w2.heap[gk]? = some (.cells #[.slice x2 ps.length c2] 23 (0, 0)) := (hg2.block gk (by simp; omega) (fun e0 => by have := hr2 gk e0.symm; omega)).trans (bK2.alloc _).blk
  have bA3 : Box w2 C ga 22 2 (ps.length + 1) _ y1 d1 := (bA2.alloc _).other hg2 lA hr2 (own_apart bA2.own bK2.own (by decide))
  have bK4 : Box (w2.setCell ⟨gk, 0, none⟩ (.slice y2 (ps.length + 1) d2)) C gk 23 9 (ps.length + 1) _ y2 d2 := Box.set hK2 lK ho2
  have bA4 := bA3.setOther (b' := gk) hne lK (.slice y2 (ps.length + 1) d2)
  have ck2 := cell_of_one hK2
  have fk2 := free_of_one hK2
  have z2 : w1.heap.size ≤ w2.heap.size := by have := hg2.size; simp at this; omega
  have R : Got w0 (w2.setCell ⟨gk, 0, none⟩ (.slice y2 (ps.length + 1) d2)) C ga gk (ps ++ [(z, s)]) := by
    refine ⟨lA, lK, hne, ⟨y1, d1, ?_⟩, ⟨y2, d2, ?_⟩, by simp; omega, ?_, ?_, ?_, fun k hk ka kk => ?_⟩
    · simpa using bA4
    · simpa using bK4
    · exact hg2.os.trans (HG.out.os.trans h.os)
    · exact hg2.tape.trans (HG.out.tape.trans h.tape)
    · exact hg2.output.trans (HG.out.output.trans h.output)
    · refine (Below.heap_setCell w2 ⟨gk, 0, none⟩ _ k kk).trans ((hg2.block k (by simp; omega) (fun e0 => by have := hr2 k e0.symm; omega)).trans ((Below.heap_alloc _ _ k (by simp; omega)).trans ((Below.heap_setCell w1 ⟨ga, 0, none⟩ _ k ka).trans ?_)))
      exact (HG.out.block k (by simp; omega) (fun e0 => by have := hr1 k e0.symm; omega)).trans ((Below.heap_alloc _ _ k (by simp; omega)).trans ((Below.heap_alloc _ _ k (by omega)).trans (h.block k hk ka kk)))
  clear hg2 ho2 bA3 bK4 bA4 bA2 bK2 bA bK bK1 HG h hA1
  go_wp2_with fail
  go_end0
  exact ⟨rfl, R⟩
/-- Is entry a due? -/
def dueAt (zs : List Int) (now : Int) (a : Nat) : Bool := decide (zs.getD a 0 ≤ now)
/-- The pair at place j. -/
def pairAt (zs : List Int) (ks : List ByteArray) (j : Nat) : Int × ByteArray := (zs.getD j 0, ks.getD j ByteArray.empty)

theorem Dead.later {w0 w : World} {g n : Nat} {zs : List Int} {ks : List ByteArray} (h : Dead w0 g n zs ks) (hb : w.heap[g]? = w0.heap[g]?) : Dead w g n zs ks := by
  intro j hj
  have e : ∀ o, w.cell? ⟨g, o, none⟩ = w0.cell? ⟨g, o, none⟩ := fun o => World.cell?_of_block (w := w0) (a := ⟨g, o, none⟩) hb
  rw [e, e]
  exact h j hj

set_option maxHeartbeats 400000 in
theorem each_any (w0 : World) (C ga gk g n : Nat) (zs : List Int) (ks : List ByteArray) (now : Int) (hn : n ≤ 1000000) (hD : Dead w0 g n zs ks) (hgC : g < C) (hga : g ≠ ga) (hgk : g ≠ gk) (f : Nat) :
    ∀ (i : Nat) (w : World) (ps : List (Int × ByteArray)), Got w0 w C ga gk ps → n ≤ i + f → ps.length + (visit n (dueAt zs now) f i).length ≤ 100000 →
    Calls Try.prog 18 #[.slice (some ⟨g, 0, none⟩) n n, .int .i64 i, .int .i64 now, .func (.func 19) #[] #[.pointer (some ⟨ga, 0, none⟩), .pointer (some ⟨gk, 0, none⟩)]] w fun e w' =>
      e = .returned (.tuple #[]) ∧ Got w0 w' C ga gk (ps ++ (visit n (dueAt zs now) f i).map (pairAt zs ks)) := by
  induction f with
  | zero =>
    intro i w ps hG hf _
    have hi : (n : Int) ≤ i := by omega
    go_enter Try.func18, Try.ntmps18
    go_wp2_with fail
    refine bodyPost_ret (results_none rfl _ _ _) rfl ?_
    exact ⟨rfl, by simpa [visit] using hG⟩
  | succ f ih =>
    intro i w ps hG hf hlen
    by_cases hi : i < n
    case neg =>
      have hi' : (n : Int) ≤ i := by omega
      go_enter Try.func18, Try.ntmps18
      go_wp2_with fail
      refine bodyPost_ret (results_none rfl _ _ _) rfl ?_
      exact ⟨rfl, by rw [visit, if_neg (by omega)]; simpa using hG⟩
    have hd := (hD.later (hG.block g hgC hga hgk)) i hi
    have hd1 := hd.1
    have hd2 := hd.2
    clear hd
    by_cases hz : zs.getD i 0 ≤ now
    case neg =>
      have hz' : now < zs[i]?.getD 0 := by rw [List.getD_eq_getElem?_getD] at hz; omega
      go_enter Try.func18, Try.ntmps18
      go_wp2_with fail
      refine bodyPost_ret (results_none rfl _ _ _) rfl ?_
      refine ⟨rfl, ?_⟩
      have hv : ¬ (i < n ∧ dueAt zs now i = true) := fun h => by have h3 : zs.getD i 0 ≤ now := of_decide_eq_true h.2; omega
      rw [visit, if_neg hv]
      simpa using hG
    have hv : i < n ∧ dueAt zs now i = true := ⟨hi, decide_eq_true hz⟩
    rw [visit, if_pos hv] at hlen ⊢
    simp only [List.length_cons, List.length_append] at hlen
    have HI : Hid (∀ (i : Nat) (w : World) (ps : List (Int × ByteArray)), Got w0 w C ga gk ps → n ≤ i + f → ps.length + (visit n (dueAt zs now) f i).length ≤ 100000 →
        Calls Try.prog 18 #[.slice (some ⟨g, 0, none⟩) n n, .int .i64 i, .int .i64 now, .func (.func 19) #[] #[.pointer (some ⟨ga, 0, none⟩), .pointer (some ⟨gk, 0, none⟩)]] w fun e w' =>
          e = .returned (.tuple #[]) ∧ Got w0 w' C ga gk (ps ++ (visit n (dueAt zs now) f i).map (pairAt zs ks))) := ih
    clear ih hv
    have hz' : zs[i]?.getD 0 ≤ now := by rw [List.getD_eq_getElem?_getD] at hz; exact hz
    go_enter Try.func18, Try.ntmps18
    go_wp2_with fail
    refine (fn_any w0 w C ga gk ps _ _ hG (by omega)).mono ?_
    rintro e w1 ⟨rfl, hG1⟩
    clear hd1 hd2
    go_wp2_with fail
    rw [show (2 * (i : Int) + 1) = ((2 * i + 1 : Nat) : Int) from by omega]
    refine (HI.out (2 * i + 1) w1 _ hG1 (by omega) (by simp; omega)).mono ?_
    rintro e w2 ⟨rfl, hG2⟩
    go_wp2_with fail
    rw [show (2 * (i : Int) + 2) = ((2 * i + 2 : Nat) : Int) from by omega]
    refine (HI.out (2 * i + 2) w2 _ hG2 (by omega) (by simp; omega)).mono ?_
    rintro e w3 ⟨rfl, hG3⟩
    go_wp2_with fail
    go_end0
    refine ⟨rfl, ?_⟩
    simpa [pairAt] using hG3

theorem of_any (a0 : Option Addr) (c0 : Nat) (a1 : Option Addr) (n c1 : Nat) (zs : List Int) (ks : List ByteArray) (w : World) (hn : n ≤ 1000000) (h0 : RowI w a0 n zs) (h1 : RowS w a1 n ks) :
    Calls Try.prog 16 #[.slice a0 n c0, .slice a1 n c1] w fun e w' => e = .returned (.slice (some ⟨w.heap.size, 0, none⟩) n n) ∧ Dead w' w.heap.size n zs ks ∧ Below w.heap.size w w' ∧ w.heap.size < w'.heap.size := by
  obtain ⟨hlz, hr0⟩ := h0
  obtain ⟨hlk, hr1⟩ := h1
  by_cases hz : n = 0
  · subst hz
    exact of_zero a0 c0 a1 0 c1 zs ks w
  · obtain ⟨b0, o0, rfl, hc0⟩ := hr0 (by omega)
    obtain ⟨b1, o1, rfl, hc1⟩ := hr1 (by omega)
    exact of_some b0 o0 c0 b1 o1 n c1 zs ks w hn (by omega) hlz hlk hc0 hc1 (lt_of_cell (hc0 0 (by omega))) (lt_of_cell (hc1 0 (by omega)))

theorem Box.rowI {w : World} {C b t n : Nat} {zs : List Int} {x : Option Addr} {c : Nat} (h : Box w C b t 2 n (zs.map (Value.int .i64)) x c) : RowI w x n zs := by
  have hl : zs.length = n := by simpa using h.own.1
  refine ⟨hl, fun hn => ?_⟩
  rcases h.own.2 with ⟨_, h0⟩ | ⟨g, cap, cur, hv, _⟩
  · omega
  · simp only [Value.slice.injEq, true_and] at hv
    obtain ⟨rfl, rfl⟩ := hv
    refine ⟨g, 0, rfl, fun j hj => ?_⟩
    rw [Nat.zero_add, h.own.cellAt j (by omega)]
    have : j < zs.length := by omega
    simp [this]
theorem Box.rowS {w : World} {C b t n : Nat} {ks : List ByteArray} {x : Option Addr} {c : Nat} (h : Box w C b t 9 n (ks.map Value.string) x c) : RowS w x n ks := by
  have hl : ks.length = n := by simpa using h.own.1
  refine ⟨hl, fun hn => ?_⟩
  rcases h.own.2 with ⟨_, h0⟩ | ⟨g, cap, cur, hv, _⟩
  · omega
  · simp only [Value.slice.injEq, true_and] at hv
    obtain ⟨rfl, rfl⟩ := hv
    refine ⟨g, 0, rfl, fun j hj => ?_⟩
    rw [Nat.zero_add, h.own.cellAt j (by omega)]
    have : j < ks.length := by omega
    simp [this]

set_option maxHeartbeats 400000 in
theorem zzeach_any (a0 : Option Addr) (c0 : Nat) (a1 : Option Addr) (n c1 : Nat) (zs : List Int) (ks : List ByteArray) (i : Nat) (now : Int) (w : World) (hn : n ≤ 50000) (h0 : RowI w a0 n zs) (h1 : RowS w a1 n ks) :
    Calls Try.prog 13 #[.slice a0 n c0, .slice a1 n c1, .int .i64 i, .int .i64 now] w fun e w' => ∃ x1 d1 x2 d2 m, e = .returned (.tuple #[.slice x1 m d1, .slice x2 m d2]) ∧
      RowI w' x1 m ((visit n (dueAt zs now) n i).map fun j => (pairAt zs ks j).1) ∧ RowS w' x2 m ((visit n (dueAt zs now) n i).map fun j => (pairAt zs ks j).2) ∧ Below w.heap.size w w' := by
  have hmf : ∀ (fn : Fn) (first cap : Array Value) (w : World), (Instr.makeFunc fn first cap).run Try.prog w = .ok (.func fn first cap) w := fun _ _ _ _ => rfl
  have bel0 : Below w.heap.size w ((w.alloc (.cells #[.slice none 0 0] 22)).alloc (.cells #[.slice none 0 0] 23)) := ((Below.refl _ _).alloc (Nat.le_refl _) _).alloc (by simp) _
  have R0 := h0.later bel0
  have R1 := h1.later bel0
  go_enter Try.func13, Try.ntmps13
  go_wp2_with fail
  refine (of_any a0 c0 a1 n c1 zs ks _ (by omega) R0 R1).mono ?_
  rintro e w1 ⟨rfl, hD, hb, hlt⟩
  simp only [World.size_alloc] at hD hb hlt ⊢
  have HG : Got w1 w1 w1.heap.size w.heap.size (w.heap.size + 1) [] := by
    refine ⟨by omega, by omega, by omega, ⟨none, 0, ?_, World.ownsRow_nil _ _ _ _⟩, ⟨none, 0, ?_, World.ownsRow_nil _ _ _ _⟩, Nat.le_refl _, rfl, rfl, rfl, fun _ _ _ _ => rfl⟩
    · rw [hb.block w.heap.size (by omega), Below.heap_alloc _ _ _ (by simp)]
      exact heap_alloc_new w _
    · rw [hb.block (w.heap.size + 1) (by omega)]
      have := heap_alloc_new (w.alloc (.cells #[.slice none 0 0] 22)) (.cells #[.slice none 0 0] 23)
      simpa using this
  have hvl := length_visit_le n (dueAt zs now) n i (by omega)
  have HB : Hid (Below (w.heap.size + 2) ((w.alloc (.cells #[.slice none 0 0] 22)).alloc (.cells #[.slice none 0 0] 23)) w1) := hb
  clear hb
  go_wp2_with fail
  refine (each_any w1 w1.heap.size w.heap.size (w.heap.size + 1) (w.heap.size + 2) n zs ks now (by omega) hD hlt (by omega) (by omega) n i w1 [] HG (by omega) (by simp; omega)).mono ?_
  rintro e w2 ⟨rfl, hG2⟩
  rw [List.nil_append] at hG2
  obtain ⟨x1, d1, bA⟩ := hG2.ats
  obtain ⟨x2, d2, bK⟩ := hG2.keys
  rw [List.length_map] at bA bK
  have HG2 : Hid (Got w1 w2 w1.heap.size w.heap.size (w.heap.size + 1) ((visit n (dueAt zs now) n i).map (pairAt zs ks))) := hG2
  clear hG2 HG
  have ca := cell_of_one bA.blk
  have fa := free_of_one bA.blk
  have ck := cell_of_one bK.blk
  have fk := free_of_one bK.blk
  go_wp2_with fail
  go_region
  go_wp2_with fail
  refine bodyPost_ret (v := .tuple #[.slice x1 (visit n (dueAt zs now) n i).length d1, .slice x2 (visit n (dueAt zs now) n i).length d2]) (by simp [results, Try.results13, go_sem, ca, ck]) rfl ?_
  have e1 : ((visit n (dueAt zs now) n i).map (pairAt zs ks)).map (fun p => Value.int .i64 p.1) = ((visit n (dueAt zs now) n i).map fun j => (pairAt zs ks j).1).map (Value.int .i64) := by simp [List.map_map, Function.comp_def]
  have e2 : ((visit n (dueAt zs now) n i).map (pairAt zs ks)).map (fun p => Value.string p.2) = ((visit n (dueAt zs now) n i).map fun j => (pairAt zs ks j).2).map Value.string := by simp [List.map_map, Function.comp_def]
  rw [e1] at bA
  rw [e2] at bK
  refine ⟨x1, d1, x2, d2, _, rfl, ?_, ?_, ?_⟩
  · exact ((Box.set bA.blk HG2.out.lta bA.own).setOther HG2.out.ne HG2.out.ltk _).rowI
  · exact (Box.set (bK.setOther (Ne.symm HG2.out.ne) HG2.out.lta _).blk HG2.out.ltk (bK.setOther (Ne.symm HG2.out.ne) HG2.out.lta _).own).rowS
  · have b1 : Below w.heap.size w w1 := bel0.trans (HB.out.mono (by omega))
    have b2 : Below w.heap.size w1 w2 := ⟨HG2.out.os, HG2.out.tape, HG2.out.output, HG2.out.size, fun k hk => HG2.out.block k (by omega) (by omega) (by omega)⟩
    exact ((((b1.trans b2).setCell (Nat.le_refl _) _).setCell (by show _ ≤ w.heap.size + 1; omega) _)).drew

end Go.Proofs.Qxb6612247a
