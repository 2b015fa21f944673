/-
  Seat b6612247a: THE PLAIN MATHEMATICS: heaps, the entries that eachDue visits, the order on pairs. No program in sight.
-/
import Derived.Laws.Strings
namespace Go.Proofs.Qxb6612247a

/-! ### the heap -/
def IsHeap (zs : List Int) : Prop := ∀ j, 1 ≤ j → j < zs.length → zs.getD ((j - 1) / 2) 0 ≤ zs.getD j 0

theorem heap_root {zs : List Int} (h : IsHeap zs) (m : Nat) : ∀ j, j ≤ m → j < zs.length → zs.getD 0 0 ≤ zs.getD j 0 := by
  induction m with
  | zero => intro j hj _; obtain rfl : j = 0 := by omega
            exact Int.le_refl _
  | succ m ih =>
    intro j hj hl
    by_cases h0 : j = 0
    · subst h0; exact Int.le_refl _
    · exact Int.le_trans (ih ((j - 1) / 2) (by omega) (by omega)) (h j (by omega) hl)

theorem heap_min {zs : List Int} (h : IsHeap zs) (j : Nat) (hl : j < zs.length) : zs.getD 0 0 ≤ zs.getD j 0 := heap_root h j j (Nat.le_refl _) hl

/-! ### what lies on the way up from a to i -/
/-- j = a is due, and so is all on the way up from it to i, which it comes to. (The number f: at least a.) -/
def reachF (due : Nat → Bool) (i : Nat) : Nat → Nat → Bool
  | 0, a => a == i && due a
  | f + 1, a => if i < a then due a && reachF due i f ((a - 1) / 2) else a == i && due a

theorem reachF_fuel (due : Nat → Bool) (i : Nat) : ∀ f g a, a ≤ f → a ≤ g → reachF due i f a = reachF due i g a
  | 0, 0, _, _, _ => rfl
  | 0, g + 1, a, hf, _ => by
    obtain rfl : a = 0 := by omega
    simp [reachF]
  | f + 1, 0, a, _, hg => by
    obtain rfl : a = 0 := by omega
    simp [reachF]
  | f + 1, g + 1, a, hf, hg => by
    simp only [reachF]
    by_cases h : i < a
    · rw [if_pos h, if_pos h, reachF_fuel due i f g ((a - 1) / 2) (by omega) (by omega)]
    · rw [if_neg h, if_neg h]

def reach (due : Nat → Bool) (i a : Nat) : Bool := reachF due i a a

theorem reach_up (due : Nat → Bool) (i a : Nat) (h : i < a) : reach due i a = (due a && reach due i ((a - 1) / 2)) := by
  unfold reach
  obtain ⟨f, rfl⟩ : ∃ f, a = f + 1 := ⟨a - 1, by omega⟩
  rw [reachF, if_pos h, reachF_fuel due i f ((f + 1 - 1) / 2) ((f + 1 - 1) / 2) (by omega) (by omega)]

theorem reach_end (due : Nat → Bool) (i a : Nat) (h : ¬ i < a) : reach due i a = (a == i && due a) := by
  unfold reach
  cases a with
  | zero => rfl
  | succ f => rw [reachF, if_neg h]

theorem reach_le (due : Nat → Bool) (i : Nat) (a : Nat) (h : reach due i a = true) : i ≤ a := by
  by_cases hi : i < a
  · omega
  · rw [reach_end due i a hi] at h
    simp at h
    omega

theorem reach_split (due : Nat → Bool) (i : Nat) (m : Nat) : ∀ j, j ≤ m → (reach due i j = true ↔ (due i = true ∧ (j = i ∨ reach due (2 * i + 1) j = true ∨ reach due (2 * i + 2) j = true))) := by
  induction m with
  | zero =>
    intro j hj
    obtain rfl : j = 0 := by omega
    rw [reach_end due i 0 (by omega), reach_end due (2 * i + 1) 0 (by omega), reach_end due (2 * i + 2) 0 (by omega)]
    simp
    constructor
    · rintro ⟨rfl, h⟩; exact ⟨h, rfl⟩
    · rintro ⟨h, rfl⟩; exact ⟨rfl, h⟩
  | succ m ih =>
    intro j hj
    by_cases h : i < j
    · have hp := ih ((j - 1) / 2) (by omega)
      rw [reach_up due i j h, Bool.and_eq_true, hp]
      constructor
      · rintro ⟨hd, hi, hx⟩
        refine ⟨hi, .inr ?_⟩
        rcases hx with hx | hx | hx
        · by_cases e : j = 2 * i + 1
          · left; rw [reach_end due _ _ (by omega)]; simp [hd]; omega
          · right; rw [reach_end due _ _ (by omega)]; simp [hd]; omega
        · left
          have := reach_le _ _ _ hx
          rw [reach_up due _ _ (by omega)]; simp [hd, hx]
        · right
          have := reach_le _ _ _ hx
          rw [reach_up due _ _ (by omega)]; simp [hd, hx]
      · rintro ⟨hi, hx⟩
        rcases hx with hx | hx | hx
        · omega
        · by_cases e : 2 * i + 1 < j
          · rw [reach_up due _ _ e] at hx
            simp at hx
            exact ⟨hx.1, hi, .inr (.inl hx.2)⟩
          · have := reach_le _ _ _ hx
            rw [reach_end due _ _ e] at hx
            simp at hx
            exact ⟨hx.2, hi, .inl (by omega)⟩
        · by_cases e : 2 * i + 2 < j
          · rw [reach_up due _ _ e] at hx
            simp at hx
            exact ⟨hx.1, hi, .inr (.inr hx.2)⟩
          · have := reach_le _ _ _ hx
            rw [reach_end due _ _ e] at hx
            simp at hx
            exact ⟨hx.2, hi, .inl (by omega)⟩
    · rw [reach_end due i j h]
      constructor
      · intro hx
        simp at hx
        obtain ⟨rfl, hd⟩ := hx
        exact ⟨hd, .inl rfl⟩
      · rintro ⟨hi, hx⟩
        rcases hx with rfl | hx | hx
        · simp [hi]
        · have := reach_le _ _ _ hx; omega
        · have := reach_le _ _ _ hx; omega

theorem reach_apart (due : Nat → Bool) (i : Nat) (m : Nat) : ∀ j, j ≤ m → reach due (2 * i + 1) j = true → reach due (2 * i + 2) j = true → False := by
  induction m with
  | zero =>
    intro j hj h1 _
    have := reach_le _ _ _ h1
    omega
  | succ m ih =>
    intro j hj h1 h2
    have l1 := reach_le _ _ _ h1
    have l2 := reach_le _ _ _ h2
    by_cases e : j = 2 * i + 2
    · subst e
      rw [reach_up due _ _ (by omega)] at h1
      simp at h1
      have := reach_le _ _ _ h1.2
      omega
    · rw [reach_up due _ _ (by omega)] at h1 h2
      simp at h1 h2
      exact ih ((j - 1) / 2) (by omega) h1.2 h2.2

/-- From the root of a heap every due entry is come to. -/
theorem reach_root {zs : List Int} (hh : IsHeap zs) (now : Int) (m : Nat) : ∀ j, j ≤ m → j < zs.length → reach (fun a => decide (zs.getD a 0 ≤ now)) 0 j = decide (zs.getD j 0 ≤ now) := by
  induction m with
  | zero =>
    intro j hj _
    obtain rfl : j = 0 := by omega
    rw [reach_end _ _ _ (by omega)]; rfl
  | succ m ih =>
    intro j hj hl
    by_cases h : 0 < j
    · rw [reach_up _ _ _ h, ih _ (by omega) (by omega)]
      have := hh j h hl
      by_cases hd : zs.getD j 0 ≤ now
      · have h2 : zs.getD ((j - 1) / 2) 0 ≤ now := Int.le_trans this hd
        rw [decide_eq_true hd, decide_eq_true h2]; rfl
      · rw [decide_eq_false hd]; rfl
    · obtain rfl : j = 0 := by omega
      rw [reach_end _ _ _ (by omega)]; rfl

/-! ### what eachDue visits -/
def visit (n : Nat) (due : Nat → Bool) : Nat → Nat → List Nat
  | 0, _ => []
  | f + 1, i => if i < n ∧ due i = true then i :: (visit n due f (2 * i + 1) ++ visit n due f (2 * i + 2)) else []

theorem mem_visit (n : Nat) (due : Nat → Bool) : ∀ f i, n ≤ i + f → ∀ j, j ∈ visit n due f i ↔ (j < n ∧ reach due i j = true)
  | 0, i, hf, j => by
    simp only [visit, List.not_mem_nil, false_iff]
    rintro ⟨h1, h2⟩
    have := reach_le _ _ _ h2
    omega
  | f + 1, i, hf, j => by
    have h1 := mem_visit n due f (2 * i + 1) (by omega) j
    have h2 := mem_visit n due f (2 * i + 2) (by omega) j
    have hs := reach_split due i j j (Nat.le_refl _)
    simp only [visit]
    by_cases h : i < n ∧ due i = true
    · rw [if_pos h]
      simp only [List.mem_cons, List.mem_append, h1, h2, hs, h.2, true_and]
      constructor
      · rintro (rfl | ⟨a, b⟩ | ⟨a, b⟩)
        · exact ⟨h.1, .inl rfl⟩
        · exact ⟨a, .inr (.inl b)⟩
        · exact ⟨a, .inr (.inr b)⟩
      · rintro ⟨a, b | b | b⟩
        · exact .inl b
        · exact .inr (.inl ⟨a, b⟩)
        · exact .inr (.inr ⟨a, b⟩)
    · rw [if_neg h]
      simp only [List.not_mem_nil, false_iff]
      rintro ⟨a, b⟩
      have := reach_le _ _ _ b
      exact h ⟨by omega, (hs.1 b).1⟩

theorem nodup_visit (n : Nat) (due : Nat → Bool) : ∀ f i, n ≤ i + f → (visit n due f i).Nodup
  | 0, _, _ => List.nodup_nil
  | f + 1, i, hf => by
    simp only [visit]
    by_cases h : i < n ∧ due i = true
    · rw [if_pos h, List.nodup_cons, List.nodup_append]
      refine ⟨?_, nodup_visit n due f _ (by omega), nodup_visit n due f _ (by omega), ?_⟩
      · intro hm
        rcases List.mem_append.1 hm with hm | hm
        · have := reach_le _ _ _ ((mem_visit n due f _ (by omega) _).1 hm).2; omega
        · have := reach_le _ _ _ ((mem_visit n due f _ (by omega) _).1 hm).2; omega
      · rintro a ha b hb rfl
        exact reach_apart due i a a (Nat.le_refl _) ((mem_visit n due f _ (by omega) _).1 ha).2 ((mem_visit n due f _ (by omega) _).1 hb).2
    · rw [if_neg h]; exact List.nodup_nil

theorem perm_visit (n : Nat) (due : Nat → Bool) (f i : Nat) (hf : n ≤ i + f) : (visit n due f i).Perm ((List.range n).filter (reach due i)) := by
  refine (List.perm_ext_iff_of_nodup (nodup_visit n due f i hf) (List.Pairwise.filter _ List.nodup_range)).2 fun j => ?_
  rw [mem_visit n due f i hf, List.mem_filter, List.mem_range]

theorem length_visit_le (n : Nat) (due : Nat → Bool) (f i : Nat) (hf : n ≤ i + f) : (visit n due f i).length ≤ n := by
  have h := (perm_visit n due f i hf).length_eq
  have := List.length_filter_le (reach due i) (List.range n)
  simp at this
  omega

/-! ### the order on pairs -/
def pless (x y : Int × ByteArray) : Bool := if x.1 = y.1 then Op.bytesLess x.2.toList y.2.toList else decide (x.1 < y.1)
/-- x does not come behind y. -/
def ple (x y : Int × ByteArray) : Prop := pless y x = false

theorem bl_total : ∀ a b : List UInt8, Op.bytesLess a b = false → Op.bytesLess b a = false → a = b
  | [], [], _, _ => rfl
  | [], _ :: _, h, _ => by simp [Op.bytesLess] at h
  | _ :: _, [], _, h => by simp [Op.bytesLess] at h
  | x :: a, y :: b, h, k => by
    simp only [Op.bytesLess, Bool.or_eq_false_iff, decide_eq_false_iff_not, Bool.and_eq_false_iff, beq_eq_false_iff_ne] at h k
    have e : x = y := by
      have h1 := h.1; have k1 := k.1
      rw [UInt8.lt_iff_toNat_lt] at h1 k1
      exact UInt8.toNat_inj.1 (by omega)
    subst e
    rw [bl_total a b (by rcases h.2 with h | h; exact absurd rfl h; exact h) (by rcases k.2 with h | h; exact absurd rfl h; exact h)]

theorem bl_asymm : ∀ a b : List UInt8, Op.bytesLess a b = true → Op.bytesLess b a = false
  | [], [], h => by simp [Op.bytesLess] at h
  | [], _ :: _, _ => by simp [Op.bytesLess]
  | _ :: _, [], h => by simp [Op.bytesLess] at h
  | x :: a, y :: b, h => by
    simp only [Op.bytesLess, Bool.or_eq_true, decide_eq_true_eq, Bool.and_eq_true, beq_iff_eq] at h
    simp only [Op.bytesLess, Bool.or_eq_false_iff, decide_eq_false_iff_not, Bool.and_eq_false_iff, beq_eq_false_iff_ne]
    rcases h with h | ⟨rfl, h⟩
    · rw [UInt8.lt_iff_toNat_lt] at h
      refine ⟨by rw [UInt8.lt_iff_toNat_lt]; omega, .inl ?_⟩
      rintro rfl; omega
    · exact ⟨by rw [UInt8.lt_iff_toNat_lt]; omega, .inr (bl_asymm a b h)⟩

/-- 'not greater' goes on: a ≤ b, b ≤ c give a ≤ c. -/
theorem bl_trans : ∀ a b c : List UInt8, Op.bytesLess b a = false → Op.bytesLess c b = false → Op.bytesLess c a = false
  | [], _, [], _, _ => by simp [Op.bytesLess]
  | _ :: _, [], _, h, _ => by simp [Op.bytesLess] at h
  | _, _ :: _, [], _, h => by simp [Op.bytesLess] at h
  | [], _, _ :: _, _, _ => by simp [Op.bytesLess]
  | x :: a, y :: b, z :: c, h, k => by
    simp only [Op.bytesLess, Bool.or_eq_false_iff, decide_eq_false_iff_not, Bool.and_eq_false_iff, beq_eq_false_iff_ne] at h k ⊢
    have h1 := h.1; have k1 := k.1
    rw [UInt8.lt_iff_toNat_lt] at h1 k1
    refine ⟨by rw [UInt8.lt_iff_toNat_lt]; omega, ?_⟩
    by_cases e : z = x
    · subst e
      have e2 : y = z := UInt8.toNat_inj.1 (by omega)
      subst e2
      exact .inr (bl_trans a b c (by rcases h.2 with h | h; exact absurd rfl h; exact h) (by rcases k.2 with h | h; exact absurd rfl h; exact h))
    · exact .inl e

theorem ple_antisymm {x y : Int × ByteArray} (h : ple x y) (k : ple y x) : x = y := by
  unfold ple pless at h k
  obtain ⟨a, s⟩ := x
  obtain ⟨b, t⟩ := y
  simp only at h k
  by_cases e : a = b
  · subst e
    simp only [if_true] at h k
    have := bl_total _ _ h k
    rw [ByteArray.toList_eq, ByteArray.toList_eq] at this
    have e2 : s = t := by
      obtain ⟨s⟩ := s; obtain ⟨t⟩ := t
      simp only at this
      rw [Array.toList_inj] at this
      rw [this]
    rw [e2]
  · rw [if_neg (fun h => e h.symm)] at h
    rw [if_neg e] at k
    simp at h k
    omega

theorem ple_trans {x y z : Int × ByteArray} (h : ple x y) (k : ple y z) : ple x z := by
  unfold ple pless at *
  obtain ⟨a, s⟩ := x
  obtain ⟨b, t⟩ := y
  obtain ⟨c, u⟩ := z
  simp only at h k ⊢
  by_cases e1 : b = a
  · by_cases e2 : c = b
    · subst e1; subst e2
      simp only [if_true] at *
      exact bl_trans _ _ _ h k
    · subst e1
      rw [if_neg e2] at k ⊢
      exact k
  · rw [if_neg e1] at h
    simp at h
    by_cases e2 : c = b
    · subst e2
      rw [if_neg e1]
      simp; omega
    · rw [if_neg e2] at k
      simp at k
      rw [if_neg (by omega)]
      simp; omega

theorem ple_of_pless {x y : Int × ByteArray} (h : pless x y = true) : ple x y := by
  unfold ple
  unfold pless at *
  by_cases e : x.1 = y.1
  · rw [if_pos e] at h
    rw [if_pos e.symm]
    exact bl_asymm _ _ h
  · rw [if_neg e] at h
    rw [if_neg (fun k => e k.symm)]
    simp at h ⊢
    omega

/-- Two sorted arrangements of the same pairs are one. -/
theorem sorted_unique {l m : List (Int × ByteArray)} (hl : l.Pairwise ple) (hm : m.Pairwise ple) (h : l.Perm m) : l = m :=
  h.eq_of_pairwise (fun _ _ _ _ => ple_antisymm) hl hm

/-- One more pair put in its place. -/
theorem insert_sorted {l : List (Int × ByteArray)} {x : Int × ByteArray} {p : Nat} (hl : l.Pairwise ple) (hp : p ≤ l.length)
    (hhi : ∀ y ∈ l.drop p, pless x y = true) (hlo : ∀ k, p = k + 1 → ∀ y, l[k]? = some y → pless x y = false) : (l.take p ++ x :: l.drop p).Pairwise ple := by
  have hl' := hl
  rw [← List.take_append_drop p l, List.pairwise_append] at hl
  rw [List.pairwise_append, List.pairwise_cons]
  refine ⟨hl.1, ⟨fun y hy => ple_of_pless (hhi y hy), hl.2.1⟩, ?_⟩
  have hall : ∀ a ∈ l.take p, ple a x := by
    intro a ha
    cases p with
    | zero => simp at ha
    | succ k =>
      have hk : k < l.length := by omega
      have hlast := hlo k rfl l[k] (by simp [hk])
      rw [List.take_succ_eq_append_getElem hk] at ha
      rcases List.mem_append.1 ha with ha | ha
      · have h2 : l[k] ∈ l.drop k := by rw [List.drop_eq_getElem_cons hk]; exact List.mem_cons_self
        exact ple_trans (hl'.rel_of_mem_take_of_mem_drop ha h2) hlast
      · simp at ha; subst ha; exact hlast
  intro a ha b hb
  rcases List.mem_cons.1 hb with rfl | hb
  · exact hall a ha
  · exact hl.2.2 a ha b hb

theorem insert_perm {l : List (Int × ByteArray)} {x : Int × ByteArray} {p : Nat} : (l.take p ++ x :: l.drop p).Perm (l ++ [x]) := by
  refine List.perm_middle.trans ?_
  rw [List.take_append_drop]
  exact (List.perm_append_comm (l₁ := [x]) (l₂ := l))

end Go.Proofs.Qxb6612247a
