import Derived.WalkKit
namespace Go.Proofs.Qxb6600473aMods.Recs
open Go Go.RowKit

theorem ret_bool {a b : Bool} (h : a = b) : Ending.returned (.bool a) = .returned (.bool b) := by rw [h]
theorem ret_val {a b : Value} (h : a = b) : Ending.returned a = .returned b := by rw [h]

/-- A SLICE OF n ELEMENTS OF m CELLS EACH: cell j of element i holds V i j (where there is an element) -/
def S (m : Nat) (V : Nat → Nat → Value) (w : World) (ao : Option Addr) (n : Nat) : Prop :=
  0 < n → ∃ b off, ao = some ⟨b, off, none⟩ ∧ b < w.heap.size ∧ ∀ i j, i < n → j < m → w.cell? ⟨b, off + i * m + j, none⟩ = some (V i j)

/-- the first k elements of a row's cells are as told -/
def F (m : Nat) (V : Nat → Nat → Value) (cs : List Value) (k : Nat) : Prop := ∀ i j, i < k → j < m → cs[i * m + j]? = some (V i j)

theorem F_zero (m : Nat) (V : Nat → Nat → Value) (cs : List Value) : F m V cs 0 := fun i j h => by omega

theorem S_below {m : Nat} {V : Nat → Nat → Value} {w w' : World} {ao : Option Addr} {n : Nat} (h : S m V w ao n) (hb : Below w.heap.size w w') : S m V w' ao n := fun h0 => by
  obtain ⟨b, off, rfl, hlt, hc⟩ := h h0
  exact ⟨b, off, rfl, Nat.lt_of_lt_of_le hlt hb.size, fun i j hi hj => (hb.cell (p := ⟨b, off + i * m + j, none⟩) hlt).trans (hc i j hi hj)⟩

theorem S_of_own {m : Nat} {V : Nat → Nat → Value} {w : World} {base e g n cap : Nat} {cs : List Value} (h : w.ownsRow base e m (.slice (some ⟨g, 0, none⟩) n cap) n cs) (hF : F m V cs n) : S m V w (some ⟨g, 0, none⟩) n := fun h0 => by
  refine ⟨g, 0, rfl, ?_, fun i j hi hj => ?_⟩
  · rcases h.2 with ⟨h', _⟩ | ⟨g', cap', cur, h', _, hg, _⟩
    · simp at h'
    · simp only [Value.slice.injEq, Option.some.injEq, Addr.mk.injEq, and_true, true_and] at h'
      obtain ⟨rfl, rfl⟩ := h'
      exact (Array.getElem?_eq_some_iff.1 hg).1
  · have hlt : i * m + j < n * m := by
      have : (i + 1) * m ≤ n * m := Nat.mul_le_mul_right m hi
      rw [Nat.add_mul] at this; omega
    rw [Nat.zero_add, h.cellAt _ hlt]
    exact hF i j hi hj

theorem Below_trans {w w1 w2 : World} (h : Below w.heap.size w w1) (k : Below w1.heap.size w1 w2) : Below w.heap.size w w2 := h.trans (k.mono h.size)

theorem own_ge {w : World} {base e m g n cap : Nat} {cs : List Value} (h : w.ownsRow base e m (.slice (some ⟨g, 0, none⟩) n cap) n cs) : base ≤ g := by
  rcases h.2 with ⟨h', _⟩ | ⟨g', cap', cur, h', hb, hg, _⟩
  · simp at h'
  · simp only [Value.slice.injEq, Option.some.injEq, Addr.mk.injEq, and_true, true_and] at h'
    obtain ⟨rfl, rfl⟩ := h'
    exact hb

/-- there is a cell that can be written -/
theorem there {w : World} {base e m g n cap : Nat} {cs : List Value} (h : w.ownsRow base e m (.slice (some ⟨g, 0, none⟩) n cap) n cs) (j : Nat) (hj : j < n * m) : (∃ x, w.cell? ⟨g, j, none⟩ = some x) ∧ w.frozen? ⟨g, j, none⟩ = false := by
  have hl := h.1
  exact ⟨⟨cs[j]'(by omega), by rw [h.cellAt _ hj]; simp⟩, h.frozenAt j⟩

theorem F4_step {V : Nat → Nat → Value} {cs : List Value} {k n : Nat} (h : F 4 V cs k) (hl : cs.length = n * 4) (hk : k < n) :
    F 4 V ((((cs.set (k * 4) (V k 0)).set (k * 4 + 1) (V k 1)).set (k * 4 + 2) (V k 2)).set (k * 4 + 3) (V k 3)) (k + 1) := by
  intro i j hi hj
  by_cases e : i = k
  · subst e
    match j, hj with
    | 0, _ => simp [List.getElem?_set]; omega
    | 1, _ => simp [List.getElem?_set]; omega
    | 2, _ => simp [List.getElem?_set]; omega
    | 3, _ => simp [List.getElem?_set]; omega
  · have := h i j (by omega) hj
    simp only [List.getElem?_set]
    rw [if_neg (by omega), if_neg (by omega), if_neg (by omega), if_neg (by omega)]
    exact this

theorem own4_stored {w : World} {base e g n cap : Nat} {cs : List Value} (h : w.ownsRow base e 4 (.slice (some ⟨g, 0, none⟩) n cap) n cs) (k : Nat) (a b c d : Value) :
    ((((w.setCell ⟨g, k * 4, none⟩ a).setCell ⟨g, k * 4 + 1, none⟩ b).setCell ⟨g, k * 4 + 2, none⟩ c).setCell ⟨g, k * 4 + 3, none⟩ d).ownsRow base e 4 (.slice (some ⟨g, 0, none⟩) n cap) n ((((cs.set (k * 4) a).set (k * 4 + 1) b).set (k * 4 + 2) c).set (k * 4 + 3) d) :=
  ((((h.stored _ a).1.stored _ b).1.stored _ c).1.stored _ d).1

theorem F5_step {V : Nat → Nat → Value} {cs : List Value} {k n : Nat} (h : F 5 V cs k) (hl : cs.length = n * 5) (hk : k < n) :
    F 5 V (((((cs.set (k * 5) (V k 0)).set (k * 5 + 1) (V k 1)).set (k * 5 + 2) (V k 2)).set (k * 5 + 3) (V k 3)).set (k * 5 + 4) (V k 4)) (k + 1) := by
  intro i j hi hj
  by_cases e : i = k
  · subst e
    match j, hj with
    | 0, _ => simp [List.getElem?_set]; omega
    | 1, _ => simp [List.getElem?_set]; omega
    | 2, _ => simp [List.getElem?_set]; omega
    | 3, _ => simp [List.getElem?_set]; omega
    | 4, _ => simp [List.getElem?_set]; omega
  · have := h i j (by omega) hj
    simp only [List.getElem?_set]
    rw [if_neg (by omega), if_neg (by omega), if_neg (by omega), if_neg (by omega), if_neg (by omega)]
    exact this

theorem own5_stored {w : World} {base e g n cap : Nat} {cs : List Value} (h : w.ownsRow base e 5 (.slice (some ⟨g, 0, none⟩) n cap) n cs) (k : Nat) (a b c d f : Value) :
    (((((w.setCell ⟨g, k * 5, none⟩ a).setCell ⟨g, k * 5 + 1, none⟩ b).setCell ⟨g, k * 5 + 2, none⟩ c).setCell ⟨g, k * 5 + 3, none⟩ d).setCell ⟨g, k * 5 + 4, none⟩ f).ownsRow base e 5 (.slice (some ⟨g, 0, none⟩) n cap) n (((((cs.set (k * 5) a).set (k * 5 + 1) b).set (k * 5 + 2) c).set (k * 5 + 3) d).set (k * 5 + 4) f) :=
  (((((h.stored _ a).1.stored _ b).1.stored _ c).1.stored _ d).1.stored _ f).1

theorem far1 {w : World} {g o : Nat} {v : Value} {b p : Nat} (h : b ≠ g) : (w.setCell ⟨g, o, none⟩ v).cell? ⟨b, p, none⟩ = w.cell? ⟨b, p, none⟩ :=
  World.cell?_of_block (w := w) (Below.heap_setCell w ⟨g, o, none⟩ v b h)
theorem F6_step {V : Nat → Nat → Value} {cs : List Value} {k n : Nat} (h : F 6 V cs k) (hl : cs.length = n * 6) (hk : k < n) :
    F 6 V ((((((cs.set (k * 6) (V k 0)).set (k * 6 + 1) (V k 1)).set (k * 6 + 2) (V k 2)).set (k * 6 + 3) (V k 3)).set (k * 6 + 4) (V k 4)).set (k * 6 + 5) (V k 5)) (k + 1) := by
  intro i j hi hj
  by_cases e : i = k
  · subst e
    match j, hj with
    | 0, _ => simp [List.getElem?_set]; omega
    | 1, _ => simp [List.getElem?_set]; omega
    | 2, _ => simp [List.getElem?_set]; omega
    | 3, _ => simp [List.getElem?_set]; omega
    | 4, _ => simp [List.getElem?_set]; omega
    | 5, _ => simp [List.getElem?_set]; omega
  · have := h i j (by omega) hj
    simp only [List.getElem?_set]
    rw [if_neg (by omega), if_neg (by omega), if_neg (by omega), if_neg (by omega), if_neg (by omega), if_neg (by omega)]
    exact this

theorem own6_stored {w : World} {base e g n cap : Nat} {cs : List Value} (h : w.ownsRow base e 6 (.slice (some ⟨g, 0, none⟩) n cap) n cs) (k : Nat) (a b c d f i : Value) :
    ((((((w.setCell ⟨g, k * 6, none⟩ a).setCell ⟨g, k * 6 + 1, none⟩ b).setCell ⟨g, k * 6 + 2, none⟩ c).setCell ⟨g, k * 6 + 3, none⟩ d).setCell ⟨g, k * 6 + 4, none⟩ f).setCell ⟨g, k * 6 + 5, none⟩ i).ownsRow base e 6 (.slice (some ⟨g, 0, none⟩) n cap) n ((((((cs.set (k * 6) a).set (k * 6 + 1) b).set (k * 6 + 2) c).set (k * 6 + 3) d).set (k * 6 + 4) f).set (k * 6 + 5) i) :=
  ((((((h.stored _ a).1.stored _ b).1.stored _ c).1.stored _ d).1.stored _ f).1.stored _ i).1
theorem cell_drew (w : World) (a : Addr) : w.drew.cell? a = w.cell? a := rfl
theorem far4 {w : World} {g o1 o2 o3 o4 : Nat} {v1 v2 v3 v4 : Value} {b p : Nat} (h : b ≠ g) :
    ((((w.setCell ⟨g, o1, none⟩ v1).setCell ⟨g, o2, none⟩ v2).setCell ⟨g, o3, none⟩ v3).setCell ⟨g, o4, none⟩ v4).drew.cell? ⟨b, p, none⟩ = w.cell? ⟨b, p, none⟩ := by
  rw [cell_drew, far1 h, far1 h, far1 h, far1 h]
theorem far5 {w : World} {g o1 o2 o3 o4 o5 : Nat} {v1 v2 v3 v4 v5 : Value} {b p : Nat} (h : b ≠ g) :
    (((((w.setCell ⟨g, o1, none⟩ v1).setCell ⟨g, o2, none⟩ v2).setCell ⟨g, o3, none⟩ v3).setCell ⟨g, o4, none⟩ v4).setCell ⟨g, o5, none⟩ v5).drew.cell? ⟨b, p, none⟩ = w.cell? ⟨b, p, none⟩ := by
  rw [cell_drew, far1 h, far1 h, far1 h, far1 h, far1 h]
theorem far6 {w : World} {g o1 o2 o3 o4 o5 o6 : Nat} {v1 v2 v3 v4 v5 v6 : Value} {b p : Nat} (h : b ≠ g) :
    ((((((w.setCell ⟨g, o1, none⟩ v1).setCell ⟨g, o2, none⟩ v2).setCell ⟨g, o3, none⟩ v3).setCell ⟨g, o4, none⟩ v4).setCell ⟨g, o5, none⟩ v5).setCell ⟨g, o6, none⟩ v6).drew.cell? ⟨b, p, none⟩ = w.cell? ⟨b, p, none⟩ := by
  rw [cell_drew, far1 h, far1 h, far1 h, far1 h, far1 h, far1 h]

theorem nil_of_none {m : Nat} {V : Nat → Nat → Value} {w : World} {n : Nat} (h : S m V w none n) : n = 0 := by
  rcases Nat.eq_zero_or_pos n with h0 | h0
  · exact h0
  · obtain ⟨b, off, e, _⟩ := h h0; simp at e
theorem own_below {w w' : World} {base e m n : Nat} {v : Value} {L : List Value} (h : w.ownsRow base e m v n L) (hb : Below w.heap.size w w') : w'.ownsRow base e m v n L := by
  refine ⟨h.1, ?_⟩
  rcases h.2 with h' | ⟨g, cap, cur, hv, hg, hh, r⟩
  · exact .inl h'
  · exact .inr ⟨g, cap, cur, hv, hg, (hb.block g (Array.getElem?_eq_some_iff.1 hh).1).trans hh, r⟩
theorem ne_of_toList {a b : ByteArray} (h : a ≠ b) : (a.toList == b.toList) = false := by
  simp only [beq_eq_false_iff_ne, ne_eq]
  intro e
  rw [ByteArray.toList_eq, ByteArray.toList_eq] at e
  apply h
  cases a; cases b
  simp at e
  subst e
  rfl
theorem cell_new (w : World) (cs : Array Value) (t : TypeId) (j : Nat) (v : Value) (h : cs.toList[j]? = some v) : (w.alloc (.cells cs t)).cell? ⟨w.heap.size, j, none⟩ = some v := by
  rw [cell_of_row _ _ _ _ _ _ (heap_alloc_new w _)]; simpa using h
end Go.Proofs.Qxb6600473aMods.Recs
