import Derived.Test.Qxb6600473aModsRecs
import Derived.ProofKit
import Derived.Deep.Slices
namespace Go.Proofs.Qxb6600473aMods.Opens
open Go Go.RowKit Go.Proofs.Qxb6600473aMods.Recs

theorem add_none (b off k : Nat) : (⟨b, off, none⟩ : Addr).add k = ⟨b, off + k, none⟩ := by
  unfold Addr.add; split <;> simp_all

/-- from the cells as they are read to 'S' -/
theorem S_of_cells {m : Nat} {V : Nat → Nat → Value} {w : World} {a : Addr} {n : Nat} (hm : 0 < m)
    (h : ∀ i, i < n → ∃ cs, w.cells? 0 (a.add (i * m)) m = some cs ∧ ∀ j, j < m → cs[j]? = some (V i j)) : S m V w (some a) n := fun h0 => by
  obtain ⟨cs0, h1, h2⟩ := h 0 h0
  have hc := (World.cells?_some h1).2.2 0 hm
  rw [h2 0 hm] at hc
  have e : (a.add (0 * m)).add 0 = a := by simp [Addr.add]
  rw [e] at hc
  obtain ⟨b, off, spot⟩ := a
  have hspot : spot = none := by simpa using World.cell?_spot hc
  subst hspot
  refine ⟨b, off, rfl, World.block_lt_of_cell? w _ hc, fun i j hi hj => ?_⟩
  obtain ⟨cs, h3, h4⟩ := h i hi
  have := (World.cells?_some h3).2.2 j hj
  rw [h4 j hj, add_none, add_none] at this
  exact this

section
variable {H : Type} {enc : TypeId × Value → H} {P : Program} {w : World} {base : Nat} {spare : Nat → Bool} {held : Bool}
/-- one field of a struct that is read, of one cell -/
theorem field {fs : Array Field} {t : TypeId} {fuel : Nat} {cs : List Value} {x : DataW H × List MemPlace} (ht : P.underlying t = some (.struct fs)) (h : DataW.trod enc P w base spare held fuel t cs = some x)
    (i : Nat) (f : Field) (hf : fs[i]? = some f) : ∃ n y, DataW.trod enc P w base spare held n f.type ((cs.drop f.offset).take (P.cellsOf f.type)) = some y := by
  obtain ⟨xs, n, _, _, _, hlen, hx⟩ := DataW.trod_struct ht h
  have := hx i f hf
  have hi : i < xs.length := by rw [hlen]; exact (Array.getElem?_eq_some_iff.1 hf).1
  exact ⟨n, xs[i], by rw [this]; simp⟩
theorem struct_len {fs : Array Field} {t : TypeId} {fuel : Nat} {cs : List Value} {x : DataW H × List MemPlace} (ht : P.underlying t = some (.struct fs)) (h : DataW.trod enc P w base spare held fuel t cs = some x) : cs.length = P.cellsOf t := by
  obtain ⟨xs, n, _, _, hl, _⟩ := DataW.trod_struct ht h
  exact hl
end
end Go.Proofs.Qxb6600473aMods.Opens
