import Derived.WalkKit
import Derived.Deep.QuietTactic
import Derived.BigQuiet
namespace Go.Proofs.Qxb6600235aMods.BQ
open Go Go.RowKit

/-- the worlds that are as w was below w's size -/
structure Bel (w : World) where
  val : World
  bel : Below w.heap.size w val

/-- A REGION THAT DRAWS ITS ORDER, whose operations read old memory alone and whose callees leave old memory as it was: one walk, in the order of the text -/
theorem region_below {P : Program} {id : Nat} {Q : Exit → Act → World → Prop} {a : Act} {w : World} {l : List Oper} (hm : P.follows .mixedOrders = true) (hB : Region.lexB .any l.toArray = true)
    (h : wpQuiet P l.toArray (fun w' => ∃ z : Bel w, w' = z.val) (fun a' => ∀ w', (∃ z : Bel w, w' = z.val) → Q .normal a' w') l a) : (Code.region id l.toArray true).wp P Q a w :=
  wp_region_quiet (C := fun w' => ∃ z : Bel w, w' = z.val) hm hB ⟨⟨_, (Below.refl _ w).drew⟩, rfl⟩ (by simpa using h)

theorem quiet_call {P : Program} {f : FuncId} {args : Array Value} {w : World} {z : Bel w} {v : Value} (h : Calls P f args z.val fun e w' => e = .returned v ∧ Below z.val.heap.size z.val w') :
    Calls P f args z.val fun e w'' => e = .returned v ∧ ∃ z' : Bel w, w'' = z'.val :=
  h.mono fun _ w'' ⟨he, hb⟩ => ⟨he, ⟨w'', z.bel.trans (hb.mono z.bel.size)⟩, rfl⟩

theorem bel_cell {w : World} {b o : Nat} {v : Value} (h : w.cell? ⟨b, o, none⟩ = some v) : ∀ z : Bel w, z.val.cell? ⟨b, o, none⟩ = some v := fun z =>
  (z.bel.cell (p := ⟨b, o, none⟩) (World.block_lt_of_cell? w _ h)).trans h
end Go.Proofs.Qxb6600235aMods.BQ
