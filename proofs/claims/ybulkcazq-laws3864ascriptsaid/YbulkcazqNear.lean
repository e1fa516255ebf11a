import Derived.Test.YbulkcazqHeap
namespace Go.Proofs.Ybulkcazq.Script
set_option linter.unusedVariables false
open Go.ChangeShapes Go.WideShapes Go.ChangeAt Go.RowKit Go.Conc Go.Proofs.Ybulkcazq.Base

/-- a world that is w but for draws and new blocks -/
structure Near (w : World) where
  v : World
  t : TouchOnly none' w v

instance (w : World) : Inhabited (Near w) := ⟨⟨w, TouchOnly.refl _ w⟩⟩

theorem wp_region_near {P : Program} {id : Nat} {Q : Exit → Act → World → Prop} {a : Act} {w : World} {l : List Oper} (hm : P.follows .mixedOrders = true) (hB : Region.lexB .any l.toArray = true)
    (h : wpQuiet P l.toArray (fun w' => ∃ p : Near w, w' = p.v) (fun a' => ∀ w', (∃ p : Near w, w' = p.v) → Q .normal a' w') l a) : (Code.region id l.toArray true).wp P Q a w :=
  wp_region_quiet (C := fun w' => ∃ p : Near w, w' = p.v) hm hB ⟨⟨_, (TouchOnly.refl _ w).drew⟩, rfl⟩ (by simpa using h)

theorem near_cell {w : World} {a : Addr} {v : Value} (h : w.cell? a = some v) (p : Near w) : p.v.cell? a = some v := by
  have hb : p.v.heap[a.block]? = w.heap[a.block]? := p.t.block _ (World.block_lt_of_cell? w a h) (fun e => e)
  rw [World.cell?_of_block (w := w) hb]
  exact h
end Go.Proofs.Ybulkcazq.Script
