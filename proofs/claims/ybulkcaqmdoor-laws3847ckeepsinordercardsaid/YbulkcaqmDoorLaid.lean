import Derived.Test.YbulkcaqmDoorRows
import Derived.WalkKit
import Derived.ProofKit
import Derived.OpenShut
import Derived.ShutString
import Derived.ChangeOld
import Derived.ChangeVars
import Derived.Below
import Derived.MakeChecks
import Derived.LaidLaws
import Derived.LaidHandle
import Derived.Stop.LaidErr
namespace Go.Proofs.YbulkcaqmDoor.LaidP
open Go.ChangeShapes Go.WideShapes Go.ChangeAt Go.RowKit

theorem own : ownKnob Ybad.prog.godebug = none := by kernel_rfl
theorem laidOut : laidOutB Ybad.prog = true := by kernel_rfl
theorem g0 : Ybad.prog.globalNamed "io.ErrShortWrite" = some 0 := by kernel_rfl
theorem g1 : Ybad.prog.globalNamed "io.EOF" = some 1 := by kernel_rfl
theorem g2 : Ybad.prog.globalNamed "io.ErrNoProgress" = some 2 := by kernel_rfl
theorem t1 : (Ybad.prog.globals[1]?).map (·.type) = some 27 := by kernel_rfl
theorem cells95 : Ybad.prog.cellsOf 95 = 1 := by kernel_rfl
theorem cells9 : Ybad.prog.cellsOf 9 = 1 := by kernel_rfl
theorem star : "*" ++ "errors.errorString" = "*errors.errorString" := by decide
theorem row93 (u : TypeId) (h : Ybad.prog.typeName? 3 u = some "*errors.errorString") : u = 93 :=
  typeName_ptr_named (nm := "errors.errorString") (by rw [star]; kernel_rfl) (by kernel_rfl) (by decide) u (by rw [star]; exact h)

abbrev laidList : List (String × DataW Unit) := [("io.ErrShortWrite", Rows.laid_io_ErrShortWrite), ("io.EOF", Rows.laid_io_EOF), ("io.ErrNoProgress", Rows.laid_io_ErrNoProgress)]

set_option maxRecDepth 100000 in
theorem eof_of_laid {W : World} (h : laidMetH Ybad.prog laidList W) : ∃ (ea : Addr) (ce : Array Value) (te : TypeId), W.cell? ⟨1, 0, none⟩ = some (.iface 93 (.pointer (some ea))) ∧ W.heap[ea.block]? = some (.cells ce te (0, 0)) := by
  rw [MakeChecks.laidMetH_plain _ _ _ (by kernel_rfl)] at h
  have h' := h.tail
  obtain ⟨ps, ⟨g, t, cs, f, p, q, hg, ht, hv, hd, _, e⟩, _, hrows⟩ := h'
  obtain rfl := Option.some.inj (g1.symm.trans hg)
  obtain rfl := Option.some.inj (t1.symm.trans ht)
  subst e
  obtain ⟨l⟩ := cs
  have ok : ∀ u v, l = [.iface u v] → Value.okWide Ybad.prog W .any 0 u v := fun u v e => by
    subst e
    exact (hrows 1 0 (by simp [MemPlace.row])).2 u v (by simpa using World.var?_cell hg hv 0)
  obtain ⟨ea, s, rfl, hc, _, _, rfl⟩ := errorString_of_trod Ybad.underlying27 row93 Ybad.underlying93 Ybad.underlying95 rfl rfl Ybad.underlying9 cells95 cells9 hd ok
  obtain ⟨ce, te, hb⟩ := (hrows ea.block ea.off (by simp [MemPlace.row])).1
  exact ⟨ea, ce, te, by simpa using World.var?_cell hg hv 0, hb⟩

abbrev sS : ByteArray := { data := #[115, 104, 111, 114, 116, 32, 119, 114, 105, 116, 101] }
abbrev sE : ByteArray := { data := #[69, 79, 70] }
abbrev sN : ByteArray := { data := #[109, 117, 108, 116, 105, 112, 108, 101, 32, 82, 101, 97, 100, 32, 99, 97, 108, 108, 115, 32, 114, 101, 116, 117, 114, 110, 32, 110, 111, 32, 100, 97, 116, 97, 32, 111, 114, 32, 101, 114, 114, 111, 114] }

noncomputable def low : Nat := (World.holding Ybad.prog default ⟨#[], #[], []⟩).heap.size

noncomputable def laidWorld (os : Os) : World :=
  let w0 := World.holding Ybad.prog os ⟨#[.cells #[.string sS] 95, .cells #[.string sE] 95, .cells #[.string sN] 95], #[], []⟩
  { w0 with heap := ((w0.heap.modify 0 fun
      | .cells _ t frozen => .cells #[.iface 93 (.pointer (some ⟨low, 0, none⟩))] t frozen
      | o => o).modify 1 fun
      | .cells _ t frozen => .cells #[.iface 93 (.pointer (some ⟨low + 1, 0, none⟩))] t frozen
      | o => o).modify 2 fun
      | .cells _ t frozen => .cells #[.iface 93 (.pointer (some ⟨low + 2, 0, none⟩))] t frozen
      | o => o }

theorem laidWorld_met (os : Os) (args : Array Value) : laidMetH Ybad.prog laidList ((laidWorld os).forCall (fun _ _ => 0) ⟨#[], args, []⟩).memory := by
  rw [MakeChecks.laidMetH_plain _ _ _ (by kernel_rfl)]
  exact laidMet_of_run (ps := [.cell 0 0, .cell low 0, .cell 1 0, .cell (low + 1) 0, .cell 2 0, .cell (low + 2) 0]) 8 (by kernel_rfl) (by kernel_rfl) (by kernel_rfl)
end Go.Proofs.YbulkcaqmDoor.LaidP
