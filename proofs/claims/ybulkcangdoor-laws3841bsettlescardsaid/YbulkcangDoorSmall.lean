import Derived.Test.YbulkcangDoorBase
namespace Go.Proofs.YbulkcangDoor.Small
set_option linter.unusedVariables false
open Go.ChangeShapes Go.WideShapes Go.ChangeAt Go.RowKit Go.Conc Go.Proofs.YbulkcangDoor.Base

def circ : Array Value := #[.int .i64 1, .int .i64 2, .int .i64 0, .bool true, .int .i64 (-1), .string ⟨#[]⟩, .string ⟨#[]⟩]
def idle : ByteArray := ⟨#[105, 100, 108, 101]⟩

theorem newIdle_any (w : World) : Calls Ybad.prog 4 #[.int .i64 1, .int .i64 2] w fun e w' => e = .returned (.pointer (some ⟨w.heap.size, 0, none⟩)) ∧ w' = w.alloc (.cells circ 62) := by
  go_enter Ybad.func4, Ybad.ntmps4
  go_wp2
  go_ret
  exact ⟨rfl, rfl⟩

theorem state_any (C : Nat) (w : World) (h : w.cell? ⟨C, 2, none⟩ = some (.int .i64 0)) : Calls Ybad.prog 7 #[.pointer (some ⟨C, 0, none⟩)] w fun e w' => e = .returned (.int .i64 0) ∧ w' = w := by
  go_enter Ybad.func7, Ybad.ntmps7
  go_wp2
  go_ret
  exact ⟨rfl, rfl⟩

theorem string_any (w : World) (h : w.cell? ⟨0, 0, none⟩ = some (.string idle)) : Calls Ybad.prog 9 #[.int .i64 0] w fun e w' => e = .returned (.string idle) ∧ w' = w := by
  go_enter Ybad.func9, Ybad.ntmps9
  go_wp2
  go_ret
  exact ⟨rfl, rfl⟩

theorem holds_any (CV J A k i : Nat) (cnt : List Int) (w : World) (hk : k ≤ 8) (hi : i < k) (hl : cnt.length = k) (hb : ∀ n ∈ cnt, 0 ≤ n ∧ n ≤ 1) 
    (hCV : w.heap[CV]? = some (.cells #[.slice (some ⟨A, 0, none⟩) k k] 46 (0, 0))) (hJ : w.heap[J]? = some (.cells #[.int .i64 i] 3 (0, 0)))
    (hA : w.heap[A]? = some (.cells (cnt.map (Value.int .i64)).toArray 3 (0, 0))) :
    Calls Ybad.prog 5 #[.pointer (some ⟨CV, 0, none⟩), .pointer (some ⟨J, 0, none⟩)] w fun e w' => e = .returned (.bool true) ∧
      w'.heap[A]? = some (.cells ((cnt.set i (cnt[i]?.getD 0 + 1)).map (Value.int .i64)).toArray 3 (0, 0)) ∧ TouchOnly (· = A) w w' := by
  have c0 := blk_cell hCV 0
  have c1 := blk_cell hJ 0
  have c2 := blk_cell hA i
  have hf := blk_free hA i
  have hlt : i < cnt.length := by omega
  simp only [List.getElem?_toArray, List.getElem?_cons_zero, List.getElem?_map, List.getElem?_eq_getElem hlt, Option.map_some] at c0 c1 c2
  have hb' := hb cnt[i] (List.getElem_mem hlt)
  have HA := hide hA
  clear hCV hJ hA
  go_enter Ybad.func5, Ybad.ntmps5
  go_wp2
  go_ret
  refine ⟨rfl, ?_, (TouchOnly.refl (· = A) w).setCell (p := ⟨A, i, none⟩) (fun _ => rfl) _⟩
  have := blk_set i (.int .i64 (cnt[i] + 1)) (unhide HA)
  simpa [hlt, List.map_set] using this
end Go.Proofs.YbulkcangDoor.Small
