import Derived.Test.YbulkcazqBase
import Derived.BigQuiet
import Derived.Test.YbulkcazqLoud
namespace Go.Proofs.Ybulkcazq.Script
set_option linter.unusedVariables false
open Go.ChangeShapes Go.WideShapes Go.ChangeAt Go.RowKit Go.Conc Go.Proofs.Ybulkcazq.Base Go.Proofs.Ybulkcazq.Loud

abbrev noStr : ByteArray := { data := #[] }
/-- Database(i) as a value -/
abbrev rcells (i : Nat) : Array Value := #[.int .u8 1, .int .u64 i, .int .u64 0, .int .u64 0, .int .u64 0, .string noStr]
abbrev res (i : Nat) : Value := .agg (rcells i)
abbrev none' : Nat → Prop := fun _ => False

theorem clone15 (w : World) : Calls Yba.prog 15 #[.string noStr] w fun e w' => e = .returned (.string noStr) ∧ w' = w := by
  go_enter Yba.func15, Yba.ntmps15
  go_wp2_with fail
  go_ret
  exact ⟨rfl, rfl⟩

theorem clone14 (w : World) : Calls Yba.prog 14 #[.string noStr] w fun e w' => e = .returned (.string noStr) ∧ w' = w := by
  go_enter Yba.func14, Yba.ntmps14
  go_wp2_with (go_at_call 15; refine (clone15 _).mono ?_; rintro e w7 ⟨rfl, hw7⟩; subst w7)
  go_ret
  exact ⟨rfl, rfl⟩

theorem sz48 : (Yba.prog.info? 48).map (·.size) = some 6 := by kernel_rfl

theorem database (i : Nat) (w : World) : Calls Yba.prog 9 #[.int .u64 i] w fun e w' => e = .returned (res i) ∧ w' = w.alloc (.cells (rcells i) 48) := by
  go_enter Yba.func9, Yba.ntmps9
  go_wp2_with fail
  refine bodyPost_ret (results_cell_row rfl _ _ w.heap.size 48 _ (0, 0) _ rfl (blk_last _ _) Yba.underlying48 rfl sz48) rfl ?_
  exact ⟨rfl, rfl⟩

theorem results_row_tmp {fn : Func} {p u : Tmp} {cs : Array Value} (h : fn.results = #[.cell p 48, .tmp u]) (tmps : Array Value) (w : World) (g : Nat) (t : TypeId) (fr : Nat × Nat)
    (hp : tmps.getD p undef = .pointer (some ⟨g, 0, none⟩)) (hg : w.heap[g]? = some (.cells cs t fr)) (hi : cs.size = 6) :
    (results fn tmps).run Yba.prog w = .ok (.tuple #[.agg cs, tmps.getD u undef]) w := by
  rw [results_cell_tmp h, hp]
  simp [asAddr, run_loadVar_row w g t 48 cs fr _ hg Yba.underlying48 rfl (by rw [hi]; exact sz48)]

theorem mod12 (k : Int) (hk : 0 ≤ k ∧ k ≤ 255) (i : Nat) (hi : (i : Int) = k % 12) : i < 12 := by omega

theorem name4 (k : Int) (i h : Nat) (w : World) (hk : 0 ≤ k ∧ k ≤ 255) (hi : k % 12 = (i : Int)) (hh : i % 3 = h) : Calls Yba.prog 4 #[.int .u8 k] w fun e w' => e = .returned (.tuple #[res i, .int .u64 (h : Int)]) ∧ TouchOnly none' w w' := by
  have h12 : i < 12 := by omega
  go_enter Yba.func4, Yba.ntmps4
  have h3 : ((i : Nat) : Int) % 3 = (h : Int) := by omega
  go_wp2_with (go_at_call 9; refine (database i _).mono ?_; rintro e w7 ⟨rfl, hw7⟩; subst w7)
  refine bodyPost_ret (results_row_tmp rfl _ _ w.heap.size 48 (0, 0) rfl (blk_new _ (blk_last _ _)) rfl) rfl ?_
  refine ⟨?_, ((TouchOnly.refl _ _).alloc _).alloc _⟩
  rw [← h3]
  rfl

set_option maxHeartbeats 1000000 in
set_option maxRecDepth 100000 in
theorem detached (i : Nat) (w : World) : Calls Yba.prog 13 #[res i] w fun e w' => e = .returned (res i) ∧ TouchOnly none' w w' := by
  go_enter Yba.func13, Yba.ntmps13
  go_upto_region 1 with fail
  refine wp_region_loud 8 _ (by kernel_rfl) (by decide) rfl (by kernel_rfl) (by kernel_rfl) (by kernel_rfl) (by kernel_rfl) (fun ops0 => ?_)
  simp only [List.take, List.drop]
  repeat (quiet_step ((go_at_call 14; exact Calls.quiet_of_same (clone14 _))))
  refine wpQuiet_nil ?_
  intro m
  have hg : (((w.alloc (.cells (rcells i) 48)).alloc (.cells #[.int .u8 0, .int .u64 0, .int .u64 0, .int .u64 0, .int .u64 0, .string { data := #[] }] 48)).drewN m).heap[w.heap.size + 1]? = some (.cells #[.int .u8 0, .int .u64 0, .int .u64 0, .int .u64 0, .int .u64 0, .string { data := #[] }] 48 (0, 0)) := by
    have := blk_last (w.alloc (.cells (rcells i) 48)) (.cells #[.int .u8 0, .int .u64 0, .int .u64 0, .int .u64 0, .int .u64 0, .string { data := #[] }] 48)
    rw [size_alloc] at this
    exact this
  have ht : TouchOnly none' w (((w.alloc (.cells (rcells i) 48)).alloc (.cells #[.int .u8 0, .int .u64 0, .int .u64 0, .int .u64 0, .int .u64 0, .string { data := #[] }] 48)).drewN m) := (((TouchOnly.refl _ _).alloc _).alloc _).drewN m
  revert hg ht
  generalize ((w.alloc (.cells (rcells i) 48)).alloc (.cells #[.int .u8 0, .int .u64 0, .int .u64 0, .int .u64 0, .int .u64 0, .string { data := #[] }] 48)).drewN m = w8
  intro hg ht
  refine wp_store_row 48 (.tmp 2) (.tmp 10) rfl (w.heap.size + 1) (rcells i) rfl rfl 48 _ hg sz48 rfl (by simp [Value.oneCell']) ?_
  have hg9 := setRow_heap w8 (w.heap.size + 1) _ (rcells i) 48 (0, 0) hg
  have ht9 := ht.setRow (g := w.heap.size + 1) (fun h => absurd (Nat.lt_of_succ_lt h) (Nat.lt_irrefl _)) (rcells i)
  revert hg9 ht9
  generalize w8.setRow (w.heap.size + 1) (rcells i) = w9
  intro hg9 ht9 ops1
  refine wpQuiet_nil ?_
  intro m2
  go_wp2_with fail
  refine bodyPost_ret (results_cell_row rfl _ _ (w.heap.size + 1) 48 _ (0, 0) _ rfl hg9 Yba.underlying48 rfl sz48) rfl ?_
  exact ⟨rfl, ht9.drewN m2⟩
end Go.Proofs.Ybulkcazq.Script
