import Derived.Test.YbulkcaqmDoorNew
namespace Go.Proofs.YbulkcaqmDoor.Spool
set_option linter.unusedVariables false
open Go.ChangeShapes Go.WideShapes Go.ChangeAt Go.RowKit Go.Conc Go.Proofs.YbulkcaqmDoor.Base Go.Proofs.YbulkcaqmDoor.Loud

theorem zero60 : ((Ybad.prog.info? 60).map (fun i => i.zero)) = some (some (.pointer none)) := by kernel_rfl
theorem ta60 (x : Value) (w : World) : (Instr.typeAssert (.iface 79 x) 87 60 true).run Ybad.prog w = .ok (.tuple #[.pointer none, .bool false]) w := by
  obtain ⟨j, hj, hz⟩ := Option.map_eq_some_iff.1 zero60
  simp [Instr.typeAssert, run_underlying Ybad.underlying60, zeroValue, typeInfo, hj, hz]

def wcells (B C cap n : Nat) : Array Value := #[.nilIface, .slice (some ⟨B, 0, none⟩) cap cap, .int .i64 n, .iface 79 (ptr C)]

def mcells (cap : Nat) : Array Value := madeCells (Value.int .u8 0).cells cap

theorem mk45 (w : World) (cap : Nat) (h : cap ≤ 32) : (Instr.makeSlice 45 (.int .i64 cap) (.int .i64 cap)).run Ybad.prog w = .ok (.slice (some ⟨w.heap.size, 0, none⟩) cap cap) (w.alloc (.cells (mcells cap) 5)) := by
  obtain ⟨i5, hi5, hz0, hz1, hz2⟩ := info_parts info5
  have h := run_makeSlice (P := Ybad.prog) w 45 5 i5 (.int .u8 0) Ybad.underlying45 hi5 hz0 .i64 .i64 cap cap (by omega) (by omega) (by rw [hz1]; simp; omega) (by rw [hz2]; simp; omega) (by omega)
  rw [h, hz1]
  simp [mcells]

theorem newWriter (C cap : Nat) (w : World) (h1 : 0 < cap) (h2 : cap ≤ 32) :
    Calls Ybad.prog 24 #[.iface 79 (ptr C), .int .i64 cap] w fun e w' => e = .returned (ptr (w.heap.size + 1)) ∧ w' = (w.alloc (.cells (mcells cap) 5)).alloc (.cells (wcells w.heap.size C cap 0) 89) := by
  have hta := ta60 (ptr C)
  have hmk := fun w => mk45 w cap h2
  have hne : ¬ (cap : Int) ≤ 0 := by omega
  go_enter Ybad.func24, Ybad.ntmps24
  go_wp2_with fail
  go_ret
  exact ⟨rfl, rfl⟩

def NPost (w : World) (cap : Nat) (K : Nat → Int) (e : Ending) (w' : World) : Prop :=
  e = .returned (.tuple #[ptr (w.heap.size + 4), ptr w.heap.size]) ∧ St w' w.heap.size w.heap.size (w.heap.size + 1) (w.heap.size + 2) (w.heap.size + 3) cap 0 0 K (.slice none 0 0) ∧
    w'.heap[w.heap.size + 4]? = some (.cells (scells w.heap.size (w.heap.size + 3) 0) 62 (0, 0)) ∧ Below w.heap.size w w'

theorem zzNew (sz : Int) (cap : Nat) (K : Nat → Int) (w : World) (h0 : 0 ≤ sz) (h1 : sz ≤ 255) (hc : (cap : Int) = 1 + sz % 32) : Calls Ybad.prog 12 #[.int .u8 sz] w (NPost w cap K) := by
  have hm : 0 ≤ sz % 32 ∧ sz % 32 ≤ 31 := by omega
  go_enter Ybad.func12, Ybad.ntmps12
  go_wp2_with fail
  rw [← hc]
  refine (newWriter (w.heap.size + 1) cap _ (by omega) (by omega)).mono ?_
  rintro e w1 ⟨rfl, rfl⟩
  simp only [size_alloc]
  generalize hw2 : (((w.alloc (.cells #[.slice none 0 0] 65)).alloc (.cells #[.pointer (some ⟨w.heap.size, 0, none⟩), .int .i64 0] 81)).alloc (.cells (mcells cap) 5)).alloc (.cells (wcells (w.heap.size + 1 + 1) (w.heap.size + 1) cap 0) 89) = w2
  have hsz : w2.heap.size = w.heap.size + 4 := by rw [← hw2]; simp
  have a0 : w2.heap[w.heap.size]? = some (.cells #[.slice none 0 0] 65 (0, 0)) := by
    rw [← hw2]; exact blk_new _ (blk_new _ (blk_new _ (blk_last _ _)))
  have a1 : w2.heap[w.heap.size + 1]? = some (.cells #[ptr w.heap.size, .int .i64 ((0 : Nat) : Int)] 81 (0, 0)) := by
    rw [← hw2]
    have := blk_last (w.alloc (.cells #[.slice none 0 0] 65)) (.cells #[ptr w.heap.size, .int .i64 ((0 : Nat) : Int)] 81)
    rw [size_alloc] at this
    exact blk_new _ (blk_new _ this)
  have a2 : w2.heap[w.heap.size + 2]? = some (.cells (mcells cap) 5 (0, 0)) := by
    rw [← hw2]
    have := blk_last ((w.alloc (.cells #[.slice none 0 0] 65)).alloc (.cells #[.pointer (some ⟨w.heap.size, 0, none⟩), .int .i64 0] 81)) (.cells (mcells cap) 5)
    rw [size_alloc, size_alloc] at this
    exact blk_new _ this
  have a3 : w2.heap[w.heap.size + 3]? = some (.cells (wcells (w.heap.size + 2) (w.heap.size + 1) cap 0) 89 (0, 0)) := by
    rw [← hw2]
    have := blk_last (((w.alloc (.cells #[.slice none 0 0] 65)).alloc (.cells #[.pointer (some ⟨w.heap.size, 0, none⟩), .int .i64 0] 81)).alloc (.cells (mcells cap) 5)) (.cells (wcells (w.heap.size + 2) (w.heap.size + 1) cap 0) 89)
    rw [size_alloc, size_alloc, size_alloc] at this
    exact this
  have hb : Below w.heap.size w w2 := by
    rw [← hw2]
    exact ((((Below.refl _ w).alloc (Nat.le_refl _) _).alloc (by simp) _).alloc (by simp; omega) _).alloc (by simp; omega) _
  have HA := hide (And.intro a0 (And.intro a1 (And.intro a2 (And.intro a3 hb))))
  clear a0 a1 a2 a3 hb hw2
  go_wp2_with fail
  go_ret2
  obtain ⟨a0, a1, a2, a3, hb⟩ := unhide HA
  refine ⟨by simp, ⟨blk_new _ a0, blk_new _ a1, blk_new _ a3, ⟨(mcells cap).toList, by simpa using blk_new _ a2, by simp [mcells, size_madeCells], fun i hi => by omega⟩, World.ownsRow_nil _ _ _ _, by simp [Value.ownBlock], by omega, by omega, by omega, by rw [size_alloc]; omega⟩, ?_, hb.alloc (by omega) _⟩
  have := blk_last w2 (.cells (scells w.heap.size (w.heap.size + 3) 0) 62)
  rw [hsz] at this
  simpa [scells] using this
end Go.Proofs.YbulkcaqmDoor.Spool
