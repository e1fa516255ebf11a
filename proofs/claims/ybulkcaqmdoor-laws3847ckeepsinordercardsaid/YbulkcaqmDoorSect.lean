import Derived.Test.YbulkcaqmDoorNew
namespace Go.Proofs.YbulkcaqmDoor.Spool
set_option linter.unusedVariables false
open Go.ChangeShapes Go.WideShapes Go.ChangeAt Go.RowKit Go.Conc Go.Proofs.YbulkcaqmDoor.Base Go.Proofs.YbulkcaqmDoor.Loud

set_option maxRecDepth 100000 in
set_option maxHeartbeats 1000000 in
/-- ReadAt where there is enough -/
theorem readAt (w : World) (M g dl dcap off Bf pl pc : Nat) (cu cs : List Value) (K : Nat → Int) (hM : w.heap[M]? = some (.cells #[.slice (some ⟨g, 0, none⟩) dl dcap] 65 (0, 0))) (hg : w.heap[g]? = some (.cells cu.toArray 5 (0, 0))) (hcu : ∀ i, i < dl → cu[i]? = some (.int .u8 (K i)))
    (hB : w.heap[Bf]? = some (.cells cs.toArray 92 (0, 0))) (hcs : cs.length = 5) (hpl : 0 < pl) (hpl5 : pl ≤ 5) (hoff : off + pl ≤ dl) (hdl : dl ≤ 9000) (hdc : dl ≤ dcap) :
    Calls Ybad.prog 83 #[ptr M, .slice (some ⟨Bf, 0, none⟩) pl pc, .int .i64 off] w fun e w' => e = .returned (.tuple #[.int .i64 pl, .nilIface]) ∧
      w'.heap[Bf]? = some (.cells (((List.range pl).map fun i => Value.int .u8 (K (off + i))) ++ cs.drop pl).toArray 92 (0, 0)) ∧ TouchOnly (· = Bf) w w' := by
  have c0 := blk_cell hM 0
  simp only [List.getElem?_toArray, List.getElem?_cons_zero] at c0
  have n1 : ¬ (off : Int) < 0 := by omega
  have n2 : ¬ (dl : Int) ≤ (off : Int) := by omega
  have n3 : ¬ (pl : Int) < (pl : Int) := by omega
  have hne : ¬ dcap = off := by omega
  have hcell : ∀ (q : Nat) (v : Value), ((List.range pl).map fun i => Value.int .u8 (K (off + i)))[q]? = some v → w.cell? ((⟨g, off, none⟩ : Addr).add q) = some v := by
    intro q v hq
    have hqk : q < pl := by
      rcases Nat.lt_or_ge q pl with h | h
      · exact h
      · rw [List.getElem?_eq_none (by simpa using h)] at hq; cases hq
    simp [hqk] at hq
    subst hq
    rw [add_plain, blk_cell hg]
    simpa using hcu (off + q) (by omega)
  have HB := hide hB
  have HC := hide hcell
  have hmin : ((List.range pl).map fun i => Value.int .u8 (K (off + i))).length = Nat.min (dl - off) pl := by
    rw [List.length_map, List.length_range]
    exact (Nat.min_eq_right (by omega)).symm
  have HMIN := hide hmin
  clear hM hg hcu hB hcell hmin
  go_enter Ybad.func83, Ybad.ntmps83
  go_wp2_with (refine wpList_copy_touch rfl (.tmp 20) (.tmp 26) 45 45 rfl 5 Ybad.underlying45 size5 Bf 0 pl pc ⟨g, off, none⟩ (dl - off) (dcap - off) rfl rfl cs 92 (unhide HB) ((List.range pl).map fun i => Value.int .u8 (K (off + i))) (unhide HMIN) (unhide HC) (by simp; omega) (by intro v hv; simp only [List.mem_map] at hv; obtain ⟨i, _, rfl⟩ := hv; rfl) ?_; intro w2 hw2 ht2)
  go_ret2
  refine ⟨by first | rfl | simp [goInt], ?_, unhide ht2⟩
  simpa using unhide hw2

theorem m47' (a : Option Addr) (w : World) : (method 314 47 (.pointer a) "ReadAt").run Ybad.prog w = .ok (83, .pointer a) w := m47 a w

set_option maxRecDepth 100000 in
set_option maxHeartbeats 1000000 in
/-- the section at its end -/
theorem sect_end (w : World) (X M s l n : Nat) (p eof : Value) (hX : w.heap[X]? = some (.cells (xcells M s l l n) 124 (0, 0))) (he : w.cell? ⟨1, 0, none⟩ = some eof) :
    Calls Ybad.prog 94 #[ptr X, p] w fun e w' => e = .returned (.tuple #[.int .i64 0, eof]) ∧ ∃ m, w' = w.drewN m := by
  have c2 := blk_cell hX 2
  have c3 := blk_cell hX 3
  clear hX
  simp only [xcells, List.getElem?_toArray, List.getElem?_cons_zero, List.getElem?_cons_succ] at c2 c3
  go_enter Ybad.func94, Ybad.ntmps94
  go_upto_region 1 with fail
  go_quiet (fail)
  go_upto_region 2 with fail
  go_quiet (fail)
  go_wp2
  go_ret2
  exact ⟨rfl, _, World.drewN_drewN _ _ _⟩

set_option maxRecDepth 100000 in
set_option maxHeartbeats 1000000 in
/-- the section has more -/
theorem sect_more (w : World) (X M s o l n g dl dcap Bf : Nat) (cu cs : List Value) (K : Nat → Int) (hX : w.heap[X]? = some (.cells (xcells M s o l n) 124 (0, 0))) (hM : w.heap[M]? = some (.cells #[.slice (some ⟨g, 0, none⟩) dl dcap] 65 (0, 0))) (hg : w.heap[g]? = some (.cells cu.toArray 5 (0, 0)))
    (hcu : ∀ i, i < dl → cu[i]? = some (.int .u8 (K i))) (hB : w.heap[Bf]? = some (.cells cs.toArray 92 (0, 0))) (hcs : cs.length = 5) (ho : o < l) (hl : l ≤ dl) (hdl : dl ≤ 9000) (hdc : dl ≤ dcap) (k : Nat) (hk : k = min 5 (l - o)) :
    Calls Ybad.prog 94 #[ptr X, .slice (some ⟨Bf, 0, none⟩) 5 5] w fun e w' => e = .returned (.tuple #[.int .i64 k, .nilIface]) ∧ w'.heap[X]? = some (.cells (xcells M s (o + k) l n) 124 (0, 0)) ∧
      w'.heap[Bf]? = some (.cells (((List.range k).map fun i => Value.int .u8 (K (o + i))) ++ cs.drop k).toArray 92 (0, 0)) ∧ TouchOnly (fun b => b = X ∨ b = Bf) w w' := by
  have c0 := blk_cell hX 0
  have c2 := blk_cell hX 2
  have c3 := blk_cell hX 3
  simp only [xcells, List.getElem?_toArray, List.getElem?_cons_zero, List.getElem?_cons_succ] at c0 c2 c3
  have n1 : ¬ (l : Int) ≤ (o : Int) := by omega
  have HX := hide hX
  have HM := hide hM
  have HG := hide hg
  have HU := hide hcu
  have HB := hide hB
  have hmt := m47 (some ⟨M, 0, none⟩)
  have hXB : ¬ X = Bf := blk_ne hX hB (by decide)
  have hk0 : 0 < k := by omega
  have hk5 : k ≤ 5 := by omega
  have hko : o + k ≤ l := by omega
  have HK := hide hk
  clear hX hM hg hcu hB
  go_enter Ybad.func94, Ybad.ntmps94
  go_upto_region 1 with fail
  go_quiet (fail)
  go_upto_region 3 with fail
  go_quiet (fail)
  have hdi : (k : Int) ≤ 5 := by omega
  by_cases hb : l - o < 5
  case' pos =>
    have e : (l : Int) - o = k := by omega
    have hlt : (k : Int) < 5 := by omega
    clear hk
    go_upto_region 6 with fail
  case' neg =>
    obtain rfl : k = 5 := by omega
    have hlt : ¬ (l : Int) - o < 5 := by omega
    clear hk
    go_upto_region 6 with fail
  all_goals
    refine wp_region_loud 11 _ (by kernel_rfl) (by decide) rfl (by kernel_rfl) (by kernel_rfl) (by kernel_rfl) (by kernel_rfl) (fun ops0 => ?_)
    simp only [List.take, List.drop]
    repeat (quiet_step (fail))
    refine wpQuiet_nil ?_
    intro m
    go_wp2_with fail
    refine (readAt (w.drewN _) M g dl dcap o Bf _ _ cu cs K (unhide HM) (unhide HG) (unhide HU) (unhide HB) hcs hk0 hk5 (by omega) hdl hdc).mono ?_
    rintro e w1 ⟨rfl, q1, q2⟩
    have q2' : TouchOnly (· = Bf) w w1 := ⟨q2.os, q2.tape, q2.output, q2.size, q2.block⟩
    have qx := q2'.keep (unhide HX) hXB
    have d2 := blk_cell qx 2
    have d3 := blk_free qx 2
    simp only [xcells, List.getElem?_toArray, List.getElem?_cons_zero, List.getElem?_cons_succ] at d2
    have HQ := hide (And.intro q1 (And.intro q2' qx))
    clear q1 q2 q2' qx c0 c2 c3 hmt
    intro ops1
    repeat (quiet_step (fail))
    refine wpQuiet_nil ?_
    intro m2
    go_wp2_with fail
    go_ret2
    obtain ⟨q1, q2, qx⟩ := unhide HQ
    refine ⟨rfl, ?_, ?_, TouchOnly.setCell (TouchOnly.drewN (q2.mono (fun b _ e => .inr e)) _) (fun _ => .inl rfl) _⟩
    · refine (blk_set (w := w1.drewN m2) 2 _ qx).trans ?_
      simp [xcells]
    · exact blk_oth (w := w1.drewN m2) 2 _ (fun e => hXB e.symm) q1
end Go.Proofs.YbulkcaqmDoor.Spool
