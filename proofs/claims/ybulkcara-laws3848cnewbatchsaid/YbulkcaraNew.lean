import Derived.Test.YbulkcaraRows
import Derived.Test.YbulkcaraComm
import Derived.WalkKit
import Derived.ProofKit
import Derived.BigRegion
import Derived.ChangeAlike
import Derived.Deep.Cut
namespace Go.Proofs.Ybulkcara.New
open Go.ChangeShapes Go.WideShapes Go.ChangeAt Go.RowKit Go.Conc Go.Proofs.Ybulkcara.Comm

theorem hide {p : Prop} (h : p) : Hid p := h
theorem unhide {p : Prop} (h : Hid p) : p := h
theorem bytes56 : ∃ i, Yba.prog.info? 56 = some i ∧ i.bytes = 0 := by
  have h : (Yba.prog.info? 56).map (·.bytes) = some 0 := by kernel_rfl
  obtain ⟨i, hi, hb⟩ := Option.map_eq_some_iff.1 h
  exact ⟨i, hi, hb⟩
theorem bytes29 : ∃ i, Yba.prog.info? 29 = some i ∧ i.bytes = 8 := by
  have h : (Yba.prog.info? 29).map (·.bytes) = some 8 := by kernel_rfl
  obtain ⟨i, hi, hb⟩ := Option.map_eq_some_iff.1 h
  exact ⟨i, hi, hb⟩
theorem mk28 (w : World) : (Instr.makeChan 28 (.int .i64 0)).run Yba.prog w = .ok (.chan (some w.heap.size)) (w.alloc (.chan 0 #[] false 0 0 false)) := by
  obtain ⟨i, hi, hb⟩ := bytes56
  simpa using run_makeChan (P := Yba.prog) (w := w) Yba.underlying28 hi .i64 0 (by omega) (by rw [hb]; omega)
theorem mk27 (w : World) : (Instr.makeChan 27 (.int .i64 1)).run Yba.prog w = .ok (.chan (some w.heap.size)) (w.alloc (.chan 1 #[] false 0 0 false)) := by
  obtain ⟨i, hi, hb⟩ := bytes29
  simpa using run_makeChan (P := Yba.prog) (w := w) Yba.underlying27 hi .i64 1 (by omega) (by rw [hb]; omega)

theorem blk_set {w : World} {g t : Nat} {cs : Array Value} (i : Nat) (v : Value) (h : w.heap[g]? = some (.cells cs t (0, 0))) : (w.setCell ⟨g, i, none⟩ v).heap[g]? = some (.cells (cs.setIfInBounds i v) t (0, 0)) := heap_setCell_same w g i cs t v h
theorem blk_oth {w : World} {g k : Nat} {o : Obj} (i : Nat) (v : Value) (hne : ¬ k = g) (h : w.heap[k]? = some o) : (w.setCell ⟨g, i, none⟩ v).heap[k]? = some o := by rw [heap_setCell_other w ⟨g, i, none⟩ k v hne]; exact h
theorem blk_new {w : World} {g : Nat} {o : Obj} (x : Obj) (h : w.heap[g]? = some o) : (w.alloc x).heap[g]? = some o := by
  rw [Below.heap_alloc w x g (Array.getElem?_eq_some_iff.1 h).1]; exact h
theorem blk_lt {w : World} {g : Nat} {o : Obj} (h : w.heap[g]? = some o) : g < w.heap.size := (Array.getElem?_eq_some_iff.1 h).1
theorem blk_cell {w : World} {g t : Nat} {cs : Array Value} (h : w.heap[g]? = some (.cells cs t (0, 0))) (i : Nat) : w.cell? ⟨g, i, none⟩ = cs[i]? := cell_of_row w g i cs t (0, 0) h
theorem blk_free {w : World} {g t : Nat} {cs : Array Value} (h : w.heap[g]? = some (.cells cs t (0, 0))) (i : Nat) : w.frozen? ⟨g, i, none⟩ = false := frozen_of_row w g i cs t h
theorem blk_chan {w : World} {g c cap s r : Nat} {buf : Array Value} {cl tm : Bool} {o : Obj} (hne : ¬ g = c) (h : w.heap[g]? = some o) : (w.setChan c cap buf cl s r tm).heap[g]? = some o := by
  simp only [World.setChan]; rw [Array.getElem?_setIfInBounds_ne (by omega)]; exact h

def batch (first : Int) (text ends own : Value) (pc : Value) : Array Value := #[.int .i64 first, text, ends, own, .nilIface, .slice none 0 0, pc]

set_option maxHeartbeats 400000 in
theorem nb_free (R ch g s r : Nat) (first : Int) (w : World) (rc : Array Value) (hR : w.heap[R]? = some (.cells rc 31 (0, 0))) (h2 : rc[2]? = some (.chan (some ch))) (hRg : ¬ R = g) (hcg : ¬ ch = g) (hRc : ¬ R = ch)
    (hch : w.heap[ch]? = some (.chan 1 #[.pointer (some ⟨g, 0, none⟩)] false s r false))
    (n m : Nat) (ao ae : Addr) (f0 : Int) (tx : Value) (pc : Nat) (hg : w.heap[g]? = some (.cells (batch f0 tx (.slice (some ae) m m) (.slice (some ao) n n) (.chan (some pc))) 36 (0, 0))) :
    Calls Yba.prog 4 #[.pointer (some ⟨R, 0, none⟩), .int .i64 first] w fun e w' => e = .returned (.pointer (some ⟨g, 0, none⟩)) ∧
      w'.heap[g]? = some (.cells (batch first (.slice (some ao) 0 n) (.slice (some ae) 0 m) (.slice (some ao) 0 n) (.chan (some w.heap.size))) 36 (0, 0)) ∧
      w'.heap[R]? = some (.cells rc 31 (0, 0)) ∧ w'.heap[ch]? = some (.chan 1 #[] false s (r + 1) false) ∧ ∀ B, B ≤ g → B ≤ ch → B ≤ w.heap.size → Below B w w' := by
  have hmk := mk28
  have d2 := (blk_cell hR 2).trans h2
  go_enter Yba.func4, Yba.ntmps4
  go_upto_region 3 with fail
  refine wp_region_comm_k 0 _ rfl rfl (fun K hK => ?_)
  simp only [List.take, List.drop] at hK ⊢
  refine wpList_nil ?_
  simp only [Exit.then]
  refine hK _ _ (comm_select_buf (z := .pointer none) (by simp [go_sem, rcase]) hch (by simp) ?_)
  clear hK K d2
  have gR := blk_chan (c := ch) (cap := 1) (buf := #[Value.pointer (some ⟨g, 0, none⟩)].extract 1 #[Value.pointer (some ⟨g, 0, none⟩)].size) (cl := false) (s := s) (r := r + 1) (tm := false) hRc hR
  have gg := blk_chan (c := ch) (cap := 1) (buf := #[Value.pointer (some ⟨g, 0, none⟩)].extract 1 #[Value.pointer (some ⟨g, 0, none⟩)].size) (cl := false) (s := s) (r := r + 1) (tm := false) (fun h => hcg h.symm) hg
  have gc := heap_setChan w ch 1 (#[Value.pointer (some ⟨g, 0, none⟩)].extract 1 #[Value.pointer (some ⟨g, 0, none⟩)].size) false s (r + 1) false (blk_lt hch)
  have gs := size_setChan w ch 1 (#[Value.pointer (some ⟨g, 0, none⟩)].extract 1 #[Value.pointer (some ⟨g, 0, none⟩)].size) false s (r + 1) false
  have gB : ∀ B, B ≤ ch → Below B w (w.setChan ch 1 (#[Value.pointer (some ⟨g, 0, none⟩)].extract 1 #[Value.pointer (some ⟨g, 0, none⟩)].size) false s (r + 1) false) := fun B hB => below_setChan (Below.refl _ _) hB _ _ _ _ _ _
  revert gR gg gc gs gB
  generalize w.setChan ch 1 (#[Value.pointer (some ⟨g, 0, none⟩)].extract 1 #[Value.pointer (some ⟨g, 0, none⟩)].size) false s (r + 1) false = w1
  intro gR gg gc gs gB
  have HR := hide gR
  have HG := hide gg
  have HC := hide gc
  have HS := hide gs
  have HB := hide gB
  have e0 := blk_cell gg 0
  have e1 := blk_cell gg 1
  have e2 := blk_cell gg 2
  have e3 := blk_cell gg 3
  have e6 := blk_cell gg 6
  have hf := blk_free gg
  have hlt := blk_lt gg
  simp only [batch, List.getElem?_toArray, List.getElem?_cons_zero, List.getElem?_cons_succ] at e0 e1 e2 e3 e6
  clear hR h2 hch hg gR gg gc gs gB
  go_wp2
  go_region
  all_goals go_wp2
  all_goals go_ret
  all_goals clear e0 e1 e2 e3 e6 hf hlt hmk
  refine ⟨rfl, ?_, ?_, ?_, ?_⟩
  · have := blk_new (.chan 0 #[] false 0 0 false) (blk_set 1 (.slice (some ao) 0 n) (blk_set 6 (.chan (some w1.heap.size)) (blk_set 2 (.slice (some ae) 0 m) (blk_set 3 (.slice (some ao) 0 n) (blk_set 0 (.int .i64 first) (unhide HG))))))
    rw [unhide HS] at this ⊢
    exact this
  · exact blk_new (.chan 0 #[] false 0 0 false) (blk_oth 1 (.slice (some ao) 0 n) hRg (blk_oth 6 (.chan (some w1.heap.size)) hRg (blk_oth 2 (.slice (some ae) 0 m) hRg (blk_oth 3 (.slice (some ao) 0 n) hRg (blk_oth 0 (.int .i64 first) hRg (unhide HR))))))
  · exact blk_new (.chan 0 #[] false 0 0 false) (blk_oth 1 (.slice (some ao) 0 n) hcg (blk_oth 6 (.chan (some w1.heap.size)) hcg (blk_oth 2 (.slice (some ae) 0 m) hcg (blk_oth 3 (.slice (some ao) 0 n) hcg (blk_oth 0 (.int .i64 first) hcg (unhide HC))))))
  · intro B h1 h2 h3
    have hs := unhide HS
    exact ((((((((unhide HB) B h2).setCell h1 _).setCell h1 _).setCell h1 _).setCell h1 _).setCell h1 _).alloc (by simp [World.setCell]; omega) _).drew

set_option maxHeartbeats 400000 in
theorem nb_nil (R : Nat) (first : Int) (w : World) (rc : Array Value) (hR : w.heap[R]? = some (.cells rc 31 (0, 0))) (h2 : rc[2]? = some (.chan none)) :
    Calls Yba.prog 4 #[.pointer (some ⟨R, 0, none⟩), .int .i64 first] w fun e w' => e = .returned (.pointer (some ⟨w.heap.size, 0, none⟩)) ∧
      w'.heap[w.heap.size]? = some (.cells (batch first (.slice none 0 0) (.slice none 0 0) (.slice none 0 0) (.chan (some (w.heap.size + 1)))) 36 (0, 0)) ∧
      w'.heap[R]? = some (.cells rc 31 (0, 0)) ∧ Below w.heap.size w w' := by
  have hmk := mk28
  have d2 := (blk_cell hR 2).trans h2
  have hlt := blk_lt hR
  have HR := hide hR
  clear hR h2
  go_enter Yba.func4, Yba.ntmps4
  go_upto_region 3 with fail
  refine wp_region_comm_k 0 _ rfl rfl (fun K hK => ?_)
  simp only [List.take, List.drop] at hK ⊢
  refine wpList_nil ?_
  simp only [Exit.then]
  refine hK _ _ (comm_select_nil (z := .pointer none) (by simp [go_sem, rcaseNil]) ?_)
  clear hK K
  go_wp2
  go_region
  all_goals go_wp2
  all_goals go_ret
  refine ⟨rfl, ?_, ?_, ?_⟩
  · exact blk_new _ (heap_alloc_new _ _)
  · exact blk_new _ (blk_new _ (unhide HR))
  · exact (((Below.refl _ _).alloc (Nat.le_refl _) _).alloc (by simp) _).drew

set_option maxHeartbeats 400000 in
theorem nb_empty (R ch s r : Nat) (first : Int) (w : World) (rc : Array Value) (hR : w.heap[R]? = some (.cells rc 31 (0, 0))) (h2 : rc[2]? = some (.chan (some ch)))
    (hch : w.heap[ch]? = some (.chan 1 #[] false s r false)) :
    Calls Yba.prog 4 #[.pointer (some ⟨R, 0, none⟩), .int .i64 first] w fun e w' => e = .returned (.pointer (some ⟨w.heap.size, 0, none⟩)) ∧
      w'.heap[w.heap.size]? = some (.cells (batch first (.slice none 0 0) (.slice none 0 0) (.slice none 0 0) (.chan (some (w.heap.size + 1)))) 36 (0, 0)) ∧
      w'.heap[R]? = some (.cells rc 31 (0, 0)) ∧ w'.heap[ch]? = some (.chan 1 #[] false s r false) ∧ Below w.heap.size w w' := by
  have hmk := mk28
  have d2 := (blk_cell hR 2).trans h2
  have hlt := blk_lt hR
  have HR := hide hR
  have HC := hide hch
  clear hR h2 hch
  go_enter Yba.func4, Yba.ntmps4
  go_upto_region 3 with fail
  refine wp_region_comm_k 0 _ rfl rfl (fun K hK => ?_)
  simp only [List.take, List.drop] at hK ⊢
  refine wpList_nil ?_
  simp only [Exit.then]
  refine hK _ _ (comm_select_default (z := .pointer none) (by simp [go_sem, rcase]) (unhide HC) ?_)
  clear hK K
  go_wp2
  go_region
  all_goals go_wp2
  all_goals go_ret
  refine ⟨rfl, ?_, ?_, ?_, ?_⟩
  · exact blk_new _ (heap_alloc_new _ _)
  · exact blk_new _ (blk_new _ (unhide HR))
  · exact blk_new _ (blk_new _ (unhide HC))
  · exact (((Below.refl _ _).alloc (Nat.le_refl _) _).alloc (by simp) _).drew
end Go.Proofs.Ybulkcara.New
