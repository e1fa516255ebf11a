import Derived.Test.YbulkcaqmRows
import Derived.Test.YbulkcaqmComm
import Derived.Test.YbulkcaqmLocks
import Derived.Conc.MuLone
import Derived.WalkKit
import Derived.ProofKit
import Derived.Deep.Cut
namespace Go.Proofs.Ybulkcaqm.Room
open Go.ChangeShapes Go.WideShapes Go.ChangeAt Go.RowKit Go.Conc Go.Proofs.Ybulkcaqm.Comm Go.MuLone

theorem hide {p : Prop} (h : p) : Hid p := h
theorem unhide {p : Prop} (h : Hid p) : p := h
theorem blk_set {w : World} {g t : Nat} {cs : Array Value} (i : Nat) (v : Value) (h : w.heap[g]? = some (.cells cs t (0, 0))) : (w.setCell ⟨g, i, none⟩ v).heap[g]? = some (.cells (cs.setIfInBounds i v) t (0, 0)) := heap_setCell_same w g i cs t v h
theorem blk_oth {w : World} {g k : Nat} {o : Obj} (i : Nat) (v : Value) (hne : ¬ k = g) (h : w.heap[k]? = some o) : (w.setCell ⟨g, i, none⟩ v).heap[k]? = some o := by rw [heap_setCell_other w ⟨g, i, none⟩ k v hne]; exact h
theorem blk_new {w : World} {g : Nat} {o : Obj} (x : Obj) (h : w.heap[g]? = some o) : (w.alloc x).heap[g]? = some o := by
  rw [Below.heap_alloc w x g (Array.getElem?_eq_some_iff.1 h).1]; exact h
theorem blk_lt {w : World} {g : Nat} {o : Obj} (h : w.heap[g]? = some o) : g < w.heap.size := (Array.getElem?_eq_some_iff.1 h).1
theorem blk_cell {w : World} {g t : Nat} {cs : Array Value} (h : w.heap[g]? = some (.cells cs t (0, 0))) (i : Nat) : w.cell? ⟨g, i, none⟩ = cs[i]? := cell_of_row w g i cs t (0, 0) h
theorem blk_free {w : World} {g t : Nat} {cs : Array Value} (h : w.heap[g]? = some (.cells cs t (0, 0))) (i : Nat) : w.frozen? ⟨g, i, none⟩ = false := frozen_of_row w g i cs t h
theorem blk_chan {w : World} {g c cap s r : Nat} {buf : Array Value} {cl tm : Bool} {o : Obj} (hne : ¬ g = c) (h : w.heap[g]? = some o) : (w.setChan c cap buf cl s r tm).heap[g]? = some o := by
  simp only [World.setChan]; rw [Array.getElem?_setIfInBounds_ne (by omega)]; exact h

theorem bytes25 : ∃ i, Yba.prog.info? 25 = some i ∧ i.bytes = 0 := by
  have h : (Yba.prog.info? 25).map (·.bytes) = some 0 := by kernel_rfl
  obtain ⟨i, hi, hb⟩ := Option.map_eq_some_iff.1 h
  exact ⟨i, hi, hb⟩
theorem mk32 (w : World) : (Instr.makeChan 32 (.int .i64 0)).run Yba.prog w = .ok (.chan (some w.heap.size)) (w.alloc (.chan 0 #[] false 0 0 false)) := by
  obtain ⟨i, hi, hb⟩ := bytes25
  simpa using run_makeChan (P := Yba.prog) (w := w) Yba.underlying32 hi .i64 0 (by omega) (by rw [hb]; omega)

def room (st : Int) (limit turn : Int) (ch : Nat) : Array Value := #[.int .i32 st, .int .u32 0, .int .i64 limit, .int .i64 0, .int .i64 turn, .chan (some ch), .nilIface]

theorem new_any (limit : Int) (w : World) : Calls Yba.prog 7 #[.int .i64 limit] w fun e w' => e = .returned (.pointer (some ⟨w.heap.size + 1, 0, none⟩)) ∧
    w' = (w.alloc (.chan 0 #[] false 0 0 false)).alloc (.cells (room 0 limit 0 w.heap.size) 36) := by
  have hmk := mk32
  go_enter Yba.func7, Yba.ntmps7
  go_wp2
  go_ret
  exact ⟨rfl, rfl⟩

theorem change_any (R ch : Nat) (st limit turn : Int) (w : World) (hne : ¬ R = ch) (hR : w.heap[R]? = some (.cells (room st limit turn ch) 36 (0, 0))) (hch : w.heap[ch]? = some (.chan 0 #[] false 0 0 false)) :
    Calls Yba.prog 15 #[.pointer (some ⟨R, 0, none⟩)] w fun e w' => e = .returned (.tuple #[]) ∧
      w'.heap[R]? = some (.cells (room st limit turn w.heap.size) 36 (0, 0)) ∧ w'.heap[ch]? = some (.chan 0 #[] true 0 0 false) ∧ w'.heap[w.heap.size]? = some (.chan 0 #[] false 0 0 false) ∧
      ∀ B, B ≤ R → B ≤ ch → Below B w w' := by
  have hmk := mk32
  have hcl : ∀ ats ty, (Builtin.close_ ats ty #[.chan (some ch)]).run Yba.prog w = .ok (.tuple #[]) (w.setChan ch 0 #[] true 0 0 false) := fun ats ty => run_close_open (P := Yba.prog) (w := w) ats ty hch
  have c5 := blk_cell hR 5
  simp only [room, List.getElem?_toArray, List.getElem?_cons_zero, List.getElem?_cons_succ] at c5
  have gR := blk_chan (c := ch) (cap := 0) (buf := #[]) (cl := true) (s := 0) (r := 0) (tm := false) hne hR
  have gC := heap_setChan w ch 0 #[] true 0 0 false (blk_lt hch)
  have gS := size_setChan w ch 0 #[] true 0 0 false
  have gB : ∀ B, B ≤ ch → Below B w (w.setChan ch 0 #[] true 0 0 false) := fun B hB => below_setChan (Below.refl _ _) hB _ _ _ _ _ _
  have hsz := blk_lt hR
  clear hR hch
  revert hcl gR gC gS gB
  generalize w.setChan ch 0 #[] true 0 0 false = w1
  intro hcl gR gC gS gB
  have hlt := blk_lt gR
  have hf := blk_free gR
  have d5 := blk_cell gR 5
  simp only [room, List.getElem?_toArray, List.getElem?_cons_zero, List.getElem?_cons_succ] at d5
  have HR := hide gR
  have HC := hide gC
  have HS := hide gS
  have HB := hide gB
  clear gR gC gS gB hsz
  go_enter Yba.func15, Yba.ntmps15
  go_wp2
  go_end0
  have gS := unhide HS
  have gs1 : (w1.setCell ⟨R, 5, none⟩ (.chan (some w1.heap.size))).heap.size = w1.heap.size := by simp [World.setCell]
  refine ⟨rfl, ?_, ?_, ?_, ?_⟩
  · rw [← gS]
    exact blk_new (.chan 0 #[] false 0 0 false) (blk_set 5 (.chan (some w1.heap.size)) (unhide HR))
  · exact blk_new (.chan 0 #[] false 0 0 false) (blk_oth 5 (.chan (some w1.heap.size)) (fun h => hne h.symm) (unhide HC))
  · have := heap_alloc_new (w1.setCell ⟨R, 5, none⟩ (.chan (some w1.heap.size))) (.chan 0 #[] false 0 0 false)
    rw [gs1] at this
    rw [← gS]; exact this
  · intro B h1 h2
    exact (((unhide HB) B h2).setCell h1 _).alloc (by rw [gs1]; omega) _

theorem turn_any (R ch : Nat) (limit turn c : Int) (w : World) (hne : ¬ R = ch) (hR : w.heap[R]? = some (.cells (room 0 limit turn ch) 36 (0, 0))) (hch : w.heap[ch]? = some (.chan 0 #[] false 0 0 false)) :
    Calls Yba.prog 8 #[.pointer (some ⟨R, 0, none⟩), .int .i64 c] w fun e w' => e = .returned (.tuple #[]) ∧
      w'.heap[R]? = some (.cells (room 0 limit c w.heap.size) 36 (0, 0)) ∧ w'.heap[ch]? = some (.chan 0 #[] true 0 0 false) ∧ w'.heap[w.heap.size]? = some (.chan 0 #[] false 0 0 false) ∧
      ∀ B, B ≤ R → B ≤ ch → Below B w w' := by
  have c0 := blk_cell hR 0
  have hf := blk_free hR
  have hlt := blk_lt hR
  have hltc := blk_lt hch
  simp only [room, List.getElem?_toArray, List.getElem?_cons_zero] at c0
  have hR1 : (w.setCell ⟨R, 0, none⟩ (.int .i32 1)).heap[R]? = some (.cells (room 1 limit turn ch) 36 (0, 0)) := blk_set 0 (.int .i32 1) hR
  have hC1 := blk_oth (g := R) 0 (.int .i32 1) (fun h => hne h.symm) hch
  have hS1 : (w.setCell ⟨R, 0, none⟩ (.int .i32 1)).heap.size = w.heap.size := by simp [World.setCell]
  have hB1 : ∀ B, B ≤ R → Below B w (w.setCell ⟨R, 0, none⟩ (.int .i32 1)) := fun B h => (Below.refl _ _).setCell h _
  have lk := lock_free Yba.muLib ⟨R, 0, none⟩ w c0 (hf 0)
  clear hR hch c0 hf
  revert hR1 hC1 hS1 hB1 lk
  generalize w.setCell ⟨R, 0, none⟩ (.int .i32 1) = w1
  intro hR1 hC1 hS1 hB1 lk
  have d4 := blk_cell hR1 4
  have hf1 := blk_free hR1
  simp only [room, List.getElem?_toArray, List.getElem?_cons_zero, List.getElem?_cons_succ] at d4
  have HR := hide hR1
  have HC := hide hC1
  have HS := hide hS1
  have HB := hide hB1
  have HL := hide lk
  clear hR1 hC1 hS1 hB1 lk
  go_enter Yba.func8, Yba.ntmps8
  go_wp2_with fail
  refine (unhide HL).mono ?_
  rintro e w' ⟨rfl, rfl⟩
  go_wp2_with fail
  refine (change_any R ch 1 limit c _ hne (blk_set 4 (.int .i64 c) (unhide HR)) (blk_oth 4 (.int .i64 c) (fun h => hne h.symm) (unhide HC))).mono ?_
  rintro e w2 ⟨rfl, hR2, hC2, hN2, hB2⟩
  have gs1 : (w'.setCell ⟨R, 4, none⟩ (.int .i64 c)).heap.size = w.heap.size := by simp [World.setCell, unhide HS]
  rw [gs1] at hR2 hN2
  have d0 := blk_cell hR2 0
  have hf2 := blk_free hR2
  simp only [room, List.getElem?_toArray, List.getElem?_cons_zero] at d0
  have HR2 := hide hR2
  have HC2 := hide hC2
  have HN2 := hide hN2
  have HB2 := hide hB2
  clear hR2 hC2 hN2 hB2 d4 hf1 gs1
  go_wp2_with fail
  refine (unlock_held Yba.muLib ⟨R, 0, none⟩ _ d0 (hf2 0)).mono ?_
  rintro e w3 ⟨rfl, rfl⟩
  clear d0 hf2
  go_wp2
  go_end0
  refine ⟨rfl, blk_set 0 (.int .i32 0) (unhide HR2), blk_oth 0 (.int .i32 0) (fun h => hne h.symm) (unhide HC2), blk_oth 0 (.int .i32 0) (by omega) (unhide HN2), ?_⟩
  intro B h1 h2
  exact ((((unhide HB) B h1).setCell h1 _).trans ((unhide HB2) B h1 h2)).setCell h1 _
end Go.Proofs.Ybulkcaqm.Room
