import Derived.Test.YbulkcangDoorMoved
namespace Go.Proofs.YbulkcangDoor.Moved
set_option linter.unusedVariables false
open Go.ChangeShapes Go.WideShapes Go.ChangeAt Go.RowKit Go.Conc Go.Proofs.YbulkcangDoor.Base Go.Proofs.YbulkcangDoor.Small Go.Proofs.YbulkcangDoor.Comm Go.Proofs.YbulkcangDoor.Waits Go.Proofs.YbulkcangDoor.Timers

theorem run_clear_nil {P : Program} (w : World) (t e ty : TypeId) (ht : P.underlying t = some (.slice e)) (n c : Nat) : (Builtin.clear_ #[t] ty #[.slice none n c]).run P w = .ok (.tuple #[]) w := by
  simp [Builtin.clear_, run_underlying ht]

set_option maxRecDepth 100000 in
set_option maxHeartbeats 2000000 in
theorem moved_zero (L C : Nat) (tm : Value) (ending : ByteArray) (w : World)
    (hL : w.heap[L]? = some (.cells (line C (.slice none 0 0) tm) 31 (0, 0))) (hC : w.heap[C]? = some (.cells circ 62 (0, 0))) (Post : World → Prop) (SA : Nat → Prop)
    (hstop : ∀ w1, w1.heap[L]? = some (.cells (line C (.slice none 0 0) tm) 31 (0, 0)) → TouchOnly (· = L) w w1 → Calls Ybad.prog 10 #[ptr L] w1 fun e w2 => e = .returned (.tuple #[]) ∧ Post w2 ∧ TouchOnly SA w1 w2) :
    Calls Ybad.prog 6 #[ptr L, .string ending] w fun e w' => e = .returned (.tuple #[]) ∧ ∃ w1, w1.heap[L]? = some (.cells (line C (.slice none 0 0) tm) 31 (0, 0)) ∧ TouchOnly (· = L) w w1 ∧ Post w' ∧ TouchOnly SA w1 w' := by
  have l1 := blk_cell hL 1
  have l4 := blk_cell hL 4
  have hf := blk_free hL
  have c2 := blk_cell hC 2
  simp only [line, circ, List.getElem?_toArray, List.getElem?_cons_zero, List.getElem?_cons_succ, ptr] at l1 l4 c2
  have hn1 := blk_set 4 (.slice none 0 0) hL
  have ht1 : TouchOnly (· = L) w (w.setCell ⟨L, 4, none⟩ (.slice none 0 0)) := (TouchOnly.refl (· = L) w).setCell (p := ⟨L, 4, none⟩) (fun _ => rfl) _
  have HN := hide (show (w.setCell ⟨L, 4, none⟩ (.slice none 0 0)).heap[L]? = some (.cells (line C (.slice none 0 0) tm) 31 (0, 0)) from hn1)
  have HT := hide ht1
  have HST := hide hstop
  clear hL hC hstop hn1 ht1
  have hce := fun (w : World) n c ty => run_clear_nil (P := Ybad.prog) w 27 40 ty Ybad.underlying27 n c
  unfold ptr
  go_enter Ybad.func6, Ybad.ntmps6
  go_wp2_with (go_at_call 7; refine (state_any _ _ c2).mono ?_; rintro e w' ⟨rfl, rfl⟩)
  refine wp_loop_rounds 1 ?_
  rw [rounds_succ]
  go_wp2_with fail
  refine (unhide HST _ (unhide HN) (unhide HT)).mono ?_
  rintro e w2 ⟨rfl, hp, ht⟩
  have HF := hide (And.intro (unhide HN) (And.intro (unhide HT) (And.intro hp ht)))
  clear HN HT hp ht hce
  go_wp2
  go_end0
  exact ⟨rfl, _, unhide HF⟩
end Go.Proofs.YbulkcangDoor.Moved
