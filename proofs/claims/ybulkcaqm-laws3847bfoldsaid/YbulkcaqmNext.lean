import Derived.Test.YbulkcaqmRows
import Derived.WalkKit
import Derived.ProofKit
namespace Go.Proofs.Ybulkcaqm.Next
open Go.ChangeShapes Go.WideShapes Go.ChangeAt Go.RowKit

theorem ret_int {k : IntKind} {a b : Int} (h : a = b) : Ending.returned (.int k a) = .returned (.int k b) := by rw [h]

def nxt (s c : Int) : Int :=
  if s = 0 ∧ (c = 13 ∨ c = 10) then 0 else if s = 1 ∧ c = 10 then 2 else if s = 2 ∧ c = 13 then 3 else if (s = 2 ∨ s = 3) ∧ c = 10 then 4 else 1

set_option maxHeartbeats 400000 in
theorem next_any (s c : Int) (w : World) :
    Calls Yba.prog 9 #[.int .i64 s, .int .u8 c] w fun e w' => e = .returned (.int .i64 (nxt s c)) ∧ w' = w := by
  go_enter Yba.func9, Yba.ntmps9
  go_wp2
  all_goals go_ret
  all_goals exact ⟨ret_int (by unfold nxt; simp_all), rfl⟩

set_option maxHeartbeats 400000 in
theorem model_any (s c : Int) (w : World) :
    Calls Yba.prog 10 #[.int .i64 s, .int .u8 c] w fun e w' => e = .returned (.int .i64 (nxt s c)) ∧ w' = w := by
  go_enter Yba.func10, Yba.ntmps10
  go_wp2
  all_goals go_ret
  all_goals exact ⟨ret_int (by unfold nxt; simp_all), rfl⟩
end Go.Proofs.Ybulkcaqm.Next
