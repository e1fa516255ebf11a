import Derived.Test.YbulkcaqmFsm
import Derived.OpenShut
import Derived.WalkKit
namespace Go.Proofs.Ybulkcaqm.Ends
open Go.ChangeShapes Go.WideShapes Go.ChangeAt Go.RowKit Go.Proofs.Ybulkcaqm.Fsm

theorem ret_bool {a b : Bool} (h : a = b) : Ending.returned (.bool a) = .returned (.bool b) := by rw [h]

set_option maxHeartbeats 400000 in
theorem ends_any (b n : Nat) (ys : List Int) (w : World) (hy : ys.length = n) (hn : n ≤ 4096)
    (hc : ∀ j, j < n → w.cell? ⟨b, j, none⟩ = some (.int .u8 (ys.getD j 0))) :
    Calls Yba.prog 12 #[.slice (some ⟨b, 0, none⟩) n n] w fun e w' => e = .returned (.bool (headEndsIn (leadOff ys))) ∧ w' = w := by
  go_enter Yba.func12, Yba.ntmps12
  go_wp2
  go_loop [3] (fun i => ∃ k : Nat, k ≤ n ∧ i = .int .i64 k ∧ leadOff (ys.drop k) = leadOff ys) (fun i => n - (intOf i).toNat)
  case atStart => exact ⟨0, Nat.zero_le _, rfl, rfl⟩
  case round =>
    obtain ⟨k, hk, rfl, hsk⟩ := hrel
    have HS : Hid (leadOff (ys.drop k) = leadOff ys) := hsk
    clear hsk
    have hcx : k < n → w.cell? ⟨b, k, none⟩ = some (.int .u8 (ys.getD k 0)) := fun h => hc k h
    have HC : Hid (∀ j, j < n → w.cell? ⟨b, j, none⟩ = some (.int .u8 (ys.getD j 0))) := hc
    clear hc
    by_cases hlt : k < n
    · have hc1 := hcx hlt
      clear hcx
      go_wp2
      · go_round
        case rel => exact ⟨k + 1, by omega, by go_num, by rw [← skip_step ys k (by omega) (by simp_all)]; exact HS.out⟩
        case measure => simp [intOf]; omega
      · go_round
        case rel => exact ⟨k + 1, by omega, by go_num, by rw [← skip_step ys k (by omega) (by simp_all)]; exact HS.out⟩
        case measure => simp [intOf]; omega
      · have hstop : Hid (leadOff ys = ys.drop k) := by
          have := HS.out; rw [skip_stop ys k (by omega) (by simp_all)] at this; exact this.symm
        clear HS hc1
        go_loop [5] (fun i => ∃ j : Nat, j ≤ n - k ∧ i = .int .i64 j ∧ headEndsIn (ys.drop (k + j)) = headEndsIn (ys.drop k)) (fun i => n - (intOf i).toNat)
        case atStart => exact ⟨0, Nat.zero_le _, rfl, rfl⟩
        case round =>
          obtain ⟨j, hj, rfl, hsc⟩ := hrel
          have HQ : Hid (headEndsIn (ys.drop (k + j)) = headEndsIn (ys.drop k)) := hsc
          clear hsc
          by_cases hj1 : j < n - k
          · have c0 := HC.out (k + j) (by omega)
            by_cases hj2 : j + 1 < n - k
            · have c1 := HC.out (k + (j + 1)) (by omega)
              by_cases hj3 : j + 2 < n - k
              · have c2 := HC.out (k + (j + 2)) (by omega)
                go_wp2
                · go_round
                  case rel => exact ⟨j + 1, by omega, by go_num, (scan_miss0 ys k j (by omega) (by assumption)).trans HQ.out⟩
                  case measure => simp [intOf]; omega
                · go_ret
                  exact ⟨ret_bool (by rw [hstop.out, ← HQ.out]; exact (scan_hit1 ys k j (by omega) (by assumption) (by assumption)).symm), rfl⟩
                · go_ret
                  exact ⟨ret_bool (by rw [hstop.out, ← HQ.out]; exact (scan_hit2 ys k j (by omega) (by assumption) (by assumption) (by assumption)).symm), rfl⟩
                · go_round
                  case rel => exact ⟨j + 1, by omega, by go_num, (scan_miss ys k j (by omega) (fun _ => by assumption) (fun _ _ => by assumption)).trans HQ.out⟩
                  case measure => simp [intOf]; omega
                · go_round
                  case rel => exact ⟨j + 1, by omega, by go_num, (scan_miss ys k j (by omega) (fun _ => by assumption) (fun _ h => absurd h (by assumption))).trans HQ.out⟩
                  case measure => simp [intOf]; omega
              · go_wp2
                · go_round
                  case rel => exact ⟨j + 1, by omega, by go_num, (scan_miss0 ys k j (by omega) (by assumption)).trans HQ.out⟩
                  case measure => simp [intOf]; omega
                · go_ret
                  exact ⟨ret_bool (by rw [hstop.out, ← HQ.out]; exact (scan_hit1 ys k j (by omega) (by assumption) (by assumption)).symm), rfl⟩
                · go_round
                  case rel => exact ⟨j + 1, by omega, by go_num, (scan_miss ys k j (by omega) (fun _ => by assumption) (fun h _ => absurd h (by omega))).trans HQ.out⟩
                  case measure => simp [intOf]; omega
            · go_wp2
              · go_round
                case rel => exact ⟨j + 1, by omega, by go_num, (scan_miss0 ys k j (by omega) (by assumption)).trans HQ.out⟩
                case measure => simp [intOf]; omega
              · go_round
                case rel => exact ⟨j + 1, by omega, by go_num, (scan_miss ys k j (by omega) (fun h => absurd h (by omega)) (fun h _ => absurd h (by omega))).trans HQ.out⟩
                case measure => simp [intOf]; omega
          · go_wp2
            go_ret
            exact ⟨ret_bool (by rw [hstop.out, ← HQ.out, scan_end ys (k + j) (by omega)]), rfl⟩
    · have hstop : Hid (leadOff ys = ys.drop k) := by
        have := HS.out; rw [skip_end ys k (by omega)] at this; exact this.symm
      clear hcx HS
      go_wp2
      refine wp_loop_rounds 1 ?_
      rw [rounds_succ]
      go_wp2
      go_ret
      exact ⟨ret_bool (by rw [hstop.out, scan_end ys k (by omega)]), rfl⟩
end Go.Proofs.Ybulkcaqm.Ends
