import Derived.Test.YbulkcaqmNext
import Derived.OpenShut
namespace Go.Proofs.Ybulkcaqm.Bmap
open Go.ChangeShapes Go.WideShapes Go.ChangeAt Go.RowKit
theorem info5 : (Yba.prog.info? 5).map (fun i => (i.zero, i.size, i.bytes)) = some (some (.int .u8 0), 1, 1) := by kernel_rfl

theorem made_row (n : Nat) : (madeCells (Value.int .u8 0).cells (n * 1)).toList = (List.replicate n (0 : Int)).map (Value.int .u8) := by
  have : (Value.int .u8 0).cells = #[.int .u8 0] := rfl
  rw [this, toList_madeCells_one]; simp

theorem rel_put {w wr : World} {len B : Nat} {ys : List Int} (hys : ys.length = len)
    (hown : wr.ownsRow B 5 1 (.slice (some ⟨B, 0, none⟩) len len) len (ys.map (.int .u8))) (hbel : Below B w wr) (k : Nat) (v : Int) :
    ∃ ys' : List Int, ys'.length = len ∧ (wr.setCell ⟨B, k, none⟩ (.int .u8 v)).ownsRow B 5 1 (.slice (some ⟨B, 0, none⟩) len len) len (ys'.map (.int .u8)) ∧
      Below B w (wr.setCell ⟨B, k, none⟩ (.int .u8 v)) :=
  ⟨ys.set k v, by simp [hys], by rw [List.map_set]; exact (hown.stored k _).1, hbel.setCell (Nat.le_refl _) _⟩

set_option maxHeartbeats 400000 in
theorem bmap_some (b off len cap : Nat) (zs : List Int) (w : World) (hz : len ≤ zs.length) (hlen : len ≤ 4096) (hb : b < w.heap.size)
    (hc : ∀ j, j < zs.length → w.cell? ⟨b, off + j, none⟩ = some (.int .u8 (zs.getD j 0))) (hr : ∀ j : Nat, 0 ≤ zs[j]?.getD 0 ∧ zs[j]?.getD 0 ≤ 255) :
    Calls Yba.prog 11 #[.slice (some ⟨b, off, none⟩) len cap] w fun e w' => ∃ ys : List Int, ys.length = len ∧ e = .returned (.slice (some ⟨w.heap.size, 0, none⟩) len len) ∧
      w'.ownsRow w.heap.size 5 1 (.slice (some ⟨w.heap.size, 0, none⟩) len len) len (ys.map (.int .u8)) ∧ Below w.heap.size w w' := by
  obtain ⟨i0, hi, hz0, hz1, hz2⟩ := info_parts info5
  go_enter Yba.func11, Yba.ntmps11
  go_wp2_with (at_make; refine wpList_make_full _ rfl _ _ 45 rfl w.heap.size 5 i0 (.int .u8 0) 1 Yba.underlying45 hi hz0 hz1 .i64 .i64 len len len rfl rfl rfl rfl (by rw [hz2]; omega) (by unfold maxLen; omega) (Nat.le_refl _) ?_; intro w1 hown hgrow)
  have hsz1 : w.heap.size < w1.heap.size := (hown.lt w.heap.size rfl).2
  have hb1 : Below w.heap.size w w1 := (Below.refl _ _).grown hgrow (Nat.le_refl _) (by intro k h; cases h)
  rw [made_row] at hown
  go_loopw [4] (fun i wr => ∃ (k : Nat) (ys : List Int), k ≤ len ∧ i = .int .i64 k ∧ ys.length = len ∧
      wr.ownsRow w.heap.size 5 1 (.slice (some ⟨w.heap.size, 0, none⟩) len len) len (ys.map (.int .u8)) ∧ Below w.heap.size w wr) (fun i _ => len - (intOf i).toNat)
  case atStart => exact ⟨0, List.replicate len 0, Nat.zero_le _, rfl, by simp, hown, hb1⟩
  case round =>
    clear hown hb1 hgrow hsz1
    obtain ⟨k, ys, hk, rfl, hys, hown, hbel⟩ := hrel
    have hcx : k < len → wr.cell? ⟨b, off + k, none⟩ = some (.int .u8 (zs.getD k 0)) := fun _ => (hbel.cell (by exact hb)).trans (hc k (by omega))
    have hrk := hr k
    have hfz := hown.frozenAt k
    have hat : k < len → wr.cell? ⟨w.heap.size, k, none⟩ = some (.int .u8 (ys.getD k 0)) := fun h => by
      rw [hown.cellAt k (by omega)]; simp [hys, h]
    clear hr hc
    go_wp2
    · go_roundw
      case rel =>
        obtain ⟨ys', hy', ho', hb'⟩ := rel_put hys hown hbel k _
        exact ⟨k + 1, ys', by omega, by go_num, hy', ho', hb'⟩
      case measure => simp [intOf]; omega
    · go_ret
      exact ⟨ys, hys, rfl, hown, hbel⟩

set_option maxHeartbeats 400000 in
theorem bmap_zero (a : Option Addr) (cap : Nat) (w : World) :
    Calls Yba.prog 11 #[.slice a 0 cap] w fun e w' => ∃ ys : List Int, ys.length = 0 ∧ e = .returned (.slice (some ⟨w.heap.size, 0, none⟩) 0 0) ∧
      w'.ownsRow w.heap.size 5 1 (.slice (some ⟨w.heap.size, 0, none⟩) 0 0) 0 (ys.map (.int .u8)) ∧ Below w.heap.size w w' := by
  obtain ⟨i0, hi, hz0, hz1, hz2⟩ := info_parts info5
  go_enter Yba.func11, Yba.ntmps11
  go_wp2_with (at_make; refine wpList_make_full _ rfl _ _ 45 rfl w.heap.size 5 i0 (.int .u8 0) 1 Yba.underlying45 hi hz0 hz1 .i64 .i64 0 0 0 rfl rfl rfl rfl (by omega) (by unfold maxLen; omega) (Nat.le_refl _) ?_; intro w1 hown hgrow)
  have hb1 : Below w.heap.size w w1 := (Below.refl _ _).grown hgrow (Nat.le_refl _) (by intro k h; cases h)
  rw [made_row] at hown
  refine wp_loop_rounds 1 ?_
  rw [rounds_succ]
  go_wp2
  go_ret
  exact ⟨[], rfl, rfl, hown, hb1⟩
end Go.Proofs.Ybulkcaqm.Bmap
