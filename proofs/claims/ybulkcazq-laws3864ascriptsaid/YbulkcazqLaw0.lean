import Derived.Test.YbulkcazqState
namespace Go.Proofs.Ybulkcazq.Script
set_option linter.unusedVariables false
open Go.ChangeShapes Go.WideShapes Go.ChangeAt Go.RowKit Go.Conc Go.Proofs.Ybulkcazq.Base Go.Proofs.Ybulkcazq.Loud Go.Proofs.Ybulkcazq.Comm
open Go.ChangeMaps (setBlock)

/-- the script's cells -/
structure Ops (w : World) (b o N : Nat) (op kk : Nat → Int) : Prop where
  c0 : ∀ j, j < N → w.cell? ⟨b, o + j * 2, none⟩ = some (.int .u8 (op j))
  c1 : ∀ j, j < N → w.cell? ⟨b, o + j * 2 + 1, none⟩ = some (.int .u8 (kk j))
  r0 : ∀ j, j < N → 0 ≤ op j ∧ op j ≤ 255
  r1 : ∀ j, j < N → 0 ≤ kk j ∧ kk j ≤ 255

structure Inv (w wr : World) (S M : Nat) (ch : Nat → List Nat) (X : Nat → Nat) (nx : Nat → Option Nat) (d I : Nat → Nat) (n : Nat) : Prop where
  wd : Wd wr w.heap.size S M ch X nx d I n
  pl : Pl ch nx d I n
  up : Below w.heap.size w wr

/-- the shard's zero value -/
theorem zero41 : ∃ Z : Array Value, (∀ w : World, (zeroValue 41).run Yba.prog w = .ok (.agg Z) w) ∧ Z.size = 139 ∧ Z[12]? = some (.int .i64 0) ∧ ∀ p, p < 8 → Z[4 + p]? = some (.pointer none) := by
  refine ⟨(match (Yba.prog.info? 41).bind (·.zero) with
    | some (.agg cs) => cs
    | _ => #[]), fun w => ?_, by kernel_rfl, by kernel_rfl, fun p h => ?_⟩
  · have h : (Yba.prog.info? 41).map (fun i => i.zero) = some (some (.agg (match (Yba.prog.info? 41).bind (·.zero) with
      | some (.agg cs) => cs
      | _ => #[]))) := by kernel_rfl
    generalize (match (Yba.prog.info? 41).bind (·.zero) with
      | some (.agg cs) => cs
      | _ => #[]) = Z at h ⊢
    cases hq : Yba.prog.info? 41 with
    | none => rw [hq] at h; simp at h
    | some i =>
      rw [hq] at h
      simp at h
      simp [zeroValue, typeInfo, hq, h]
  · rcases (show p = 0 ∨ p = 1 ∨ p = 2 ∨ p = 3 ∨ p = 4 ∨ p = 5 ∨ p = 6 ∨ p = 7 by omega) with rfl | rfl | rfl | rfl | rfl | rfl | rfl | rfl <;> kernel_rfl

theorem inv0 (w : World) (Z : Array Value) (hzs : Z.size = 139) (hzn : Z[12]? = some (.int .i64 0)) (hzi : ∀ p, p < 8 → Z[4 + p]? = some (.pointer none)) :
    Inv w ((w.alloc (.map #[] 0)).alloc (.cells (Z.setIfInBounds 3 (.map (some w.heap.size))) 41)) (w.heap.size + 1) w.heap.size (fun _ => []) (fun _ => 0) (fun _ => none) (fun _ => 0) (fun _ => 0) 0 := by
  refine ⟨⟨fun i hi => (List.not_mem_nil hi).elim, fun i j hi => (List.not_mem_nil hi).elim, fun i hi => (List.not_mem_nil hi).elim, ⟨Z.setIfInBounds 3 (.map (some w.heap.size)), ?_, ?_⟩, by omega, ⟨#[], 0, blk_new _ (blk_last _ _), mapIs_nil⟩, Nat.le_refl _⟩, ⟨by omega, fun h i hi => (List.not_mem_nil hi).elim, fun h => List.nodup_nil, fun h => trivial, fun p hp => by omega, fun i hi => (List.not_mem_nil hi).elim⟩, ((Below.refl _ _).alloc (Nat.le_refl _) _).alloc (by rw [size_alloc]; omega) _⟩
  · have := blk_last (w.alloc (.map #[] 0)) (.cells (Z.setIfInBounds 3 (.map (some w.heap.size))) 41)
    rw [size_alloc] at this
    exact this
  · refine ⟨by simp [hzs], by rw [Array.getElem?_setIfInBounds_self_of_lt (by omega)], fun p hp => by omega, fun p _ hp => by rw [Array.getElem?_setIfInBounds_ne (by omega)]; exact hzi p hp, by rw [Array.getElem?_setIfInBounds_ne (by omega)]; exact hzn⟩

theorem inv_up {w wr wz : World} (hb : Below w.heap.size w wr) (hu : Up w.heap.size wr wz) : Below w.heap.size w wz := hb.trans (hu.below hb.size (fun k hk e => by omega))
theorem inv_none {w wr wz : World} (hb : Below w.heap.size w wr) (ht : TouchOnly none' wr wz) : Below w.heap.size w wz := hb.trans (ht.below hb.size (fun _ _ e => e))
end Go.Proofs.Ybulkcazq.Script
