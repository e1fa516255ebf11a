import Derived.Test.YbulkcazqLaw
import Derived.OpenShut
import Derived.ShutString
import Derived.ChangeOld
import Derived.Below
import Derived.Deep.SlicePairs
namespace Go.Proofs.Ybulkcazq.lawS3864AScript
open Go.ChangeShapes Go.WideShapes Go.ChangeAt Go.RowKit
open Go.Proofs.Ybulkcazq.Script
set_option linter.unusedVariables false

theorem own : ownKnob Yba.prog.godebug = none := by kernel_rfl
theorem laidOut : laidOutB Yba.prog = true := by kernel_rfl
theorem cells43 : Yba.prog.cellsOf 43 = 2 := by kernel_rfl
theorem cells5 : Yba.prog.cellsOf 5 = 1 := by kernel_rfl

set_option maxRecDepth 100000 in
theorem walk_long (a : Option Addr) (N cN : Nat) (w : World) (h63 : N ≤ 9223372036854775807) (h : 1024 < N) :
    Calls Yba.prog 3 #[.slice a N cN] w fun e w' => e = .returned (.bool true) ∧ Below w.heap.size w w' := by
  have h0' : (N : Int) > 1024 := by omega
  clear h
  go_enter Yba.func3, Yba.ntmps3
  go_wp2
  go_ret
  exact ⟨rfl, Below.refl _ _⟩

set_option maxRecDepth 100000 in
set_option maxHeartbeats 1000000 in
theorem lifted (os : Os) (started : os.Started) (H : Type) (enc : TypeId × Value → H) :
    ReturnsInHanded {} Yba.checked os 3 .any (Rows.lawS3864AScriptSpec.pre6 enc Yba.prog Yba.f3 Rows.lawS3864AScriptRow.domain false) (Rows.lawS3864AScriptSpec.post enc Yba.prog Yba.f3 false true false false) := by
  refine returnsInHanded_of_change (C := Yba.checked) own started (by kernel_rfl) Yba.func3
    (ChangeSpec.witness6 (enc := enc) (C := Yba.checked) false ⟨#[], #[.slice none 0 0], []⟩ 8 (by kernel_rfl) (by kernel_rfl) (by kernel_rfl) (by kernel_rfl)) ?_
  intro W base args ds gs before hval0 hW hcnd _
  have hval : ∀ (j : Nat) t v, Yba.f3.params[j]? = some t → args[j]? = some v → Value.okWide Yba.prog W .any base t v := hval0
  have hW' := hW
  obtain ⟨p, q, hA0, hV, rfl, hfz, hnd⟩ := hW
  have hA : DataW.TrodAll enc Yba.prog W 0 (fun _ => true) true Yba.f3.params.toList args.toList ds p := hA0
  rw [Yba.params3] at hA hval
  obtain ⟨v0, vs0, d0, ds0, p0, q0, hargs, rfl, rfl, h0, r0⟩ := trodAll_cons hA
  obtain ⟨rfl, rfl, rfl⟩ := trodAll_nil r0
  obtain rfl : args = #[v0] := by cases args; simp_all
  obtain ⟨rfl, rfl⟩ := trodVars_none hV
  obtain ⟨a0, N, cN, rfl⟩ := okWide_slice Yba.underlying22 (hval 0 22 v0 rfl rfl)
  have k0 := h0
  have lt0 : ∀ x ∈ p0, x.block < W.heap.size := by obtain ⟨m, hm⟩ := k0; exact DataW.trod_lt m _ _ _ hm
  have hcalls : Calls Yba.prog 3 #[.slice a0 N cN] W fun e w' => e = .returned (.bool true) ∧ Below W.heap.size W w' := by
    obtain ⟨fuel, hf⟩ := h0
    rcases Go.Deep.open_slice_pairs Yba.underlying22 Yba.underlying43 cells43 rfl rfl cells5 cells5 hf with ⟨hcs, _⟩ | ⟨a, len, cap, m, n, V0, V1, D0, D1, P0, P1, hcs, _, hlc, hcm, hm, _, hel⟩
    · simp [Value.cells] at hcs
      obtain ⟨rfl, rfl, rfl⟩ := hcs
      exact law none 0 0 (fun _ => 0) (fun _ => 0) W (fun h => by omega) (by omega)
    · simp [Value.cells] at hcs
      obtain ⟨rfl, rfl, rfl⟩ := hcs
      simp only [if_true] at hm
      have hm' := hm.symm
      subst hm'
      by_cases hN : N ≤ 1024
      · obtain ⟨op, hop⟩ := Go.Deep.choose_lt (n := N) (p := fun i (z : Int) => V0 i = .int .u8 z ∧ 0 ≤ z ∧ z ≤ 255) (fun i hi => by
          obtain ⟨z, h1, _, h3⟩ := DataW.trod_int Yba.underlying5 (hel i (by omega)).2.2.1
          have := bounds_u8 h3
          exact ⟨z, by simpa using h1, by omega, by omega⟩)
        obtain ⟨kk, hkk⟩ := Go.Deep.choose_lt (n := N) (p := fun i (z : Int) => V1 i = .int .u8 z ∧ 0 ≤ z ∧ z ≤ 255) (fun i hi => by
          obtain ⟨z, h1, _, h3⟩ := DataW.trod_int Yba.underlying5 (hel i (by omega)).2.2.2
          have := bounds_u8 h3
          exact ⟨z, by simpa using h1, by omega, by omega⟩)
        refine law (some a) N cN op kk W (fun hpos => ?_) hN
        obtain ⟨b, off, spot⟩ := a
        have hspot : spot = none := by
          have := (hel 0 (by omega)).1
          simpa [Addr.add] using World.cell?_spot this
        subst hspot
        refine ⟨b, off, rfl, fun j hj => ?_, fun j hj => ?_, fun j hj => (hop j hj).2, fun j hj => (hkk j hj).2⟩
        · have := (hel j (by omega)).1
          rwa [add_plain, (hop j hj).1] at this
        · have := (hel j (by omega)).2.1
          rwa [add_plain, (hkk j hj).1, ← Nat.add_assoc] at this
      · exact walk_long _ _ _ _ (by unfold maxLen at hcm; omega) (by omega)
  clear hA0 hval0
  refine hcalls.mono fun e W' ⟨he, bel⟩ => ?_
  subst he
  exact ⟨_, rfl, _, _, _, [], _, [], hW', trodAll_mk1 (shut_bool Yba.underlying4 _), (trodAll_cons_mk (Below.trod laidOut (by kernel_rfl) (of_decide_eq_true (by kernel_rfl)) k0 bel lt0) trodAll_mk0), rfl, bel.frame _, fun h => by cases h⟩

theorem over : Rows.lawS3864AScriptRow.holds Yba.pinned (OpenSpec.ofChange Rows.lawS3864AScriptSpec) :=
  OpenClaim.holds_of_wide 3 Yba.f3 rfl rfl rfl rfl rfl rfl rfl ⟨rfl, rfl, rfl, rfl, rfl⟩ rfl rfl rfl rfl rfl (by kernel_rfl) Yba.func3 (by kernel_rfl)
    (of_decide_eq_true (by kernel_rfl)) (by unfold Func.isWrapper; first | (rw [if_pos (by decide +kernel)]; kernel_rfl) | (rw [if_neg (by decide +kernel)]; exact ⟨rfl, rfl⟩))
    (fun os started H enc _ => lifted os started H enc)

theorem proved : Rows.LawS3864AScriptSaid := over
end Go.Proofs.Ybulkcazq.lawS3864AScript
