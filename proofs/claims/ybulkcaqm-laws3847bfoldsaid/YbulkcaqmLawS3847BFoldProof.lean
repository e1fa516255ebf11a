import Derived.Test.YbulkcaqmRows
import Derived.Test.YbulkcaqmNext
import Derived.Test.YbulkcaqmFsm
import Derived.Test.YbulkcaqmBmap
import Derived.Test.YbulkcaqmEnds
import Derived.WalkKit
import Derived.ProofKit
import Derived.OpenShut
import Derived.ShutString
import Derived.ChangeOld
import Derived.Below
namespace Go.Proofs.Ybulkcaqm.lawS3847BFold
open Go.ChangeShapes Go.WideShapes Go.ChangeAt Go.RowKit
open Go.ChangeMaps (open_string shut_string)
set_option linter.unusedVariables false

theorem own : ownKnob Yba.prog.godebug = none := by kernel_rfl
theorem laidOut : laidOutB Yba.prog = true := by kernel_rfl

def IsRow (k : IntKind) (w : World) (a : Option Addr) (len cap : Nat) (zs : List Int) : Prop :=
  (a = none ∧ len = 0 ∧ cap = 0 ∧ zs = []) ∨
  ∃ x, a = some x ∧ len ≤ cap ∧ cap ≤ maxLen ∧ zs.length = cap ∧ (∀ i, i < zs.length → w.cell? (x.add i) = some (.int k (zs.getD i 0))) ∧ ∀ n ∈ zs, (Lit.int k n).wf = true

open Go.Proofs.Ybulkcaqm.Fsm Go.Proofs.Ybulkcaqm.Next

theorem hide {p : Prop} (h : p) : Hid p := h
theorem unhide {p : Prop} (h : Hid p) : p := h

theorem bmap_row (a0 : Option Addr) (len0 cap0 : Nat) (z0 : List Int) (w : World) (w0 : IsRow .u8 w a0 len0 cap0 z0) (hl : len0 ≤ 4096) :
    Calls Yba.prog 11 #[.slice a0 len0 cap0] w fun e w' => ∃ ys : List Int, ys.length = len0 ∧ e = .returned (.slice (some ⟨w.heap.size, 0, none⟩) len0 len0) ∧
      w'.ownsRow w.heap.size 5 1 (.slice (some ⟨w.heap.size, 0, none⟩) len0 len0) len0 (ys.map (.int .u8)) ∧ Below w.heap.size w w' := by
  rcases w0 with ⟨rfl, rfl, rfl, rfl⟩ | ⟨x, rfl, h1, h2, h3, h4, h5⟩
  · exact Bmap.bmap_zero _ _ w
  · by_cases h0 : len0 = 0
    · subst h0; exact Bmap.bmap_zero _ _ w
    · have hp : 0 < z0.length := by omega
      obtain ⟨b, off, rfl, hc⟩ := ints_at h4 hp
      have hb : b < w.heap.size := World.block_lt_of_cell? w _ (hc 0 hp)
      exact Bmap.bmap_some b off len0 cap0 z0 w (by omega) hl hb hc (range_u8 h5)

set_option maxHeartbeats 400000 in
theorem walk (a0 : Option Addr) (len0 cap0 : Nat) (z0 : List Int) (w : World) (w0 : IsRow .u8 w a0 len0 cap0 z0) (hl63 : len0 ≤ 9223372036854775807) :
    Calls Yba.prog 5 #[.slice a0 len0 cap0] w fun e w' => e = .returned (.bool true) ∧ Below w.heap.size w w' := by
  by_cases hl : len0 ≤ 4096
  · have hm := bmap_row a0 len0 cap0 z0 w w0 hl
    clear w0
    go_enter Yba.func5, Yba.ntmps5
    go_wp2_with fail
    refine hm.mono ?_
    rintro e w1 ⟨ys, hy, rfl, hown, hbel⟩
    clear hm
    have hc : ∀ j, j < len0 → w1.cell? ⟨w.heap.size, j, none⟩ = some (.int .u8 (ys.getD j 0)) := fun j hj => by
      rw [hown.cellAt j (by omega)]; simp [hy, hj]
    have HB : Hid (Below w.heap.size w w1) := hbel
    have HC : Hid (∀ j, j < len0 → w1.cell? ⟨w.heap.size, j, none⟩ = some (.int .u8 (ys.getD j 0))) := hc
    clear hown hbel hc
    go_wp2_with fail
    go_loop [4, 5] (fun s i => ∃ (k : Nat) (x : Int), k ≤ len0 ∧ i = .int .i64 k ∧ s = .int .i64 x ∧ foldNext x (ys.drop k) = foldNext 0 ys) (fun _ i => len0 - (intOf i).toNat)
    case atStart => exact ⟨0, 0, Nat.zero_le _, rfl, rfl, rfl⟩
    case round =>
      obtain ⟨k, x, hk, rfl, rfl, hr⟩ := hrel
      have HR : Hid (foldNext x (ys.drop k) = foldNext 0 ys) := hr
      clear hr
      by_cases hlt : k < len0
      · have hck := HC.out k hlt
        by_cases h4 : x = 4
        · have hfin : (x == 4) = headEndsIn (leadOff ys) := by
            rw [← run_skip, ← HR.out, h4, run_four]
          subst h4
          have hd : headEndsIn (leadOff ys) = true := by rw [← hfin]; rfl
          have HF := hide hd
          clear hd hfin hck
          go_wp2_with fail
          refine (Ends.ends_any w.heap.size len0 ys _ hy hl HC.out).mono ?_
          rintro e w2 ⟨rfl, rfl⟩
          go_wp2_with fail
          go_ret
          exact ⟨Ends.ret_bool (by rw [unhide HF]), HB.out⟩
        · have hne : (x != 4) = true := by simpa using h4
          have HS := hide (run_step x ys k (by omega) h4)
          go_wp2_with (go_at_call 9; refine (next_any _ _ _).mono ?_; rintro e w' ⟨rfl, rfl⟩)
          go_round
          case rel => exact ⟨k + 1, _, by omega, by go_num, rfl, by rw [← HR.out, unhide HS]⟩
          case measure => simp [intOf]; omega
      · have hfin : (x == 4) = headEndsIn (leadOff ys) := by
          rw [← run_skip, ← HR.out, List.drop_of_length_le (by omega), foldNext]
        have HF := hide hfin
        clear hfin
        go_wp2_with fail
        refine (Ends.ends_any w.heap.size len0 ys _ hy hl HC.out).mono ?_
        rintro e w2 ⟨rfl, rfl⟩
        go_wp2_with fail
        go_ret
        exact ⟨Ends.ret_bool (by rw [unhide HF]; simp), HB.out⟩
  · have hl' : 4096 < len0 := by omega
    clear w0
    go_enter Yba.func5, Yba.ntmps5
    go_wp2
    go_ret
    exact ⟨rfl, Below.refl _ _⟩

set_option maxRecDepth 100000 in
theorem lifted (os : Os) (started : os.Started) (H : Type) (enc : TypeId × Value → H) :
    ReturnsInHanded {} Yba.checked os 5 .any (Rows.lawS3847BFoldSpec.pre6 enc Yba.prog Yba.f5 Rows.lawS3847BFoldRow.domain false) (Rows.lawS3847BFoldSpec.post enc Yba.prog Yba.f5 false true false false) := by
  refine returnsInHanded_of_change (C := Yba.checked) own started (by kernel_rfl) Yba.func5
    (ChangeSpec.witness6 (enc := enc) (C := Yba.checked) false ⟨#[], #[.slice none 0 0], []⟩ 8 (by kernel_rfl) (by kernel_rfl) (by kernel_rfl) (by kernel_rfl)) ?_
  intro W base args ds gs before hval0 hW hcnd _
  have hval : ∀ (j : Nat) t v, Yba.f5.params[j]? = some t → args[j]? = some v → Value.okWide Yba.prog W .any base t v := hval0
  have hW' := hW
  obtain ⟨p, q, hA0, hV, rfl, hfz, hnd⟩ := hW
  have hA : DataW.TrodAll enc Yba.prog W 0 (fun _ => true) true Yba.f5.params.toList args.toList ds p := hA0
  rw [Yba.params5] at hA hval
  obtain ⟨v0, vs0, d0, ds0, p0, q0, hargs, rfl, rfl, h0, r0⟩ := trodAll_cons hA
  obtain ⟨rfl, rfl, rfl⟩ := trodAll_nil r0
  obtain rfl : args = #[v0] := by cases args; simp_all
  obtain ⟨rfl, rfl⟩ := trodVars_none hV
  obtain ⟨a0, len0, cap0, rfl⟩ := okWide_slice Yba.underlying45 (hval 0 45 v0 rfl rfl)
  have k0 := h0
  have lt0 : ∀ x ∈ p0, x.block < W.heap.size := by obtain ⟨m, hm⟩ := k0; exact DataW.trod_lt m _ _ _ hm
  obtain ⟨z0, w0⟩ : ∃ zs, IsRow .u8 W a0 len0 cap0 zs := by
    obtain ⟨fuel, hf⟩ := h0
    rcases open_ints Yba.underlying45 Yba.underlying5 (by kernel_rfl) hf with ⟨hcs, _⟩ | ⟨x, l, c, zs, hcs, _, hl, hm, hz, _, hcell, hwz⟩
    · simp [Value.cells] at hcs
      obtain ⟨rfl, rfl, rfl⟩ := hcs
      exact ⟨[], .inl ⟨rfl, rfl, rfl, rfl⟩⟩
    · simp [Value.cells] at hcs
      obtain ⟨rfl, rfl, rfl⟩ := hcs
      exact ⟨zs, .inr ⟨_, rfl, hl, hm, by simpa using hz, hcell, hwz⟩⟩
  clear hA0 hval0
  have hl63 : len0 ≤ 9223372036854775807 := by
    rcases w0 with ⟨_, rfl, _⟩ | ⟨x, _, h1, h2, _⟩
    · omega
    · unfold maxLen at h2; omega
  refine (walk a0 len0 cap0 z0 W w0 hl63).mono fun e W' ⟨he, bel⟩ => ?_
  subst he
  exact ⟨_, rfl, _, _, _, [], _, [], hW', trodAll_mk1 (shut_bool Yba.underlying4 _), (trodAll_cons_mk (Below.trod laidOut (by kernel_rfl) (of_decide_eq_true (by kernel_rfl)) k0 bel lt0) trodAll_mk0), rfl, bel.frame _, fun h => by cases h⟩

theorem over : Rows.lawS3847BFoldRow.holds Yba.pinned (OpenSpec.ofChange Rows.lawS3847BFoldSpec) :=
  OpenClaim.holds_of_wide 5 Yba.f5 rfl rfl rfl rfl rfl rfl rfl ⟨rfl, rfl, rfl, rfl, rfl⟩ rfl rfl rfl rfl rfl (by kernel_rfl) Yba.func5 (by kernel_rfl)
    (of_decide_eq_true (by kernel_rfl)) (by unfold Func.isWrapper; first | (rw [if_pos (by decide +kernel)]; kernel_rfl) | (rw [if_neg (by decide +kernel)]; exact ⟨rfl, rfl⟩))
    (fun os started H enc _ => lifted os started H enc)

theorem proved : Rows.LawS3847BFoldSaid := over
end Go.Proofs.Ybulkcaqm.lawS3847BFold
