import Derived.Test.YbulkcaqmRows
import Derived.Test.YbulkcaqmRoom
import Derived.Deep.Cut
import Derived.WalkKit
import Derived.ProofKit
import Derived.OpenShut
import Derived.ShutString
import Derived.ChangeOld
import Derived.Below
namespace Go.Proofs.Ybulkcaqm.lawS3847ATurn
open Go.ChangeShapes Go.WideShapes Go.ChangeAt Go.RowKit
open Go.ChangeMaps (open_string shut_string)
set_option linter.unusedVariables false

theorem own : ownKnob Yba.prog.godebug = none := by kernel_rfl
theorem laidOut : laidOutB Yba.prog = true := by kernel_rfl

def IsRow (k : IntKind) (w : World) (a : Option Addr) (len cap : Nat) (zs : List Int) : Prop :=
  (a = none ∧ len = 0 ∧ cap = 0 ∧ zs = []) ∨
  ∃ x, a = some x ∧ len ≤ cap ∧ cap ≤ maxLen ∧ zs.length = cap ∧ (∀ i, i < zs.length → w.cell? (x.add i) = some (.int k (zs.getD i 0))) ∧ ∀ n ∈ zs, (Lit.int k n).wf = true

open Go.Conc Go.Proofs.Ybulkcaqm.Comm Go.Proofs.Ybulkcaqm.Room

set_option maxHeartbeats 1000000 in
theorem walk_in (limit : Int) (a : Option Addr) (len cap : Nat) (zs : List Int) (w : World) (hl : len ≤ 1024) 
    (hc : ∀ k, k < len → ∃ ad : Addr, a = some ad ∧ ad.spot = none ∧ w.cell? ⟨ad.block, ad.off + k, none⟩ = some (.int .i64 (zs.getD k 0))) :
    Calls Yba.prog 3 #[.int .i64 limit, .slice a len cap] w fun e w' => e = .returned (.bool true) ∧ Below w.heap.size w w' := by
  have hec := fun (w : World) x y => run_eql_chan (P := Yba.prog) w 32 Yba.underlying32 x y
  have HC := hide hc
  clear hc
  go_enter Yba.func3, Yba.ntmps3
  go_wp2_with fail
  refine (new_any limit _).mono ?_
  rintro e w1 ⟨rfl, rfl⟩
  have gR := heap_alloc_new (w.alloc (.chan 0 #[] false 0 0 false)) (.cells (room 0 limit 0 w.heap.size) 36)
  have gC := blk_new (.cells (room 0 limit 0 w.heap.size) 36) (heap_alloc_new w (.chan 0 #[] false 0 0 false))
  have gB := ((Below.refl w.heap.size w).alloc (Nat.le_refl _) (.chan 0 #[] false 0 0 false)).alloc (by simp) (.cells (room 0 limit 0 w.heap.size) 36)
  have hs : (w.alloc (.chan 0 #[] false 0 0 false)).heap.size = w.heap.size + 1 := by simp
  rw [hs] at gR
  revert gR gC gB
  generalize (w.alloc (.chan 0 #[] false 0 0 false)).alloc (.cells (room 0 limit 0 w.heap.size) 36) = w1
  intro gR gC gB
  clear hs
  have HR := hide gR
  have HG := hide gC
  have HB := hide gB
  clear gR gC gB
  go_wp2_with fail
  go_loopw [6] (fun i wr => ∃ (k ch : Nat) (turn : Int), k ≤ len ∧ i = .int .i64 k ∧ w.heap.size ≤ ch ∧ ¬ w.heap.size + 1 = ch ∧
      Hid (wr.heap[w.heap.size + 1]? = some (.cells (room 0 limit turn ch) 36 (0, 0))) ∧ Hid (wr.heap[ch]? = some (.chan 0 #[] false 0 0 false)) ∧ Hid (Below w.heap.size w wr)) (fun i _ => len - (intOf i).toNat)
  case atStart => exact ⟨0, w.heap.size, 0, Nat.zero_le _, rfl, Nat.le_refl _, by omega, HR, HG, HB⟩
  case round =>
    clear HR HG HB
    obtain ⟨k, ch, turn, hk, rfl, hle, hne, HR, HG, HB⟩ := hrel
    by_cases hlt : k < len
    · obtain ⟨ad, rfl, hsp, hcell⟩ := HC.out k hlt
      obtain ⟨b, off, spot⟩ := ad
      simp only at hsp hcell
      subst hsp
      have hcx : wr.cell? ⟨b, off + k, none⟩ = some (.int .i64 (zs.getD k 0)) := ((unhide HB).cell (by exact World.block_lt_of_cell? w _ hcell)).trans hcell
      have c5 := blk_cell (unhide HR) 5
      simp only [room, List.getElem?_toArray, List.getElem?_cons_zero, List.getElem?_cons_succ] at c5
      clear hcell
      go_wp2_with fail
      refine (turn_any (w.heap.size + 1) ch limit turn _ wr hne (unhide HR) (unhide HG)).mono ?_
      rintro e w2 ⟨rfl, hR2, hC2, hN2, hB2⟩
      have d2 := blk_cell hR2 2
      have d3 := blk_cell hR2 3
      have d4 := blk_cell hR2 4
      have d5 := blk_cell hR2 5
      have d6 := blk_cell hR2 6
      simp only [room, List.getElem?_toArray, List.getElem?_cons_zero, List.getElem?_cons_succ] at d2 d3 d4 d5 d6
      have hltc := blk_lt (unhide HG)
      have hltr := blk_lt (unhide HR)
      have hbeq : ((some wr.heap.size : Option Nat) == some ch) = false := by simp; omega
      have HR2 := hide hR2
      have HC2 := hide hC2
      have HN2 := hide hN2
      have HB2 := hide ((unhide HB).trans (hB2 w.heap.size (by omega) hle))
      clear hR2 hC2 hN2 hB2 HR HG HB c5 hcx
      go_upto_region 14 with fail
      refine wp_region_comm_k 1 _ rfl rfl (fun K hK => ?_)
      simp only [List.take, List.drop] at hK ⊢
      go_wp2
      refine comm_recv_shut (ch := ch) (z := .agg #[]) (ok := true) (by simp [go_sem, rcase]) (unhide HC2) ?_
      simp only [got, if_true]
      go_wp2
      go_roundw
      case rel =>
        refine ⟨k + 1, wr.heap.size, zs[k]?.getD 0, by omega, by go_num, by omega, by omega, ?_, ?_, ?_⟩
        · exact hide (blk_new _ (unhide HR2))
        · exact hide (blk_new _ (unhide HN2))
        · exact hide ((unhide HB2).alloc (by have := blk_lt (unhide HR2); omega) _)
      case measure => simp [intOf]; omega
    · go_wp2
      go_ret
      exact ⟨rfl, HB.out⟩

theorem walk (a0 : Int) (a1 : Option Addr) (len1 cap1 : Nat) (z1 : List Int) (w : World) (w0 : (Lit.int .i64 a0).wf = true) (w1 : IsRow .i64 w a1 len1 cap1 z1) :
    Calls Yba.prog 3 #[.int .i64 a0, .slice a1 len1 cap1] w fun e w' => e = .returned (.bool true) ∧ Below w.heap.size w w' := by
  have hm : len1 ≤ 9223372036854775807 := by
    rcases w1 with ⟨_, rfl, _⟩ | ⟨x, _, h1, h2, _⟩
    · omega
    · unfold maxLen at h2; omega
  by_cases hl : len1 ≤ 1024
  · refine walk_in a0 a1 len1 cap1 z1 w hl (fun k hk => ?_)
    rcases w1 with ⟨_, rfl, _⟩ | ⟨x, rfl, h1, h2, h3, h4, h5⟩
    · omega
    · obtain ⟨b, off, rfl, hc⟩ := ints_at h4 (by omega)
      exact ⟨_, rfl, rfl, hc k (by omega)⟩
  · have hl' : 1024 < len1 := by omega
    clear w1
    go_enter Yba.func3, Yba.ntmps3
    go_wp2
    go_ret
    exact ⟨rfl, Below.refl _ _⟩

set_option maxRecDepth 100000 in
theorem lifted (os : Os) (started : os.Started) (H : Type) (enc : TypeId × Value → H) :
    ReturnsInHanded {} Yba.checked os 3 .any (Rows.lawS3847ATurnSpec.pre6 enc Yba.prog Yba.f3 Rows.lawS3847ATurnRow.domain false) (Rows.lawS3847ATurnSpec.post enc Yba.prog Yba.f3 false true false false) := by
  refine returnsInHanded_of_change (C := Yba.checked) own started (by kernel_rfl) Yba.func3
    (ChangeSpec.witness6 (enc := enc) (C := Yba.checked) false ⟨#[], #[.int .i64 0, .slice none 0 0], []⟩ 8 (by kernel_rfl) (by kernel_rfl) (by kernel_rfl) (by kernel_rfl)) ?_
  intro W base args ds gs before hval0 hW hcnd _
  have hval : ∀ (j : Nat) t v, Yba.f3.params[j]? = some t → args[j]? = some v → Value.okWide Yba.prog W .any base t v := hval0
  have hW' := hW
  obtain ⟨p, q, hA0, hV, rfl, hfz, hnd⟩ := hW
  have hA : DataW.TrodAll enc Yba.prog W 0 (fun _ => true) true Yba.f3.params.toList args.toList ds p := hA0
  rw [Yba.params3] at hA hval
  obtain ⟨v0, vs0, d0, ds0, p0, q0, hargs, rfl, rfl, h0, r0⟩ := trodAll_cons hA
  obtain ⟨v1, vs1, d1, ds1, p1, q1, rfl, rfl, rfl, h1, r1⟩ := trodAll_cons r0
  obtain ⟨rfl, rfl, rfl⟩ := trodAll_nil r1
  obtain rfl : args = #[v0, v1] := by cases args; simp_all
  obtain ⟨rfl, rfl⟩ := trodVars_none hV
  obtain ⟨a0, rfl, rfl, rfl, w0⟩ := open_int Yba.underlying2 (hval 0 2 v0 rfl rfl) h0
  obtain ⟨a1, len1, cap1, rfl⟩ := okWide_slice Yba.underlying22 (hval 1 22 v1 rfl rfl)
  have k1 := h1
  have lt1 : ∀ x ∈ p1, x.block < W.heap.size := by obtain ⟨m, hm⟩ := k1; exact DataW.trod_lt m _ _ _ hm
  obtain ⟨z1, w1⟩ : ∃ zs, IsRow .i64 W a1 len1 cap1 zs := by
    obtain ⟨fuel, hf⟩ := h1
    rcases open_ints Yba.underlying22 Yba.underlying3 (by kernel_rfl) hf with ⟨hcs, _⟩ | ⟨x, l, c, zs, hcs, _, hl, hm, hz, _, hcell, hwz⟩
    · simp [Value.cells] at hcs
      obtain ⟨rfl, rfl, rfl⟩ := hcs
      exact ⟨[], .inl ⟨rfl, rfl, rfl, rfl⟩⟩
    · simp [Value.cells] at hcs
      obtain ⟨rfl, rfl, rfl⟩ := hcs
      exact ⟨zs, .inr ⟨_, rfl, hl, hm, by simpa using hz, hcell, hwz⟩⟩
  clear hA0 hval0
  refine (walk a0 a1 len1 cap1 z1 W w0 w1).mono fun e W' ⟨he, bel⟩ => ?_
  subst he
  exact ⟨_, rfl, _, _, _, [], _, [], hW', trodAll_mk1 (shut_bool Yba.underlying4 _), (trodAll_cons_mk (shut_int Yba.underlying2 w0) (trodAll_cons_mk (Below.trod laidOut (by kernel_rfl) (of_decide_eq_true (by kernel_rfl)) k1 bel lt1) trodAll_mk0)), rfl, bel.frame _, fun h => by cases h⟩

theorem over : Rows.lawS3847ATurnRow.holds Yba.pinned (OpenSpec.ofChange Rows.lawS3847ATurnSpec) :=
  OpenClaim.holds_of_wide 3 Yba.f3 rfl rfl rfl rfl rfl rfl rfl ⟨rfl, rfl, rfl, rfl, rfl⟩ rfl rfl rfl rfl rfl (by kernel_rfl) Yba.func3 (by kernel_rfl)
    (of_decide_eq_true (by kernel_rfl)) (by unfold Func.isWrapper; first | (rw [if_pos (by decide +kernel)]; kernel_rfl) | (rw [if_neg (by decide +kernel)]; exact ⟨rfl, rfl⟩))
    (fun os started H enc _ => lifted os started H enc)

theorem proved : Rows.LawS3847ATurnSaid := over
end Go.Proofs.Ybulkcaqm.lawS3847ATurn
