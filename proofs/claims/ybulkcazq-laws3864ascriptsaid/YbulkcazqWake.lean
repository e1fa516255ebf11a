import Derived.Test.YbulkcazqNear
namespace Go.Proofs.Ybulkcazq.Script
set_option linter.unusedVariables false
open Go.ChangeShapes Go.WideShapes Go.ChangeAt Go.RowKit Go.Conc Go.Proofs.Ybulkcazq.Base Go.Proofs.Ybulkcazq.Loud

theorem lc_idle (i : Nat) (o : Option Nat) (S d e : Nat) : (lc i o S d).setIfInBounds 20 (.int .u8 (e : Int)) = lc i o S e := by
  simp [lc, lcR]
theorem lc_next (i : Nat) (o o' : Option Nat) (S d : Nat) : (lc i o S d).setIfInBounds 7 (optr o') = lc i o' S d := by
  simp [lc, lcR]

theorem Pl.wake {ch : Nat → List Nat} {nx : Nat → Option Nat} {d I : Nat → Nat} {q p i : Nat} (h : Pl ch nx d I (q + 1)) (hi : Pr ch i) (hd : d i = p + 1) : Pl ch nx (fset (fset d (I q) (p + 1)) i 0) (fset I p (I q)) q := by
  have hib := h.ib i hi
  have hpq : p < q + 1 := by omega
  have hIp : I p = i := by have := hib.2 (by omega); rw [hd] at this; simpa using this
  refine ⟨by have := h.n8; omega, h.rng, h.nd, h.lk, fun r hr => ?_, fun j hj => ?_⟩
  · by_cases e : r = p
    · subst e
      rw [fset_same]
      have hne : ¬ I q = i := fun e2 => by
        have h1 := (h.ia q (by omega)).2
        rw [e2, hd] at h1
        omega
      rw [fset_other _ _ hne, fset_same]
      exact ⟨(h.ia q (by omega)).1, rfl⟩
    · rw [fset_other _ _ e]
      have h1 := h.ia r (by omega)
      have hne : ¬ I r = i := fun e2 => by rw [e2, hd] at h1; omega
      have hne2 : ¬ I r = I q := fun e2 => by
        have h2 := (h.ia q (by omega)).2
        rw [← e2, h1.2] at h2
        omega
      rw [fset_other _ _ hne, fset_other _ _ hne2]
      exact h1
  · by_cases e : j = i
    · subst e; rw [fset_same]; exact ⟨by omega, fun h => by omega⟩
    · rw [fset_other _ _ e]
      by_cases e2 : j = I q
      · subst e2
        rw [fset_same]
        have h1 := (h.ia q (by omega)).2
        have hpq' : ¬ p = q := fun e3 => by subst e3; exact e hIp
        exact ⟨by omega, fun _ => by simp [fset]⟩
      · rw [fset_other _ _ e2]
        have h1 := h.ib j hj
        have hne : ¬ d j = q + 1 := fun e3 => by
          have h2 := h1.2 (by omega)
          rw [e3] at h2
          exact e2 (by simpa using h2.symm)
        refine ⟨by omega, fun hpos => ?_⟩
        have h2 := h1.2 hpos
        have hnp : ¬ d j - 1 = p := fun e3 => by rw [e3, hIp] at h2; exact e h2.symm
        rw [fset_other _ _ hnp]
        exact h2

theorem Sc.wake {cs : Array Value} {M : Nat} {X I : Nat → Nat} {q p : Nat} (h : Sc cs M X I (q + 1)) (hq : q < 8) (hp : p ≤ q) :
    Sc (((cs.setIfInBounds 12 (.int .i64 (q : Int))).setIfInBounds (4 + p) (ptr (X (I q)))).setIfInBounds (4 + q) (.pointer none)) M X (fset I p (I q)) q := by
  have hs := h.size
  refine ⟨by simp [hs], ?_, ?_, ?_, ?_⟩
  · have h1 := h.m
    rw [Array.getElem?_setIfInBounds_ne (by omega), Array.getElem?_setIfInBounds_ne (by omega), Array.getElem?_setIfInBounds_ne (by omega)]; exact h1
  · intro r hr hr8
    rw [Array.getElem?_setIfInBounds_ne (by omega)]
    by_cases e : r = p
    · subst e
      rw [Array.getElem?_setIfInBounds_self_of_lt (by simp [hs]; omega), fset_same]
    · rw [Array.getElem?_setIfInBounds_ne (by omega), Array.getElem?_setIfInBounds_ne (by omega), fset_other _ _ e]
      exact h.ip r (by omega) hr8
  · intro r hr hr8
    by_cases e : r = q
    · subst e
      rw [Array.getElem?_setIfInBounds_self_of_lt (by simp [hs]; omega)]
    · rw [Array.getElem?_setIfInBounds_ne (by omega), Array.getElem?_setIfInBounds_ne (by omega), Array.getElem?_setIfInBounds_ne (by omega)]
      exact h.no r (by omega) hr8
  · rw [Array.getElem?_setIfInBounds_ne (by omega), Array.getElem?_setIfInBounds_ne (by omega), Array.getElem?_setIfInBounds_self_of_lt (by simp [hs])]

/-- of the blocks that were there those from lo on may have turned -/
abbrev Up (lo : Nat) (w w' : World) : Prop := TouchOnly (fun b => lo ≤ b) w w'
/-- the shard's own blocks -/
def Ts (S M : Nat) (ch : Nat → List Nat) (X : Nat → Nat) (b : Nat) : Prop := b = S ∨ b = M ∨ ∃ j, Pr ch j ∧ b = X j
theorem Wd.upT {w w' : World} {lo S M : Nat} {ch : Nat → List Nat} {X : Nat → Nat} {nx : Nat → Option Nat} {d I : Nat → Nat} {n : Nat} {w0 : World} (h : Wd w lo S M ch X nx d I n) (ht : TouchOnly (Ts S M ch X) w0 w') : Up lo w0 w' :=
  ht.mono (fun b _ hb => by
    rcases hb with rfl | rfl | ⟨j, hj, rfl⟩
    · exact h.los
    · exact h.lom
    · exact h.lox j hj)

theorem Wd.apartS {w : World} {lo S M : Nat} {ch : Nat → List Nat} {X : Nat → Nat} {nx : Nat → Option Nat} {d I : Nat → Nat} {n i : Nat} (h : Wd w lo S M ch X nx d I n) (hi : Pr ch i) : ¬ X i = S := by
  obtain ⟨cs, h1, _⟩ := h.sh
  exact blk_ne (h.st i hi) h1 (by decide)

def WakePost (w : World) (lo S M : Nat) (ch : Nat → List Nat) (X : Nat → Nat) (nx : Nat → Option Nat) (d I : Nat → Nat) (q p i : Nat) (e : Ending) (w' : World) : Prop :=
  e = .returned (.tuple #[]) ∧ Wd w' lo S M ch X nx (fset (fset d (I q) (p + 1)) i 0) (fset I p (I q)) q ∧ TouchOnly (Ts S M ch X) w w'

set_option maxRecDepth 100000 in
set_option maxHeartbeats 1000000 in
theorem wake (w : World) (lo S M : Nat) (ch : Nat → List Nat) (X : Nat → Nat) (nx : Nat → Option Nat) (d I : Nat → Nat) (q p i : Nat) (hw : Wd w lo S M ch X nx d I (q + 1)) (hp : Pl ch nx d I (q + 1)) (hi : Pr ch i) (hd : d i = p + 1) :
    Calls Yba.prog 10 #[ptr S, ptr (X i)] w (WakePost w lo S M ch X nx d I q p i) := by
  obtain ⟨cs, hS, hsc⟩ := hw.sh
  have hn8 := hp.n8
  have hpq : p ≤ q := by have := (hp.ib i hi).1; omega
  have h12 := blk_cell hS 12
  rw [hsc.n] at h12
  have f12 := blk_free hS 12
  have hq0 : (0 : Int) ≤ q := by omega
  have hq8 : (q : Int) < 8 := by omega
  have hm := hp.ia q (by omega)
  have hXi := hw.st i hi
  have hXm := hw.st (I q) hm.1
  rw [hd] at hXi
  rw [hm.2] at hXm
  have HW := hide hw
  have HP := hide hp
  have HS := hide hsc
  have h12' : w.cell? ⟨S, 12, none⟩ = some (.int .i64 ((q : Int) + 1)) := by rw [h12]; simp
  have hiq := hsc.ip q (by omega) (by omega)
  clear h12 hw hp hsc
  go_enter Yba.func10, Yba.ntmps10
  go_upto_region 1 with fail
  have aSi : ¬ X i = S := (unhide HW).apartS hi
  have aSm : ¬ X (I q) = S := (unhide HW).apartS hm.1
  have hS1 := blk_set 12 (.int .i64 (q : Int)) hS
  have hXi1 := blk_oth 12 (.int .i64 (q : Int)) aSi hXi
  have hXm1 := blk_oth 12 (.int .i64 (q : Int)) aSm hXm
  have ht1 : TouchOnly (fun b => b = S ∨ b = X i ∨ b = X (I q)) w _ := (TouchOnly.refl _ w).setCell (p := ⟨S, 12, none⟩) (fun _ => .inl rfl) (.int .i64 (q : Int))
  have c12 := blk_cell hS1 12
  rw [Array.getElem?_setIfInBounds_self_of_lt (by rw [(unhide HS).size]; omega)] at c12
  have ciq := blk_cell hS1 (4 + q)
  rw [Array.getElem?_setIfInBounds_ne (by omega), hiq] at ciq
  have c20 : (w.setCell ⟨S, 12, none⟩ (.int .i64 (q : Int))).cell? ⟨X i, 20, none⟩ = some (.int .u8 ((p : Int) + 1)) := by rw [blk_cell hXi1]; simp [lc, lcR]
  have f4p := blk_free hS1 (4 + p)
  have c4p : ∃ v, (w.setCell ⟨S, 12, none⟩ (.int .i64 (q : Int))).cell? ⟨S, 4 + p, none⟩ = some v := by
    rw [blk_cell hS1, Array.getElem?_setIfInBounds_ne (by omega), (unhide HS).ip p (by omega) (by omega)]; exact ⟨_, rfl⟩
  obtain ⟨v4, c4p⟩ := c4p
  clear h12' f12 hS hXi hXm hiq
  have hp0 : (0 : Int) ≤ p := by omega
  have hp8 : (p : Int) < 8 := by omega
  have hwp : IntKind.u8.wrap (p : Int) = (p : Int) := IntWalk.u8_in _ (by omega)
  revert hS1 hXi1 hXm1 ht1 c12 ciq c20 f4p c4p
  generalize w.setCell ⟨S, 12, none⟩ (.int .i64 (q : Int)) = w1
  intro hS1 hXi1 hXm1 ht1 c12 ciq c20 f4p c4p
  go_quiet (fail)
  go_upto_region 2 with fail
  refine wp_region_loud 10 _ (by kernel_rfl) (by decide) rfl (by kernel_rfl) (by kernel_rfl) (by kernel_rfl) (by kernel_rfl) (fun ops0 => ?_)
  simp only [List.take, List.drop]
  repeat (quiet_step (fail))
  refine wpQuiet_nil ?_
  intro m
  go_wp2_with fail
  intro ops1
  refine wpQuiet_nil ?_
  intro m2
  have hS2 : (((w1.drewN (nq + m)).setCell ⟨S, 4 + p, none⟩ (ptr (X (I q)))).drewN m2).heap[S]? = _ := blk_set (w := w1.drewN (nq + m)) (4 + p) (ptr (X (I q))) hS1
  have hXi2 : (((w1.drewN (nq + m)).setCell ⟨S, 4 + p, none⟩ (ptr (X (I q)))).drewN m2).heap[X i]? = _ := blk_oth (w := w1.drewN (nq + m)) (4 + p) (ptr (X (I q))) aSi hXi1
  have hXm2 : (((w1.drewN (nq + m)).setCell ⟨S, 4 + p, none⟩ (ptr (X (I q)))).drewN m2).heap[X (I q)]? = _ := blk_oth (w := w1.drewN (nq + m)) (4 + p) (ptr (X (I q))) aSm hXm1
  have ht2 := ((ht1.drewN (nq + m)).setCell (p := ⟨S, 4 + p, none⟩) (fun _ => .inl rfl) (ptr (X (I q)))).drewN m2
  clear hS1 hXi1 hXm1 ht1 c12 ciq c20 f4p c4p
  revert hS2 hXi2 hXm2 ht2
  generalize ((w1.drewN (nq + m)).setCell ⟨S, 4 + p, none⟩ (ptr (X (I q)))).drewN m2 = w2
  intro hS2 hXi2 hXm2 ht2
  have c20 : w2.cell? ⟨X i, 20, none⟩ = some (.int .u8 ((p : Int) + 1)) := by rw [blk_cell hXi2]; simp [lc, lcR]
  have c20m : w2.cell? ⟨X (I q), 20, none⟩ = some (.int .u8 ((q : Int) + 1)) := by rw [blk_cell hXm2]; simp [lc, lcR]
  have f20m := blk_free hXm2 20
  go_upto_region 4 with fail
  have hpc : (p : Int) + 1 = ((p + 1 : Nat) : Int) := by omega
  have hS3 := blk_oth 20 (.int .u8 ((p : Int) + 1)) (fun e => aSm e.symm) hS2
  have hXm3 := blk_set 20 (.int .u8 ((p : Int) + 1)) hXm2
  rw [hpc, lc_idle, ← hpc] at hXm3
  have hXi3 : (w2.setCell ⟨X (I q), 20, none⟩ (.int .u8 ((p : Int) + 1))).heap[X i]? = some (.cells (lc i ((nx i).map X) S (p + 1)) 62 (0, 0)) := by
    by_cases e : i = I q
    · rw [← e] at hXm3 ⊢; exact hXm3
    · exact blk_oth 20 _ (fun e2 => e ((unhide HW).inj i (I q) hi hm.1 e2)) hXi2
  have ht3 := ht2.setCell (p := ⟨X (I q), 20, none⟩) (fun _ => .inr (.inr rfl)) (.int .u8 ((p : Int) + 1))
  clear hS2 hXi2 hXm2 ht2 c20 c20m f20m
  revert hS3 hXi3 hXm3 ht3
  generalize w2.setCell ⟨X (I q), 20, none⟩ (.int .u8 ((p : Int) + 1)) = w3
  intro hS3 hXm3 hXi3 ht3
  have hsz := (unhide HS).size
  have c12 : w3.cell? ⟨S, 12, none⟩ = some (.int .i64 (q : Int)) := by
    rw [blk_cell hS3, Array.getElem?_setIfInBounds_ne (by omega), Array.getElem?_setIfInBounds_self_of_lt (by omega)]
  have c4q : ∃ v, w3.cell? ⟨S, 4 + q, none⟩ = some v := by
    rw [blk_cell hS3]
    exact ⟨_, Array.getElem?_eq_getElem (by simp [hsz]; omega)⟩
  obtain ⟨v4q, c4q⟩ := c4q
  have f4q := blk_free hS3 (4 + q)
  clear hpc
  refine wp_region_loud 8 _ (by kernel_rfl) (by decide) rfl (by kernel_rfl) (by kernel_rfl) (by kernel_rfl) (by kernel_rfl) (fun ops0 => ?_)
  simp only [List.take, List.drop]
  repeat (quiet_step (fail))
  refine wpQuiet_nil ?_
  intro m3
  go_wp2_with fail
  intro ops1
  refine wpQuiet_nil ?_
  intro m4
  have hS4 : (((w3.drewN m3).setCell ⟨S, 4 + q, none⟩ (.pointer none)).drewN m4).heap[S]? = _ := blk_set (w := w3.drewN m3) (4 + q) (.pointer none) hS3
  have hXi4 : (((w3.drewN m3).setCell ⟨S, 4 + q, none⟩ (.pointer none)).drewN m4).heap[X i]? = _ := blk_oth (w := w3.drewN m3) (4 + q) (.pointer none) aSi hXi3
  have hXm4 : (((w3.drewN m3).setCell ⟨S, 4 + q, none⟩ (.pointer none)).drewN m4).heap[X (I q)]? = _ := blk_oth (w := w3.drewN m3) (4 + q) (.pointer none) aSm hXm3
  have ht4 := ((ht3.drewN m3).setCell (p := ⟨S, 4 + q, none⟩) (fun _ => .inl rfl) (.pointer none)).drewN m4
  clear hS3 hXi3 hXm3 ht3 c12 c4q f4q hsz
  revert hS4 hXi4 hXm4 ht4
  generalize ((w3.drewN m3).setCell ⟨S, 4 + q, none⟩ (.pointer none)).drewN m4 = w4
  intro hS4 hXi4 hXm4 ht4
  have c20 : w4.cell? ⟨X i, 20, none⟩ = some (.int .u8 ((p : Int) + 1)) := by rw [blk_cell hXi4]; simp [lc, lcR]
  have f20 := blk_free hXi4 20
  go_wp2_with fail
  go_end0
  have hS5 := blk_oth 20 (.int .u8 0) (fun e => aSi e.symm) hS4
  have hXi5 := blk_set 20 (.int .u8 0) hXi4
  rw [show (0 : Int) = ((0 : Nat) : Int) from rfl, lc_idle] at hXi5
  have ht5 := ht4.setCell (p := ⟨X i, 20, none⟩) (fun _ => .inr (.inl rfl)) (.int .u8 0)
  refine ⟨rfl, ⟨fun j hj => ?_, (unhide HW).inj, (unhide HW).lox, ⟨_, hS5, (unhide HS).wake (by omega) hpq⟩, (unhide HW).los, ?_, (unhide HW).lom⟩, ht5.mono (fun b _ hb => ?_)⟩
  · by_cases e : j = i
    · subst e; rw [fset_same]; exact hXi5
    · rw [fset_other _ _ e]
      have hji : ¬ X j = X i := fun e2 => e ((unhide HW).inj j i hj hi e2)
      by_cases e2 : j = I q
      · subst e2; rw [fset_same]; exact blk_oth 20 _ hji hXm4
      · rw [fset_other _ _ e2]
        refine ht5.keep ((unhide HW).st j hj) ?_
        rintro (h1 | h1 | h1)
        · exact (unhide HW).apartS hj h1
        · exact hji h1
        · exact e2 ((unhide HW).inj j (I q) hj hm.1 h1)
  · obtain ⟨es, c, h3, h4⟩ := (unhide HW).mp
    refine ⟨es, c, ht5.keep h3 ?_, h4⟩
    obtain ⟨cs', g1, _⟩ := (unhide HW).sh
    rintro (h1 | h1 | h1)
    · rw [h1, g1] at h3; cases h3
    · rw [h1, (unhide HW).st i hi] at h3; cases h3
    · rw [h1, (unhide HW).st (I q) hm.1] at h3; cases h3
  · rcases hb with rfl | rfl | rfl
    · exact .inl rfl
    · exact .inr (.inr ⟨i, hi, rfl⟩)
    · exact .inr (.inr ⟨_, hm.1, rfl⟩)
end Go.Proofs.Ybulkcazq.Script
