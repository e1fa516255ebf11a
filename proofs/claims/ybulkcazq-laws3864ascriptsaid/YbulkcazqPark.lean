import Derived.Test.YbulkcazqForget2
namespace Go.Proofs.Ybulkcazq.Script
set_option linter.unusedVariables false
open Go.ChangeShapes Go.WideShapes Go.ChangeAt Go.RowKit Go.Conc Go.Proofs.Ybulkcazq.Base Go.Proofs.Ybulkcazq.Loud Go.Proofs.Ybulkcazq.Comm
open Go.ChangeMaps (setBlock)

theorem lc_crowd (i : Nat) (o : Option Nat) (S d : Nat) : (lc i o S d).setIfInBounds 17 (.pointer none) = lc i o S d := by
  simp [lc, lcR]

theorem Pl.park {ch : Nat → List Nat} {nx : Nat → Option Nat} {d I : Nat → Nat} {n i : Nat} (h : Pl ch nx d I n) (hn : n < 8) (hi : Pr ch i) (hd : d i = 0) : Pl ch nx (fset d i (n + 1)) (fset I n i) (n + 1) := by
  refine ⟨by omega, h.rng, h.nd, h.lk, fun p hp => ?_, fun j hj => ?_⟩
  · by_cases e : p = n
    · subst e; rw [fset_same, fset_same]; exact ⟨hi, rfl⟩
    · have h1 := h.ia p (by omega)
      rw [fset_other _ _ e]
      have hne : ¬ I p = i := fun e2 => by rw [e2, hd] at h1; omega
      rw [fset_other _ _ hne]
      exact h1
  · by_cases e : j = i
    · subst e; rw [fset_same]; exact ⟨by omega, fun _ => by simp [fset]⟩
    · rw [fset_other _ _ e]
      have h1 := h.ib j hj
      refine ⟨by omega, fun hpos => ?_⟩
      rw [fset_other _ _ (by omega)]
      exact h1.2 hpos

theorem Sc.park {cs : Array Value} {M : Nat} {X I : Nat → Nat} {n i : Nat} (h : Sc cs M X I n) (hn : n < 8) :
    Sc ((cs.setIfInBounds (4 + n) (ptr (X i))).setIfInBounds 12 (.int .i64 ((n + 1 : Nat) : Int))) M X (fset I n i) (n + 1) := by
  have hs := h.size
  refine ⟨by simp [hs], ?_, ?_, ?_, ?_⟩
  · rw [Array.getElem?_setIfInBounds_ne (by omega), Array.getElem?_setIfInBounds_ne (by omega)]; exact h.m
  · intro r hr hr8
    rw [Array.getElem?_setIfInBounds_ne (by omega)]
    by_cases e : r = n
    · subst e
      rw [Array.getElem?_setIfInBounds_self_of_lt (by omega), fset_same]
    · rw [Array.getElem?_setIfInBounds_ne (by omega), fset_other _ _ e]
      exact h.ip r (by omega) hr8
  · intro r hr hr8
    rw [Array.getElem?_setIfInBounds_ne (by omega), Array.getElem?_setIfInBounds_ne (by omega)]
    exact h.no r (by omega) hr8
  · rw [Array.getElem?_setIfInBounds_self_of_lt (by simp [hs])]

theorem Wd.turn {w w' : World} {lo S M : Nat} {ch : Nat → List Nat} {X : Nat → Nat} {nx : Nat → Option Nat} {d I I' : Nat → Nat} {n n' i d' : Nat} {cs : Array Value} (hw : Wd w lo S M ch X nx d I n) (hi : Pr ch i) (ht : TouchOnly (fun b => b = S ∨ b = X i) w w')
    (hS : w'.heap[S]? = some (.cells cs 41 (0, 0))) (hsc : Sc cs M X I' n') (hX : w'.heap[X i]? = some (.cells (lc i ((nx i).map X) S d') 62 (0, 0))) : Wd w' lo S M ch X nx (fset d i d') I' n' := by
  obtain ⟨es, c, hM, hm⟩ := hw.mp
  obtain ⟨cs0, hS0, _⟩ := hw.sh
  refine ⟨fun j hj => ?_, hw.inj, hw.lox, ⟨cs, hS, hsc⟩, hw.los, ⟨es, c, ht.keep hM ?_, hm⟩, hw.lom⟩
  · by_cases e : j = i
    · subst e; rw [fset_same]; exact hX
    · rw [fset_other _ _ e]
      refine ht.keep (hw.st j hj) ?_
      rintro (h1 | h1)
      · exact hw.apartS hj h1
      · exact e (hw.inj j i hj hi h1)
  · rintro (h1 | h1)
    · rw [h1, hS0] at hM; cases hM
    · rw [h1, hw.st i hi] at hM; cases hM

theorem Wd.up {w w' : World} {lo S M : Nat} {ch : Nat → List Nat} {X : Nat → Nat} {nx : Nat → Option Nat} {d I : Nat → Nat} {n i : Nat} (hw : Wd w lo S M ch X nx d I n) (hi : Pr ch i) (ht : TouchOnly (fun b => b = S ∨ b = X i) w w') : Up lo w w' :=
  ht.mono (fun b _ hb => by rcases hb with rfl | rfl; exact hw.los; exact hw.lox i hi)

theorem fset_eta {α : Type} (f : Nat → α) (k : Nat) : fset f k (f k) = f := by
  funext j; by_cases e : j = k
  · subst e; rw [fset_same]
  · rw [fset_other _ _ e]

theorem mem_split' {l : List Nat} {i : Nat} (h : i ∈ l) : ∃ l1 l2, l = l1 ++ i :: l2 := List.append_of_mem h

def ParkPost (w : World) (lo S M : Nat) (X : Nat → Nat) (e : Ending) (w' : World) : Prop :=
  ∃ ch nx d I n, e = .returned (.tuple #[]) ∧ Wd w' lo S M ch X nx d I n ∧ Pl ch nx d I n ∧ Up lo w w'

set_option maxRecDepth 100000 in
set_option maxHeartbeats 1000000 in
theorem park (w : World) (lo S M : Nat) (ch : Nat → List Nat) (X : Nat → Nat) (nx : Nat → Option Nat) (d I : Nat → Nat) (n i : Nat) (hw : Wd w lo S M ch X nx d I n) (hp : Pl ch nx d I n) (hi : Pr ch i) (hd : d i = 0) :
    Calls Yba.prog 6 #[ptr S, ptr (X i)] w (ParkPost w lo S M X) := by
  have hXi := hw.st i hi
  have c17 : w.cell? ⟨X i, 17, none⟩ = some (.pointer none) := by rw [blk_cell hXi]; simp [lc, lcR]
  have f17 := blk_free hXi 17
  have HW := hide hw
  have HP := hide hp
  have HXi := hide hXi
  clear hw hp hXi
  go_enter Yba.func6, Yba.ntmps6
  go_upto_region 1 with fail
  have hX1 := blk_set 17 (.pointer none) (unhide HXi)
  rw [lc_crowd] at hX1
  have ht1 : TouchOnly (fun b => b = S ∨ b = X i) w _ := (TouchOnly.refl _ w).setCell (p := ⟨X i, 17, none⟩) (fun _ => .inr rfl) (.pointer none)
  obtain ⟨cs, hS, hsc⟩ := (unhide HW).sh
  have hS1 := blk_oth 17 (.pointer none) (fun e => (unhide HW).apartS hi e.symm) hS
  have hw1 := (unhide HW).turn hi ht1 hS1 hsc hX1
  rw [fset_eta] at hw1
  have HW1 := hide hw1
  have hu1 := (unhide HW).up hi ht1
  clear c17 f17 HXi hX1 ht1 hS hS1 hsc hw1
  revert HW1 hu1
  generalize w.setCell ⟨X i, 17, none⟩ (.pointer none) = w1
  intro HW1 hu1
  obtain ⟨cs, hS, hsc⟩ := (unhide HW1).sh
  have c12 := blk_cell hS 12
  rw [hsc.n] at c12
  have hn8 := (unhide HP).n8
  by_cases hn : n = 8
  · subst hn
    have hg := (unhide HP).ia 0 (by omega)
    have c4 := blk_cell hS (4 + 0)
    rw [hsc.ip 0 (by omega) (by omega)] at c4
    have hWk := wake w1 lo S M ch X nx d I 7 0 (I 0) (unhide HW1) (unhide HP) hg.1 hg.2
    clear hS hsc
    go_upto_region 4 with (go_at_call 10; refine hWk.mono ?_; rintro e w2 ⟨rfl, hw2, hu2⟩)
    have hp2 := (unhide HP).wake hg.1 hg.2
    obtain ⟨l1, l2, hch⟩ := mem_split' hg.1
    have hnd := (unhide HP).nd (I 0 % 3)
    have hFg := forget w2 lo S M ch X nx _ _ 7 (I 0 % 3) (I 0) l1 l2 hw2 hp2 hch (fset_same _ _ _)
    have HW2 := hide hw2
    clear hw2 hp2 c4 c12 hWk
    go_upto_region 5 with (go_at_call 11; refine hFg.mono ?_; rintro e w3 ⟨nx3, rfl, hwz, hpz, hgone, hu3⟩)
    have hi0 : ¬ i = I 0 := fun e => by rw [← e, hd] at hg; omega
    have hi7 : ¬ i = I 7 := fun e => by have := ((unhide HP).ia 7 (by omega)).2; rw [← e, hd] at this; omega
    have hiz := (pr_cut hch hnd rfl i).2 ⟨hi, hi0⟩
    have hdz : fset (fset d (I 7) (0 + 1)) (I 0) 0 i = 0 := by rw [fset_other _ _ hi0, fset_other _ _ hi7]; exact hd
    have huz : Up lo w w3 := (hu1.trans ((unhide HW1).upT hu2)).trans ((unhide HW2).upT hu3)
    obtain ⟨cs, hS, hsc⟩ := hwz.sh
    obtain ⟨n7, hn7⟩ : ∃ n7, n7 = 7 := ⟨7, rfl⟩
    rw [← hn7] at hwz hpz hsc hdz
    have hnz : n7 < 8 := by omega
    clear hFg hgone hu2 hu3 hg hch hnd hi0 hi7 hn7
    have hsz := hsc.size
    have c12 : w3.cell? ⟨S, 12, none⟩ = some (.int .i64 (n7 : Int)) := by rw [blk_cell hS]; exact hsc.n
    have c4n : ∃ v, w3.cell? ⟨S, 4 + n7, none⟩ = some v := by
      rw [blk_cell hS]
      exact ⟨_, Array.getElem?_eq_getElem (by omega)⟩
    obtain ⟨v4, c4n⟩ := c4n
    have f4n := blk_free hS (4 + n7)
    have hn0 : (0 : Int) ≤ n7 := by omega
    have hn8i : (n7 : Int) < 8 := by omega
    have hwn : IntKind.u8.wrap ((n7 : Int) + 1) = (n7 : Int) + 1 := IntWalk.u8_in _ (by omega)
    refine wp_region_loud 9 _ (by kernel_rfl) (by decide) rfl (by kernel_rfl) (by kernel_rfl) (by kernel_rfl) (by kernel_rfl) (fun ops0 => ?_)
    simp only [List.take, List.drop]
    repeat (quiet_step (fail))
    refine wpQuiet_nil ?_
    intro m
    go_wp2_with fail
    intro ops1
    refine wpQuiet_nil ?_
    intro m2
    have hS2 : (((w3.drewN m).setCell ⟨S, 4 + n7, none⟩ (ptr (X i))).drewN m2).heap[S]? = _ := blk_set (w := w3.drewN m) (4 + n7) (ptr (X i)) hS
    have aSi : ¬ X i = S := hwz.apartS hiz
    have hXi2 : (((w3.drewN m).setCell ⟨S, 4 + n7, none⟩ (ptr (X i))).drewN m2).heap[X i]? = _ := blk_oth (w := w3.drewN m) (4 + n7) (ptr (X i)) aSi (hwz.st i hiz)
    have ht2 : TouchOnly (fun b => b = S ∨ b = X i) w3 (((w3.drewN m).setCell ⟨S, 4 + n7, none⟩ (ptr (X i))).drewN m2) := (((TouchOnly.refl _ w3).drewN m).setCell (p := ⟨S, 4 + n7, none⟩) (fun _ => .inl rfl) (ptr (X i))).drewN m2
    have HWZ := hide hwz
    have HPZ := hide hpz
    have HSC := hide hsc
    clear hwz hpz hsc c12 c4n f4n hS
    revert hS2 hXi2 ht2
    generalize ((w3.drewN m).setCell ⟨S, 4 + n7, none⟩ (ptr (X i))).drewN m2 = w5
    intro hS2 hXi2 ht2
    have c12 : w5.cell? ⟨S, 12, none⟩ = some (.int .i64 (n7 : Int)) := by rw [blk_cell hS2, Array.getElem?_setIfInBounds_ne (by omega)]; exact (unhide HSC).n
    have f12 := blk_free hS2 12
    go_upto_region 7 with fail
    have hnc : (n7 : Int) + 1 = ((n7 + 1 : Nat) : Int) := by omega
    have hS3 := blk_set 12 (.int .i64 ((n7 : Int) + 1)) hS2
    have hXi3 := blk_oth 12 (.int .i64 ((n7 : Int) + 1)) aSi hXi2
    have ht3 := ht2.setCell (p := ⟨S, 12, none⟩) (fun _ => .inl rfl) (.int .i64 ((n7 : Int) + 1))
    clear c12 f12 hS2 hXi2 ht2
    revert hS3 hXi3 ht3
    generalize w5.setCell ⟨S, 12, none⟩ (.int .i64 ((n7 : Int) + 1)) = w6
    intro hS3 hXi3 ht3
    have c12 : w6.cell? ⟨S, 12, none⟩ = some (.int .i64 ((n7 : Int) + 1)) := by rw [blk_cell hS3, Array.getElem?_setIfInBounds_self_of_lt (by simp [hsz])]
    have c20 : ∃ v, w6.cell? ⟨X i, 20, none⟩ = some (.int .u8 v) := by rw [blk_cell hXi3]; exact ⟨_, rfl⟩
    obtain ⟨v20, c20⟩ := c20
    have f20 := blk_free hXi3 20
    have HNC := hide hnc
    clear hnc
    go_wp2_with fail
    go_end0
    have hS4 := blk_oth 20 (.int .u8 ((n7 : Int) + 1)) (fun e => aSi e.symm) hS3
    have hXi4 := blk_set 20 (.int .u8 ((n7 : Int) + 1)) hXi3
    rw [unhide HNC, lc_idle] at hXi4
    have ht4 := ht3.setCell (p := ⟨X i, 20, none⟩) (fun _ => .inr rfl) (.int .u8 ((n7 : Int) + 1))
    rw [unhide HNC] at hS4 ht4
    exact ⟨_, _, _, _, _, by simp, (unhide HWZ).turn hiz ht4 hS4 ((unhide HSC).park (i := i) hnz) hXi4, (unhide HPZ).park hnz hiz hdz, huz.trans ((unhide HWZ).up hiz ht4)⟩
  · have hni : ¬ (n : Int) = 8 := by omega
    have hwz := unhide HW1
    have hpz := unhide HP
    have hiz := hi
    have hdz := hd
    have huz := hu1
    have hnz : n < 8 := by omega
    go_upto_region 5 with fail
    clear c12
    have hsz := hsc.size
    have c12 : w1.cell? ⟨S, 12, none⟩ = some (.int .i64 (n : Int)) := by rw [blk_cell hS]; exact hsc.n
    have c4n : ∃ v, w1.cell? ⟨S, 4 + n, none⟩ = some v := by
      rw [blk_cell hS]
      exact ⟨_, Array.getElem?_eq_getElem (by omega)⟩
    obtain ⟨v4, c4n⟩ := c4n
    have f4n := blk_free hS (4 + n)
    have hn0 : (0 : Int) ≤ n := by omega
    have hn8i : (n : Int) < 8 := by omega
    have hwn : IntKind.u8.wrap ((n : Int) + 1) = (n : Int) + 1 := IntWalk.u8_in _ (by omega)
    refine wp_region_loud 9 _ (by kernel_rfl) (by decide) rfl (by kernel_rfl) (by kernel_rfl) (by kernel_rfl) (by kernel_rfl) (fun ops0 => ?_)
    simp only [List.take, List.drop]
    repeat (quiet_step (fail))
    refine wpQuiet_nil ?_
    intro m
    go_wp2_with fail
    intro ops1
    refine wpQuiet_nil ?_
    intro m2
    have hS2 : (((w1.drewN m).setCell ⟨S, 4 + n, none⟩ (ptr (X i))).drewN m2).heap[S]? = _ := blk_set (w := w1.drewN m) (4 + n) (ptr (X i)) hS
    have aSi : ¬ X i = S := hwz.apartS hiz
    have hXi2 : (((w1.drewN m).setCell ⟨S, 4 + n, none⟩ (ptr (X i))).drewN m2).heap[X i]? = _ := blk_oth (w := w1.drewN m) (4 + n) (ptr (X i)) aSi (hwz.st i hiz)
    have ht2 : TouchOnly (fun b => b = S ∨ b = X i) w1 (((w1.drewN m).setCell ⟨S, 4 + n, none⟩ (ptr (X i))).drewN m2) := (((TouchOnly.refl _ w1).drewN m).setCell (p := ⟨S, 4 + n, none⟩) (fun _ => .inl rfl) (ptr (X i))).drewN m2
    have HWZ := hide hwz
    have HPZ := hide hpz
    have HSC := hide hsc
    clear hwz hpz hsc c12 c4n f4n hS
    revert hS2 hXi2 ht2
    generalize ((w1.drewN m).setCell ⟨S, 4 + n, none⟩ (ptr (X i))).drewN m2 = w5
    intro hS2 hXi2 ht2
    have c12 : w5.cell? ⟨S, 12, none⟩ = some (.int .i64 (n : Int)) := by rw [blk_cell hS2, Array.getElem?_setIfInBounds_ne (by omega)]; exact (unhide HSC).n
    have f12 := blk_free hS2 12
    go_upto_region 7 with fail
    have hnc : (n : Int) + 1 = ((n + 1 : Nat) : Int) := by omega
    have hS3 := blk_set 12 (.int .i64 ((n : Int) + 1)) hS2
    have hXi3 := blk_oth 12 (.int .i64 ((n : Int) + 1)) aSi hXi2
    have ht3 := ht2.setCell (p := ⟨S, 12, none⟩) (fun _ => .inl rfl) (.int .i64 ((n : Int) + 1))
    clear c12 f12 hS2 hXi2 ht2
    revert hS3 hXi3 ht3
    generalize w5.setCell ⟨S, 12, none⟩ (.int .i64 ((n : Int) + 1)) = w6
    intro hS3 hXi3 ht3
    have c12 : w6.cell? ⟨S, 12, none⟩ = some (.int .i64 ((n : Int) + 1)) := by rw [blk_cell hS3, Array.getElem?_setIfInBounds_self_of_lt (by simp [hsz])]
    have c20 : ∃ v, w6.cell? ⟨X i, 20, none⟩ = some (.int .u8 v) := by rw [blk_cell hXi3]; exact ⟨_, rfl⟩
    obtain ⟨v20, c20⟩ := c20
    have f20 := blk_free hXi3 20
    have HNC := hide hnc
    clear hnc
    go_wp2_with fail
    go_end0
    have hS4 := blk_oth 20 (.int .u8 ((n : Int) + 1)) (fun e => aSi e.symm) hS3
    have hXi4 := blk_set 20 (.int .u8 ((n : Int) + 1)) hXi3
    rw [unhide HNC, lc_idle] at hXi4
    have ht4 := ht3.setCell (p := ⟨X i, 20, none⟩) (fun _ => .inr rfl) (.int .u8 ((n : Int) + 1))
    rw [unhide HNC] at hS4 ht4
    exact ⟨_, _, _, _, _, by simp, (unhide HWZ).turn hiz ht4 hS4 ((unhide HSC).park (i := i) hnz) hXi4, (unhide HPZ).park hnz hiz hdz, huz.trans ((unhide HWZ).up hiz ht4)⟩
end Go.Proofs.Ybulkcazq.Script
