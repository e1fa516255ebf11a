import Derived.Test.YbulkcazqAdd
namespace Go.Proofs.Ybulkcazq.Script
set_option linter.unusedVariables false
open Go.ChangeShapes Go.WideShapes Go.ChangeAt Go.RowKit Go.Conc Go.Proofs.Ybulkcazq.Base Go.Proofs.Ybulkcazq.Loud Go.Proofs.Ybulkcazq.Comm
open Go.ChangeMaps (setBlock)

theorem Ts.none {S M : Nat} {ch : Nat → List Nat} {X : Nat → Nat} {w w' : World} (h : TouchOnly none' w w') : TouchOnly (Ts S M ch X) w w' := h.mono (fun _ _ e => e.elim)

set_option maxRecDepth 100000 in
set_option maxHeartbeats 1000000 in
theorem state_old (w : World) (lo S M : Nat) (ch : Nat → List Nat) (X : Nat → Nat) (nx : Nat → Option Nat) (d I : Nat → Nat) (n i h : Nat) (hh : i % 3 = h) (hw : Wd w lo S M ch X nx d I n) (hp : Pl ch nx d I n) (hi : Pr ch i) :
    Calls Yba.prog 8 #[ptr S, res i, .int .u64 (h : Int)] w (StatePost w lo S M ch X d I n i h) := by
  have hF := shfind (w.alloc (.cells (rcells i) 48)) lo S M i h hh ch X nx d I n (hw.keep ((TouchOnly.refl _ w).alloc _)) hp
  have hfd : found ch X i = ptr (X i) := if_pos hi
  rw [hfd] at hF
  have HW := hide hw
  have HP := hide hp
  clear hw hp hfd
  go_enter Yba.func8, Yba.ntmps8
  go_upto_region 4 with (go_at_call 12; refine hF.mono ?_; rintro e w1 ⟨rfl, ht1⟩)
  have ht1' : TouchOnly none' w w1 := ((TouchOnly.refl _ w).alloc _).trans ht1
  have hw1 := (unhide HW).keep ht1'
  obtain ⟨_, _, _, _, _, _, _, _, _, c20⟩ := st_cells (hw1.st i hi)
  by_cases hd : d i = 0
  · rw [hd] at c20
    have c20' : w1.cell? ⟨X i, 20, none⟩ = some (.int .u8 0) := c20
    clear c20 hF
    go_wp2_with fail
    go_ret
    exact ⟨ch, X, nx, d, I, n, rfl, hw1, unhide HP, hi, hd, .inl ⟨hi, rfl, rfl, by rw [hd]; simp⟩, Ts.none ht1'⟩
  · obtain ⟨p, hp⟩ : ∃ p, d i = p + 1 := ⟨d i - 1, by omega⟩
    have hpi : (p : Int) + 1 > 0 := by omega
    rw [hp] at c20
    have c20' : w1.cell? ⟨X i, 20, none⟩ = some (.int .u8 ((p : Int) + 1)) := by rw [c20]; simp
    have hdn := ((unhide HP).ib i hi).1
    obtain ⟨q, rfl⟩ : ∃ q, n = q + 1 := ⟨n - 1, by omega⟩
    have hWk := wake w1 lo S M ch X nx d I q p i hw1 (unhide HP) hi hp
    have HD := hide hp
    clear c20 hF hw1 hp hdn hd
    go_wp2_with (go_at_call 10; refine hWk.mono ?_; rintro e w2 ⟨rfl, hw2, hu2⟩)
    go_ret
    exact ⟨ch, X, nx, _, _, q, rfl, hw2, (unhide HP).wake hi (unhide HD), hi, fset_same _ _ _, .inl ⟨hi, rfl, rfl, by rw [unhide HD]; simp⟩, (Ts.none ht1').trans hu2⟩

theorem lcR_cells {w : World} {b S d : Nat} {k n h : Int} {v : Value} (hb : w.heap[b]? = some (.cells (lcR k n h v S d) 62 (0, 0))) :
    w.cell? ⟨b, 0, none⟩ = some (.int .u8 k) ∧ w.cell? ⟨b, 1, none⟩ = some (.int .u64 n) ∧ w.cell? ⟨b, 2, none⟩ = some (.int .u64 0) ∧ w.cell? ⟨b, 3, none⟩ = some (.int .u64 0) ∧ w.cell? ⟨b, 4, none⟩ = some (.int .u64 0) ∧ w.cell? ⟨b, 5, none⟩ = some (.string noStr) ∧ w.cell? ⟨b, 6, none⟩ = some (.int .u64 h) := by
  refine ⟨?_, ?_, ?_, ?_, ?_, ?_, ?_⟩ <;> (rw [blk_cell hb]; rfl)
theorem lcR_named (k n h k' n' h' : Int) (v : Value) (S d : Nat) : (((((((lcR k n h v S d).setIfInBounds 0 (.int .u8 k')).setIfInBounds 1 (.int .u64 n')).setIfInBounds 2 (.int .u64 0)).setIfInBounds 3 (.int .u64 0)).setIfInBounds 4 (.int .u64 0)).setIfInBounds 5 (.string noStr)).setIfInBounds 6 (.int .u64 h') = lcR k' n' h' v S d := by
  simp [lcR]
theorem lcR_next (k n h : Int) (v v' : Value) (S d : Nat) : (lcR k n h v S d).setIfInBounds 7 v' = lcR k n h v' S d := by
  simp [lcR]

theorem Wd.box {w : World} {lo S M : Nat} {ch : Nat → List Nat} {X : Nat → Nat} {nx : Nat → Option Nat} {d I : Nat → Nat} {n b : Nat} {c : Array Value} {t : TypeId} (hw : Wd w lo S M ch X nx d I n) (hb : w.heap[b]? = some (.cells c t (0, 0))) (h1 : ¬ t = 41) (h2 : ¬ t = 62) : ¬ Ts S M ch X b := by
  obtain ⟨cs, hS, hsc⟩ := hw.sh
  obtain ⟨es, c, hM, hm⟩ := hw.mp
  rintro (e | e | ⟨j, hj, e⟩)
  · exact blk_ne hb hS h1 e
  · rw [e, hM] at hb; cases hb
  · exact blk_ne hb (hw.st j hj) h2 e

set_option maxRecDepth 100000 in
set_option maxHeartbeats 2000000 in
theorem state_new (w : World) (lo S M : Nat) (ch : Nat → List Nat) (X : Nat → Nat) (nx : Nat → Option Nat) (d I : Nat → Nat) (n i h : Nat) (hh : i % 3 = h) (hi12 : i < 12) (hlow : lo ≤ w.heap.size) (hw : Wd w lo S M ch X nx d I n) (hp : Pl ch nx d I n) (hi : ¬ Pr ch i) :
    Calls Yba.prog 8 #[ptr S, res i, .int .u64 (h : Int)] w (StatePost w lo S M ch X d I n i h) := by
  have hF := shfind (w.alloc (.cells (rcells i) 48)) lo S M i h hh ch X nx d I n (hw.keep ((TouchOnly.refl _ w).alloc _)) hp
  have hfd : found ch X i = .pointer none := if_neg hi
  rw [hfd] at hF
  have hh3 : h < 3 := by omega
  have HW := hide hw
  have HP := hide hp
  clear hw hp hfd
  go_enter Yba.func8, Yba.ntmps8
  go_upto_region 7 with (go_at_call 12; refine hF.mono ?_; rintro e w1 ⟨rfl, ht1⟩)
  have ht1' : TouchOnly none' w w1 := ((TouchOnly.refl _ w).alloc _).trans ht1
  have hw1 := (unhide HW).keep ht1'
  have hB1 := ht1.keep (blk_last w (.cells (rcells i) 48)) (fun e => e)
  obtain ⟨cs1, hS1, hsc1⟩ := hw1.sh
  have c12 := blk_cell hS1 12
  rw [hsc1.n] at c12
  have hn8 := (unhide HP).n8
  by_cases hn : n = 8
  · subst hn
    have hg := (unhide HP).ia 0 (by omega)
    have c4 := blk_cell hS1 (4 + 0)
    rw [hsc1.ip 0 (by omega) (by omega)] at c4
    have hWk := wake w1 lo S M ch X nx d I 7 0 (I 0) hw1 (unhide HP) hg.1 hg.2
    clear hS1 hsc1
    go_upto_region 10 with (go_at_call 10; refine hWk.mono ?_; rintro e w2 ⟨rfl, hw2, hu2⟩)
    have hp2 := (unhide HP).wake hg.1 hg.2
    obtain ⟨l1, l2, hch⟩ := mem_split' hg.1
    have hnd := (unhide HP).nd (I 0 % 3)
    have hFg := forget w2 lo S M ch X nx _ _ 7 (I 0 % 3) (I 0) l1 l2 hw2 hp2 hch (fset_same _ _ _)
    have hB2 := hu2.keep hB1 (hw1.box hB1 (by decide) (by decide))
    have HB2 := hide hB2
    have HN2 := hide (hw2.box hB2 (by decide) (by decide))
    have HW1 := hide hw1
    clear hw2 hp2 c4 c12 hWk hB1 hB2 hw1
    go_upto_region 11 with (go_at_call 11; refine hFg.mono ?_; rintro e w3 ⟨nx3, rfl, hwz, hpz, hgone, hu3⟩)
    have hB := hu3.keep (unhide HB2) (unhide HN2)
    have hi0 : ¬ i = I 0 := fun e => hi (by rw [e]; exact hg.1)
    have hpc := pr_cut hch hnd rfl
    have hnoz : ¬ Pr (fset ch (I 0 % 3) (l1 ++ l2)) i := fun e => hi ((hpc i).1 e).1
    have hYa : ∀ j, Pr (fset ch (I 0 % 3) (l1 ++ l2)) j → ¬ X j = X (I 0) := fun j hj e => ((hpc j).1 hj).2 ((unhide HW).inj j (I 0) ((hpc j).1 hj).1 hg.1 e)
    have hYb : w3.heap[X (I 0)]? = some (.cells (lcR 1 (I 0) ((I 0 % 3 : Nat) : Int) (.pointer none) S 0) 62 (0, 0)) := by rw [fset_same] at hgone; exact hgone
    have hYS : ¬ S = X (I 0) := fun e => (unhide HW).apartS hg.1 e.symm
    have hut : TouchOnly (Ts S M ch X) w w3 := ((Ts.none ht1').trans hu2).trans hu3
    have hlen : (l1 ++ l2).length + 1 = (ch (I 0 % 3)).length := by rw [hch]; simp; omega
    have ht1t := tot_fset (ch := ch) (l1 ++ l2) (show I 0 % 3 < 3 by omega)
    have htz := tot_fset (ch := fset ch (I 0 % 3) (l1 ++ l2)) (i :: fset ch (I 0 % 3) (l1 ++ l2) h) hh3
    have hg1 := hg.1
    clear hFg hgone hu2 hu3 hg hnd hch hpc
    obtain ⟨b0, b1, b2, b3, b4, b5⟩ := rc_cells hB
    obtain ⟨cs, hS, hsc⟩ := hwz.sh
    obtain ⟨es, c, hM, hm⟩ := hwz.mp
    have hMY : ¬ M = (X (I 0)) := fun e => by rw [e, hYb] at hM; cases hM
    have hSM : ¬ S = M := fun e => by rw [e, hM] at hS; cases hS
    obtain ⟨ov, hov⟩ := optr_ptr ((((fset ch (I 0 % 3) (l1 ++ l2)) h).head?).map X)
    have HY := hide hYb
    have HM := hide (And.intro hM hm)
    have HS := hide (And.intro hS hsc.m)
    have HWZ := hide hwz
    have HPZ := hide hpz
    have HOV := hide hov
    clear hYb hM hm hS hsc hwz hpz hov hB hF
    go_upto_region 12 with (go_at_call 13; refine (detached i w3).mono ?_; rintro e w5 ⟨rfl, ht5⟩; have hY5 := ht5.keep (unhide HY) (fun e => e); obtain ⟨y0, y1, y2, y3, y4, y5, y6⟩ := lcR_cells hY5; have fY := fun k => blk_free hY5 k)
    have hY6 := blk_set 6 (.int .u64 (h : Int)) (blk_set 5 (.string noStr) (blk_set 4 (.int .u64 0) (blk_set 3 (.int .u64 0) (blk_set 2 (.int .u64 0) (blk_set 1 (.int .u64 (i : Int)) (blk_set 0 (.int .u8 1) hY5))))))
    rw [lcR_named] at hY6
    have ht6 : TouchOnly (fun b => b = (X (I 0)) ∨ b = M) w3 _ := TouchOnly.setCell (TouchOnly.setCell (TouchOnly.setCell (TouchOnly.setCell (TouchOnly.setCell (TouchOnly.setCell (TouchOnly.setCell (ht5.mono (fun _ _ e => e.elim)) (p := ⟨(X (I 0)), 0, none⟩) (fun _ => .inl rfl) (.int .u8 1)) (p := ⟨(X (I 0)), 1, none⟩) (fun _ => .inl rfl) (.int .u64 (i : Int))) (p := ⟨(X (I 0)), 2, none⟩) (fun _ => .inl rfl) (.int .u64 0)) (p := ⟨(X (I 0)), 3, none⟩) (fun _ => .inl rfl) (.int .u64 0)) (p := ⟨(X (I 0)), 4, none⟩) (fun _ => .inl rfl) (.int .u64 0)) (p := ⟨(X (I 0)), 5, none⟩) (fun _ => .inl rfl) (.string noStr)) (p := ⟨(X (I 0)), 6, none⟩) (fun _ => .inl rfl) (.int .u64 (h : Int))
    have hM6 := blk_oth 6 (.int .u64 (h : Int)) hMY (blk_oth 5 (.string noStr) hMY (blk_oth 4 (.int .u64 0) hMY (blk_oth 3 (.int .u64 0) hMY (blk_oth 2 (.int .u64 0) hMY (blk_oth 1 (.int .u64 (i : Int)) hMY (blk_oth 0 (.int .u8 1) hMY (ht5.keep (unhide HM).1 (fun e => e))))))))
    clear hY5 y0 y1 y2 y3 y4 y5 y6 fY b0 b1 b2 b3 b4 b5 ht5
    revert hY6 ht6 hM6
    generalize ((((((w5.setCell ⟨(X (I 0)), 0, none⟩ (.int .u8 1)).setCell ⟨(X (I 0)), 1, none⟩ (.int .u64 (i : Int))).setCell ⟨(X (I 0)), 2, none⟩ (.int .u64 0)).setCell ⟨(X (I 0)), 3, none⟩ (.int .u64 0)).setCell ⟨(X (I 0)), 4, none⟩ (.int .u64 0)).setCell ⟨(X (I 0)), 5, none⟩ (.string noStr)).setCell ⟨(X (I 0)), 6, none⟩ (.int .u64 (h : Int)) = w6
    intro hY6 ht6 hM6
    have hS6 := ht6.keep (unhide HS).1 (by rintro (h1 | h1); exact hYS h1; exact hSM h1)
    have c3 := blk_cell hS6 3
    rw [(unhide HS).2] at c3
    have hlk := (run_look w6 M c h es _ hh3 hM6 (unhide HM).2).1
    rw [unhide HOV] at hlk
    have c7 : w6.cell? ⟨(X (I 0)), 7, none⟩ = some (.pointer none) := by rw [blk_cell hY6]; rfl
    have f7 := blk_free hY6 7
    go_upto_region 13 with fail
    have hY7 := blk_set 7 (.pointer ov) hY6
    rw [lcR_next] at hY7
    have ht7 := ht6.setCell (p := ⟨(X (I 0)), 7, none⟩) (fun _ => .inl rfl) (.pointer ov)
    have hM7 := blk_oth 7 (.pointer ov) hMY hM6
    have hS7 := blk_oth 7 (.pointer ov) hYS hS6
    clear hY6 ht6 hM6 hS6 c3 hlk c7 f7
    revert hY7 ht7 hM7 hS7
    generalize w6.setCell ⟨(X (I 0)), 7, none⟩ (.pointer ov) = w7
    intro hY7 ht7 hM7 hS7
    have c3 := blk_cell hS7 3
    rw [(unhide HS).2] at c3
    obtain ⟨es', c', hup, hm'⟩ := run_upd w7 M c h (X (I 0)) es _ hh3 hM7 (unhide HM).2
    have HM' := hide hm'
    clear hm'
    go_wp2_with fail
    go_ret
    have hY8 := sb_oth (.map es' c') (fun e => hMY e.symm) hY7
    have hM8 := sb_same (.map es' c') hM7
    have ht8 := ht7.setBlock (g := M) (fun _ => .inr rfl) (.map es' c')
    have hlce : lcR 1 i (h : Int) (.pointer ov) S 0 = lc i ((((fset ch (I 0 % 3) (l1 ++ l2)) h).head?).map X) S 0 := by simp only [lc, hh, unhide HOV]
    rw [hlce] at hY8
    have hprz : Pr (fset (fset ch (I 0 % 3) (l1 ++ l2)) h (i :: (fset ch (I 0 % 3) (l1 ++ l2)) h)) i := (pr_add hh i).2 (.inr rfl)
    refine ⟨_, _, _, _, _, _, ?_, (unhide HWZ).add (unhide HPZ) hh hnoz hYa ((unhide HW).lox _ hg1) ht8 hYS hY8 ⟨es', c', hM8, unhide HM'⟩, (unhide HPZ).add hh hi12 hnoz, hprz, fset_same _ _ _, .inr (.inl ⟨hi, rfl, fset_same _ _ _, ?_, rfl, by rw [fset_same]; rfl⟩), hut.trans (ht8.mono ?_)⟩
    · rw [fset_same]; rfl
    · simp only [List.length_cons] at htz; omega
    · rintro b _ (rfl | rfl)
      · exact .inr (.inr ⟨_, hg1, rfl⟩)
      · exact .inr (.inl rfl)
  · have hni : ¬ (n : Int) = 8 := by omega
    clear hS1 hsc1
    go_upto_region 11 with fail
    have hlo1 : lo ≤ w1.heap.size := Nat.le_trans hlow ht1'.size
    have hYb : (w1.alloc (.cells #[.int .u8 0, .int .u64 0, .int .u64 0, .int .u64 0, .int .u64 0, .string { data := #[] }, .int .u64 0, .pointer none, ptr S, .pointer none, .int .u16 0, .bool false, .bool false, .int .u64 0, .int .u64 0, .int .i64 0, .pointer none, .pointer none, .pointer none, .bool false, .int .u8 0] 62)).heap[w1.heap.size]? = some (.cells (lcR 0 0 0 (.pointer none) S 0) 62 (0, 0)) := blk_last w1 _
    have hB := blk_new (.cells #[.int .u8 0, .int .u64 0, .int .u64 0, .int .u64 0, .int .u64 0, .string { data := #[] }, .int .u64 0, .pointer none, ptr S, .pointer none, .int .u16 0, .bool false, .bool false, .int .u64 0, .int .u64 0, .int .i64 0, .pointer none, .pointer none, .pointer none, .bool false, .int .u8 0] 62) hB1
    have hwz := hw1.keep ((TouchOnly.refl _ w1).alloc (.cells #[.int .u8 0, .int .u64 0, .int .u64 0, .int .u64 0, .int .u64 0, .string { data := #[] }, .int .u64 0, .pointer none, ptr S, .pointer none, .int .u16 0, .bool false, .bool false, .int .u64 0, .int .u64 0, .int .i64 0, .pointer none, .pointer none, .pointer none, .bool false, .int .u8 0] 62))
    have hut : TouchOnly none' w (w1.alloc (.cells #[.int .u8 0, .int .u64 0, .int .u64 0, .int .u64 0, .int .u64 0, .string { data := #[] }, .int .u64 0, .pointer none, ptr S, .pointer none, .int .u16 0, .bool false, .bool false, .int .u64 0, .int .u64 0, .int .i64 0, .pointer none, .pointer none, .pointer none, .bool false, .int .u8 0] 62)) := ht1'.alloc _
    have hYa : ∀ j, Pr ch j → ¬ X j = w1.heap.size := fun j hj e => by have := blk_lt (hw1.st j hj); omega
    have hYw : w.heap.size ≤ w1.heap.size := ht1'.size
    have hYS : ¬ S = w1.heap.size := fun e => by obtain ⟨cs, hS, _⟩ := hw1.sh; have := blk_lt hS; omega
    have hpz := unhide HP
    have hnoz := hi
    have htz := tot_fset (ch := ch) (i :: ch h) hh3
    have hn7 : n < 8 := by omega
    clear hB1 hw1 c12 ht1 ht1'
    revert hlo1 hYb hB hwz hut hYa hYw hYS
    generalize w1.alloc (.cells #[.int .u8 0, .int .u64 0, .int .u64 0, .int .u64 0, .int .u64 0, .string { data := #[] }, .int .u64 0, .pointer none, ptr S, .pointer none, .int .u16 0, .bool false, .bool false, .int .u64 0, .int .u64 0, .int .i64 0, .pointer none, .pointer none, .pointer none, .bool false, .int .u8 0] 62) = w3
    generalize w1.heap.size = Yb
    intro hlo1 hYb hB hwz hut hYa hYw hYS
    obtain ⟨b0, b1, b2, b3, b4, b5⟩ := rc_cells hB
    obtain ⟨cs, hS, hsc⟩ := hwz.sh
    obtain ⟨es, c, hM, hm⟩ := hwz.mp
    have hMY : ¬ M = Yb := fun e => by rw [e, hYb] at hM; cases hM
    have hSM : ¬ S = M := fun e => by rw [e, hM] at hS; cases hS
    obtain ⟨ov, hov⟩ := optr_ptr (((ch h).head?).map X)
    have HY := hide hYb
    have HM := hide (And.intro hM hm)
    have HS := hide (And.intro hS hsc.m)
    have HWZ := hide hwz
    have HPZ := hide hpz
    have HOV := hide hov
    clear hYb hM hm hS hsc hwz hpz hov hB hF
    go_upto_region 12 with (go_at_call 13; refine (detached i w3).mono ?_; rintro e w5 ⟨rfl, ht5⟩; have hY5 := ht5.keep (unhide HY) (fun e => e); obtain ⟨y0, y1, y2, y3, y4, y5, y6⟩ := lcR_cells hY5; have fY := fun k => blk_free hY5 k)
    have hY6 := blk_set 6 (.int .u64 (h : Int)) (blk_set 5 (.string noStr) (blk_set 4 (.int .u64 0) (blk_set 3 (.int .u64 0) (blk_set 2 (.int .u64 0) (blk_set 1 (.int .u64 (i : Int)) (blk_set 0 (.int .u8 1) hY5))))))
    rw [lcR_named] at hY6
    have ht6 : TouchOnly (fun b => b = Yb ∨ b = M) w3 _ := TouchOnly.setCell (TouchOnly.setCell (TouchOnly.setCell (TouchOnly.setCell (TouchOnly.setCell (TouchOnly.setCell (TouchOnly.setCell (ht5.mono (fun _ _ e => e.elim)) (p := ⟨Yb, 0, none⟩) (fun _ => .inl rfl) (.int .u8 1)) (p := ⟨Yb, 1, none⟩) (fun _ => .inl rfl) (.int .u64 (i : Int))) (p := ⟨Yb, 2, none⟩) (fun _ => .inl rfl) (.int .u64 0)) (p := ⟨Yb, 3, none⟩) (fun _ => .inl rfl) (.int .u64 0)) (p := ⟨Yb, 4, none⟩) (fun _ => .inl rfl) (.int .u64 0)) (p := ⟨Yb, 5, none⟩) (fun _ => .inl rfl) (.string noStr)) (p := ⟨Yb, 6, none⟩) (fun _ => .inl rfl) (.int .u64 (h : Int))
    have hM6 := blk_oth 6 (.int .u64 (h : Int)) hMY (blk_oth 5 (.string noStr) hMY (blk_oth 4 (.int .u64 0) hMY (blk_oth 3 (.int .u64 0) hMY (blk_oth 2 (.int .u64 0) hMY (blk_oth 1 (.int .u64 (i : Int)) hMY (blk_oth 0 (.int .u8 1) hMY (ht5.keep (unhide HM).1 (fun e => e))))))))
    clear hY5 y0 y1 y2 y3 y4 y5 y6 fY b0 b1 b2 b3 b4 b5 ht5
    revert hY6 ht6 hM6
    generalize ((((((w5.setCell ⟨Yb, 0, none⟩ (.int .u8 1)).setCell ⟨Yb, 1, none⟩ (.int .u64 (i : Int))).setCell ⟨Yb, 2, none⟩ (.int .u64 0)).setCell ⟨Yb, 3, none⟩ (.int .u64 0)).setCell ⟨Yb, 4, none⟩ (.int .u64 0)).setCell ⟨Yb, 5, none⟩ (.string noStr)).setCell ⟨Yb, 6, none⟩ (.int .u64 (h : Int)) = w6
    intro hY6 ht6 hM6
    have hS6 := ht6.keep (unhide HS).1 (by rintro (h1 | h1); exact hYS h1; exact hSM h1)
    have c3 := blk_cell hS6 3
    rw [(unhide HS).2] at c3
    have hlk := (run_look w6 M c h es _ hh3 hM6 (unhide HM).2).1
    rw [unhide HOV] at hlk
    have c7 : w6.cell? ⟨Yb, 7, none⟩ = some (.pointer none) := by rw [blk_cell hY6]; rfl
    have f7 := blk_free hY6 7
    go_upto_region 13 with fail
    have hY7 := blk_set 7 (.pointer ov) hY6
    rw [lcR_next] at hY7
    have ht7 := ht6.setCell (p := ⟨Yb, 7, none⟩) (fun _ => .inl rfl) (.pointer ov)
    have hM7 := blk_oth 7 (.pointer ov) hMY hM6
    have hS7 := blk_oth 7 (.pointer ov) hYS hS6
    clear hY6 ht6 hM6 hS6 c3 hlk c7 f7
    revert hY7 ht7 hM7 hS7
    generalize w6.setCell ⟨Yb, 7, none⟩ (.pointer ov) = w7
    intro hY7 ht7 hM7 hS7
    have c3 := blk_cell hS7 3
    rw [(unhide HS).2] at c3
    obtain ⟨es', c', hup, hm'⟩ := run_upd w7 M c h Yb es _ hh3 hM7 (unhide HM).2
    have HM' := hide hm'
    clear hm'
    go_wp2_with fail
    go_ret
    have hY8 := sb_oth (.map es' c') (fun e => hMY e.symm) hY7
    have hM8 := sb_same (.map es' c') hM7
    have ht8 := ht7.setBlock (g := M) (fun _ => .inr rfl) (.map es' c')
    have hlce : lcR 1 i (h : Int) (.pointer ov) S 0 = lc i (((ch h).head?).map X) S 0 := by simp only [lc, hh, unhide HOV]
    rw [hlce] at hY8
    have hprz : Pr (fset ch h (i :: ch h)) i := (pr_add hh i).2 (.inr rfl)
    refine ⟨_, _, _, _, _, _, ?_, (unhide HWZ).add (unhide HPZ) hh hnoz hYa hlo1 ht8 hYS hY8 ⟨es', c', hM8, unhide HM'⟩, (unhide HPZ).add hh hi12 hnoz, hprz, fset_same _ _ _, .inr (.inr ⟨hi, hn7, ?_, rfl, by rw [fset_same]; rfl⟩), ?_⟩
    · rw [fset_same]; rfl
    · simp only [List.length_cons] at htz; omega
    · have g1 : TouchOnly (fun b => Ts S M ch X b ∨ w.heap.size ≤ b) w w3 := hut.mono (fun _ _ e => e.elim)
      have g2 : TouchOnly (fun b => Ts S M ch X b ∨ w.heap.size ≤ b) w3 _ := ht8.mono (fun b _ x => by
        rcases x with rfl | rfl
        · exact .inr hYw
        · exact .inl (.inr (.inl rfl)))
      exact (g1.trans g2).mono (fun k hk x => x.resolve_right (by omega))

theorem state (w : World) (lo S M : Nat) (ch : Nat → List Nat) (X : Nat → Nat) (nx : Nat → Option Nat) (d I : Nat → Nat) (n i h : Nat) (hh : i % 3 = h) (hi12 : i < 12) (hlow : lo ≤ w.heap.size) (hw : Wd w lo S M ch X nx d I n) (hp : Pl ch nx d I n) :
    Calls Yba.prog 8 #[ptr S, res i, .int .u64 (h : Int)] w (StatePost w lo S M ch X d I n i h) := by
  by_cases hi : Pr ch i
  · exact state_old w lo S M ch X nx d I n i h hh hw hp hi
  · exact state_new w lo S M ch X nx d I n i h hh hi12 hlow hw hp hi
end Go.Proofs.Ybulkcazq.Script
