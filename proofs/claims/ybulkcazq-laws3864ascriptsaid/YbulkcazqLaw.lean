import Derived.Test.YbulkcazqLaw0
namespace Go.Proofs.Ybulkcazq.Script
set_option linter.unusedVariables false
open Go.ChangeShapes Go.WideShapes Go.ChangeAt Go.RowKit Go.Conc Go.Proofs.Ybulkcazq.Base Go.Proofs.Ybulkcazq.Loud Go.Proofs.Ybulkcazq.Comm
open Go.ChangeMaps (setBlock)

set_option maxRecDepth 100000 in
set_option maxHeartbeats 4000000 in
theorem law (a : Option Addr) (N cN : Nat) (op kk : Nat → Int) (w : World) (hO : 0 < N → ∃ b o, a = some ⟨b, o, none⟩ ∧ Ops w b o N op kk) (hN : N ≤ 1024) :
    Calls Yba.prog 3 #[.slice a N cN] w fun e w' => e = .returned (.bool true) ∧ Below w.heap.size w w' := by
  have HO := hide hO
  have hN' : ¬ (N : Int) > 1024 := by omega
  clear hO
  have hmm : ∀ w' : World, (Instr.makeMap 24 none).run Yba.prog w' = .ok (.map (some w'.heap.size)) (w'.alloc (.map #[] 0)) := fun w' => rfl
  obtain ⟨Z, hz, hzs, hzn, hzi⟩ := zero41
  have hzs4 : ¬ Z.size < 4 := by omega
  go_enter Yba.func3, Yba.ntmps3
  go_upto_region 4 with fail
  have hI0 := inv0 w Z hzs hzn hzi
  have HI0 := hide hI0
  revert HI0
  generalize (w.alloc (.map #[] 0)).alloc (.cells (Z.setIfInBounds 3 (.map (some w.heap.size))) 41) = w1
  generalize w.heap.size + 1 = S
  intro HI0
  clear hI0 hz hzs hzn hzi hzs4 hmm
  go_wp2_with fail
  go_loopw [24] (fun s24 wr => ∃ (k : Nat) (ch : Nat → List Nat) (X : Nat → Nat) (nx : Nat → Option Nat) (d I : Nat → Nat) (n : Nat), k ≤ N ∧ s24 = .int .i64 (k : Int) ∧ Hid (Inv w wr S w.heap.size ch X nx d I n)) (fun i _ => N - (intOf i).toNat)
  case atStart => exact ⟨0, _, _, _, _, _, _, Nat.zero_le _, rfl, HI0⟩
  case round =>
    obtain ⟨k, ch, X, nx, d, I, n, hkN, rfl, HI⟩ := hrel
    clear HI0
    by_cases hlt : k < N
    · obtain ⟨b, o, rfl, ho⟩ := unhide HO (by omega)
      have hbl : b < w.heap.size := World.block_lt_of_cell? w _ (ho.c0 k hlt)
      have ck0 : wr.cell? ⟨b, o + k * 2, none⟩ = some (.int .u8 (op k)) := by rw [(unhide HI).up.cell (p := ⟨b, o + k * 2, none⟩) hbl]; exact ho.c0 k hlt
      have ck1 : wr.cell? ⟨b, o + k * 2 + 1, none⟩ = some (.int .u8 (kk k)) := by rw [(unhide HI).up.cell (p := ⟨b, o + k * 2 + 1, none⟩) hbl]; exact ho.c1 k hlt
      have hr0 := ho.r0 k hlt
      have hr1 := ho.r1 k hlt
      obtain ⟨i, hi⟩ : ∃ i : Nat, kk k % 12 = (i : Int) := ⟨(kk k % 12).toNat, by omega⟩
      obtain ⟨h, hh⟩ : ∃ h, i % 3 = h := ⟨_, rfl⟩
      have hi12 : i < 12 := by omega
      clear ho
      go_upto_region 7 with fail
      have hA1 := blk_last wr (.cells #[.int .u8 (op k), .int .u8 (kk k)] 43)
      have ht1 : TouchOnly none' wr _ := (TouchOnly.refl _ wr).alloc (.cells #[.int .u8 (op k), .int .u8 (kk k)] 43)
      clear ck0 ck1
      go_upto_region 8 with (go_at_call 4; refine (name4 (kk k) i h _ hr1 hi hh).mono ?_; rintro e w2 ⟨rfl, ht2⟩)
      have ht3 : TouchOnly none' wr (w2.alloc (.cells (rcells i) 48)) := (ht1.trans ht2).alloc _
      have hA3 := blk_new (.cells (rcells i) 48) (ht2.keep hA1 (fun e => e))
      have hB3 := blk_last w2 (.cells (rcells i) 48)
      have hw3 := (unhide HI).wd.keep ht3
      have hb3 := inv_none (unhide HI).up ht3
      have HPL := hide (unhide HI).pl
      clear hA1 ht1 ht2 HI ht3
      revert hA3 hB3 hw3 hb3
      generalize w2.alloc (.cells (rcells i) 48) = w3
      generalize wr.heap.size = A
      generalize w2.heap.size = B
      intro hA3 hB3 hw3 hb3
      have hF := zzfind w3 w.heap.size S w.heap.size i h hh ch X nx d I n hw3 (unhide HPL)
      obtain ⟨b0, b1, b2, b3, b4, b5⟩ := rc_cells hB3
      by_cases hpr : Pr ch i
      · have hfd : found ch X i = ptr (X i) := if_pos hpr
        rw [hfd] at hF
        go_upto_region 9 with (go_at_call 5; refine hF.mono ?_; rintro e w4 ⟨rfl, ht4⟩)
        have hA4 := ht4.keep hA3 (fun e => e)
        have hB4 := ht4.keep hB3 (fun e => e)
        have hw4 := hw3.keep ht4
        have hb4 := inv_none hb3 ht4
        have cA := blk_cell hA4 0
        simp only [List.getElem?_toArray, List.getElem?_cons_zero] at cA
        clear hF b0 b1 b2 b3 b4 b5 hA3 hB3 hw3 hb3 ht4 hfd hA4
        by_cases hodd : op k % 2 = 1
        · skip
          obtain ⟨_, _, _, _, _, _, _, _, _, c20⟩ := st_cells (hw4.st i hpr)
          by_cases hd : d i = 0
          · have c20' : w4.cell? ⟨X i, 20, none⟩ = some (.int .u8 0) := by rw [c20, hd]; rfl
            have hPk := park w4 w.heap.size S w.heap.size ch X nx d I n i hw4 (unhide HPL) hpr hd
            clear c20 hw4 hB4
            go_upto_region 12 with (go_at_call 6; refine hPk.mono ?_; rintro e w5 ⟨ch5, nx5, d5, I5, n5, rfl, hw5, hp5, hu5⟩)
            have hb5 := inv_up hb4 hu5
            have hC := check w5 w.heap.size S w.heap.size ch5 X nx5 d5 I5 n5 hw5 hp5
            have htot : ¬ ((tot ch5 3 : Nat) : Int) < 0 := by omega
            have HJ := hide (And.intro hw5 (And.intro hp5 hb5))
            clear hw5 hp5 hb5 hb4 hu5 c20' hPk HPL cA
            go_wp2_with (go_at_call 7; refine hC.mono ?_; rintro e wz ⟨rfl, htz⟩)
            go_roundw
            case rel => exact ⟨k + 1, ch5, X, nx5, d5, I5, n5, by omega, by go_num, ⟨(unhide HJ).1.keep htz, (unhide HJ).2.1, inv_none (unhide HJ).2.2 htz⟩⟩
            case measure => simp [intOf]; omega
          · have hdi : ¬ ((d i : Nat) : Int) = 0 := by omega
            have hC := check w4 w.heap.size S w.heap.size ch X nx d I n hw4 (unhide HPL)
            have htot : ¬ ((tot ch 3 : Nat) : Int) < 0 := by omega
            have HJ := hide (And.intro hw4 (And.intro (unhide HPL) hb4))
            clear hw4 hb4 hB4 HPL
            go_wp2_with (go_at_call 7; refine hC.mono ?_; rintro e wz ⟨rfl, htz⟩)
            go_roundw
            case rel => exact ⟨k + 1, ch, X, nx, d, I, n, by omega, by go_num, ⟨(unhide HJ).1.keep htz, (unhide HJ).2.1, inv_none (unhide HJ).2.2 htz⟩⟩
            case measure => simp [intOf]; omega
        · skip
          have hC := check w4 w.heap.size S w.heap.size ch X nx d I n hw4 (unhide HPL)
          have htot : ¬ ((tot ch 3 : Nat) : Int) < 0 := by omega
          have htl : ((tot ch 3 : Nat) : Int) ≤ 36 := by have := tot_le (unhide HPL) 3; omega
          have HW4 := hide hw4
          have HB4 := hide hB4
          have HBB := hide hb4
          clear hw4 hb4 hB4
          go_upto_region 17 with (go_at_call 7; refine hC.mono ?_; rintro e w5 ⟨rfl, ht5⟩)
          have hw5 := (unhide HW4).keep ht5
          have hB5 := ht5.keep (unhide HB4) (fun e => e)
          have hb5 := inv_none (unhide HBB) ht5
          obtain ⟨cs5, hS5, hsc5⟩ := hw5.sh
          have c12 := blk_cell hS5 12
          rw [hsc5.n] at c12
          obtain ⟨b0, b1, b2, b3, b4, b5⟩ := rc_cells hB5
          have hn8 := (unhide HPL).n8
          have hSt := state w5 w.heap.size S w.heap.size ch X nx d I n i h hh hi12 hb5.size hw5 (unhide HPL)
          obtain ⟨_, _, _, _, _, _, _, _, _, e20⟩ := st_cells (hw5.st i hpr)
          have c4 : ∃ fv, w5.cell? ⟨S, 4, none⟩ = some (.pointer fv) := by
            rw [blk_cell hS5]
            by_cases hn0 : 0 < n
            · exact ⟨_, hsc5.ip 0 hn0 (by omega)⟩
            · exact ⟨_, hsc5.no 0 (by omega) (by omega)⟩
          obtain ⟨fv, c4⟩ := c4
          have HW5 := hide hw5
          have HB5 := hide hB5
          have HBE := hide hb5
          clear hw5 hB5 hb5 HW4 HB4 HBB hC cA hS5 hsc5 ht5
          by_cases hd : d i = 0
          · have e20' : w5.cell? ⟨X i, 20, none⟩ = some (.int .u8 0) := by rw [e20, hd]; rfl
            clear e20
            go_upto_region 21 with (go_at_call 8; refine hSt.mono ?_; rintro e w6 ⟨ch6, X6, nx6, d6, I6, n6, rfl, hw6, hp6, hpr6, hd6, htold, hu6⟩)
            have hB6 := hu6.keep (unhide HB5) ((unhide HW5).box (unhide HB5) (by decide) (by decide))
            have hb6 := inv_up (unhide HBE) ((unhide HW5).upT hu6)
            have hC6 := check w6 w.heap.size S w.heap.size ch6 X6 nx6 d6 I6 n6 hw6 hp6
            have htot6 : ¬ ((tot ch6 3 : Nat) : Int) < 0 := by omega
            have HT := hide htold
            have HW6 := hide hw6
            have HP6 := hide hp6
            have HB6 := hide hB6
            have HBF := hide hb6
            clear hw6 hp6 hB6 hb6 htold hu6 hSt HW5 HB5 HBE b0 b1 b2 b3 b4 b5
            go_upto_region 24 with (go_at_call 7; refine hC6.mono ?_; rintro e w7 ⟨rfl, ht7⟩)
            have hw7 := (unhide HW6).keep ht7
            have hB7 := ht7.keep (unhide HB6) (fun e => e)
            have hb7 := inv_none (unhide HBF) ht7
            obtain ⟨c0, c1, c2, c3, c4', c5, c6, c7, c8, c20⟩ := st_cells (hw7.st i hpr6)
            obtain ⟨b0, b1, b2, b3, b4, b5⟩ := rc_cells hB7
            rw [hh] at c6
            rw [hd6] at c20
            have c20' : w7.cell? ⟨X6 i, 20, none⟩ = some (.int .u8 0) := c20
            have hq48 := fun w' => neq48_same w' i
            have hq23 := fun w' => neq_ptr23 ⟨S, 0, none⟩ w'
            have hq32 := fun w' => neq32_same ⟨X6 i, 0, none⟩ w'
            have hF7 := fun m => zzfind (w7.drewN m) w.heap.size S w.heap.size i h hh ch6 X6 nx6 d6 I6 n6 (hw7.keep ((TouchOnly.refl _ w7).drewN m)) (unhide HP6)
            have hfd6 : found ch6 X6 i = ptr (X6 i) := if_pos hpr6
            simp only [hfd6] at hF7
            have HW7 := hide hw7
            have HBG := hide hb7
            clear hw7 hB7 hb7 c20 c7 hC6 HW6 HB6 HBF ht7 hfd6
            go_quiet (fail)
            obtain ⟨hX, hte, hn6⟩ : X6 i = X i ∧ tot ch6 3 = tot ch 3 ∧ n6 = n := by
              rcases unhide HT with ⟨_, h2, h3, h4⟩ | ⟨h1, _⟩ | ⟨h1, _⟩
              · exact ⟨h2, h3, by rw [h4, hd]; simp⟩
              · exact absurd hpr h1
              · exact absurd hpr h1
            have hqX : ∀ w', (binOp .neq 32 (ptr (X6 i)) (ptr (X i))).run Yba.prog w' = .ok (.bool false) w' := fun w' => by rw [hX]; exact neq32_same _ w'
            clear hX
            go_upto_region 31 with (go_at_call 5; refine (hF7 _).mono ?_; rintro e w8 ⟨rfl, ht8⟩)
            have hw8 := (unhide HW7).keep (((TouchOnly.refl _ w7).drewN _).trans ht8)
            have hb8 := inv_none (unhide HBG) (((TouchOnly.refl _ w7).drewN _).trans ht8)
            obtain ⟨cs8, hS8, hsc8⟩ := hw8.sh
            have k12 := blk_cell hS8 12
            rw [hsc8.n] at k12
            rw [hn6] at k12
            have HJ := hide (Inv.mk hw8 (unhide HP6) hb8)
            clear hw8 hb8 hS8 hsc8 hn6 hd c12 e20' c4 b0 b1 b2 b3 b4 b5 c0 c1 c2 c3 c4' c5 c6 c8 c20' hq48 hq23
            go_wp2_with fail
            go_roundw
            case rel => exact ⟨k + 1, ch6, X6, nx6, d6, I6, n6, by omega, by go_num, unhide HJ⟩
            case measure => simp [intOf]; omega
          · have hdi : ((d i : Nat) : Int) > 0 := by omega
            have hdn : 0 < d i := by omega
            go_upto_region 21 with (go_at_call 8; refine hSt.mono ?_; rintro e w6 ⟨ch6, X6, nx6, d6, I6, n6, rfl, hw6, hp6, hpr6, hd6, htold, hu6⟩)
            have hB6 := hu6.keep (unhide HB5) ((unhide HW5).box (unhide HB5) (by decide) (by decide))
            have hb6 := inv_up (unhide HBE) ((unhide HW5).upT hu6)
            have hC6 := check w6 w.heap.size S w.heap.size ch6 X6 nx6 d6 I6 n6 hw6 hp6
            have htot6 : ¬ ((tot ch6 3 : Nat) : Int) < 0 := by omega
            have HT := hide htold
            have HW6 := hide hw6
            have HP6 := hide hp6
            have HB6 := hide hB6
            have HBF := hide hb6
            clear hw6 hp6 hB6 hb6 htold hu6 hSt HW5 HB5 HBE b0 b1 b2 b3 b4 b5
            go_upto_region 24 with (go_at_call 7; refine hC6.mono ?_; rintro e w7 ⟨rfl, ht7⟩)
            have hw7 := (unhide HW6).keep ht7
            have hB7 := ht7.keep (unhide HB6) (fun e => e)
            have hb7 := inv_none (unhide HBF) ht7
            obtain ⟨c0, c1, c2, c3, c4', c5, c6, c7, c8, c20⟩ := st_cells (hw7.st i hpr6)
            obtain ⟨b0, b1, b2, b3, b4, b5⟩ := rc_cells hB7
            rw [hh] at c6
            rw [hd6] at c20
            have c20' : w7.cell? ⟨X6 i, 20, none⟩ = some (.int .u8 0) := c20
            have hq48 := fun w' => neq48_same w' i
            have hq23 := fun w' => neq_ptr23 ⟨S, 0, none⟩ w'
            have hq32 := fun w' => neq32_same ⟨X6 i, 0, none⟩ w'
            have hF7 := fun m => zzfind (w7.drewN m) w.heap.size S w.heap.size i h hh ch6 X6 nx6 d6 I6 n6 (hw7.keep ((TouchOnly.refl _ w7).drewN m)) (unhide HP6)
            have hfd6 : found ch6 X6 i = ptr (X6 i) := if_pos hpr6
            simp only [hfd6] at hF7
            have HW7 := hide hw7
            have HBG := hide hb7
            clear hw7 hB7 hb7 c20 c7 hC6 HW6 HB6 HBF ht7 hfd6
            go_quiet (fail)
            obtain ⟨hX, hte, hn6⟩ : X6 i = X i ∧ tot ch6 3 = tot ch 3 ∧ n6 = n - 1 := by
              rcases unhide HT with ⟨_, h2, h3, h4⟩ | ⟨h1, _⟩ | ⟨h1, _⟩
              · exact ⟨h2, h3, by rw [h4, if_pos (by omega)]⟩
              · exact absurd hpr h1
              · exact absurd hpr h1
            have hqX : ∀ w', (binOp .neq 32 (ptr (X6 i)) (ptr (X i))).run Yba.prog w' = .ok (.bool false) w' := fun w' => by rw [hX]; exact neq32_same _ w'
            have hn1 : ((n6 : Nat) : Int) = (n : Int) - 1 := by have := ((unhide HPL).ib i hpr).1; omega
            clear hX
            go_upto_region 31 with (go_at_call 5; refine (hF7 _).mono ?_; rintro e w8 ⟨rfl, ht8⟩)
            have hw8 := (unhide HW7).keep (((TouchOnly.refl _ w7).drewN _).trans ht8)
            have hb8 := inv_none (unhide HBG) (((TouchOnly.refl _ w7).drewN _).trans ht8)
            obtain ⟨cs8, hS8, hsc8⟩ := hw8.sh
            have k12 := blk_cell hS8 12
            rw [hsc8.n] at k12
            rw [hn1] at k12
            have HJ := hide (Inv.mk hw8 (unhide HP6) hb8)
            clear hw8 hb8 hS8 hsc8 hn6 hn1 hd hdi c12 e20 c4 b0 b1 b2 b3 b4 b5 c0 c1 c2 c3 c4' c5 c6 c8 c20' hq48 hq23
            go_wp2_with fail
            go_roundw
            case rel => exact ⟨k + 1, ch6, X6, nx6, d6, I6, n6, by omega, by go_num, unhide HJ⟩
            case measure => simp [intOf]; omega
      · have hfd : found ch X i = .pointer none := if_neg hpr
        rw [hfd] at hF
        go_upto_region 9 with (go_at_call 5; refine hF.mono ?_; rintro e w4 ⟨rfl, ht4⟩)
        have hA4 := ht4.keep hA3 (fun e => e)
        have hB4 := ht4.keep hB3 (fun e => e)
        have hw4 := hw3.keep ht4
        have hb4 := inv_none hb3 ht4
        have cA := blk_cell hA4 0
        simp only [List.getElem?_toArray, List.getElem?_cons_zero] at cA
        clear hF b0 b1 b2 b3 b4 b5 hA3 hB3 hw3 hb3 ht4 hfd hA4
        by_cases hodd : op k % 2 = 1
        · skip
          have hC := check w4 w.heap.size S w.heap.size ch X nx d I n hw4 (unhide HPL)
          have htot : ¬ ((tot ch 3 : Nat) : Int) < 0 := by omega
          have HJ := hide (And.intro hw4 (And.intro (unhide HPL) hb4))
          clear hw4 hb4 hB4 HPL
          go_wp2_with (go_at_call 7; refine hC.mono ?_; rintro e wz ⟨rfl, htz⟩)
          go_roundw
          case rel => exact ⟨k + 1, ch, X, nx, d, I, n, by omega, by go_num, ⟨(unhide HJ).1.keep htz, (unhide HJ).2.1, inv_none (unhide HJ).2.2 htz⟩⟩
          case measure => simp [intOf]; omega
        · by_cases hnn : n = 8
          · subst hnn
            have hC := check w4 w.heap.size S w.heap.size ch X nx d I 8 hw4 (unhide HPL)
            have htot : ¬ ((tot ch 3 : Nat) : Int) < 0 := by omega
            have htl : ((tot ch 3 : Nat) : Int) ≤ 36 := by have := tot_le (unhide HPL) 3; omega
            have HW4 := hide hw4
            have HB4 := hide hB4
            have HBB := hide hb4
            clear hw4 hb4 hB4
            go_upto_region 17 with (go_at_call 7; refine hC.mono ?_; rintro e w5 ⟨rfl, ht5⟩)
            have hw5 := (unhide HW4).keep ht5
            have hB5 := ht5.keep (unhide HB4) (fun e => e)
            have hb5 := inv_none (unhide HBB) ht5
            obtain ⟨cs5, hS5, hsc5⟩ := hw5.sh
            have c12 := blk_cell hS5 12
            rw [hsc5.n] at c12
            obtain ⟨b0, b1, b2, b3, b4, b5⟩ := rc_cells hB5
            have hn8 := (unhide HPL).n8
            have hSt := state w5 w.heap.size S w.heap.size ch X nx d I 8 i h hh hi12 hb5.size hw5 (unhide HPL)
            have c4 : w5.cell? ⟨S, 4, none⟩ = some (ptr (X (I 0))) := by rw [blk_cell hS5]; exact hsc5.ip 0 (by omega) (by omega)
            have HW5 := hide hw5
            have HB5 := hide hB5
            have HBE := hide hb5
            clear hw5 hB5 hb5 HW4 HB4 HBB hC cA hS5 hsc5 ht5
            go_upto_region 21 with (go_at_call 8; refine hSt.mono ?_; rintro e w6 ⟨ch6, X6, nx6, d6, I6, n6, rfl, hw6, hp6, hpr6, hd6, htold, hu6⟩)
            have hB6 := hu6.keep (unhide HB5) ((unhide HW5).box (unhide HB5) (by decide) (by decide))
            have hb6 := inv_up (unhide HBE) ((unhide HW5).upT hu6)
            have hC6 := check w6 w.heap.size S w.heap.size ch6 X6 nx6 d6 I6 n6 hw6 hp6
            have htot6 : ¬ ((tot ch6 3 : Nat) : Int) < 0 := by omega
            have HT := hide htold
            have HW6 := hide hw6
            have HP6 := hide hp6
            have HB6 := hide hB6
            have HBF := hide hb6
            clear hw6 hp6 hB6 hb6 htold hu6 hSt HW5 HB5 HBE b0 b1 b2 b3 b4 b5
            go_upto_region 24 with (go_at_call 7; refine hC6.mono ?_; rintro e w7 ⟨rfl, ht7⟩)
            have hw7 := (unhide HW6).keep ht7
            have hB7 := ht7.keep (unhide HB6) (fun e => e)
            have hb7 := inv_none (unhide HBF) ht7
            obtain ⟨c0, c1, c2, c3, c4', c5, c6, c7, c8, c20⟩ := st_cells (hw7.st i hpr6)
            obtain ⟨b0, b1, b2, b3, b4, b5⟩ := rc_cells hB7
            rw [hh] at c6
            rw [hd6] at c20
            have c20' : w7.cell? ⟨X6 i, 20, none⟩ = some (.int .u8 0) := c20
            have hq48 := fun w' => neq48_same w' i
            have hq23 := fun w' => neq_ptr23 ⟨S, 0, none⟩ w'
            have hq32 := fun w' => neq32_same ⟨X6 i, 0, none⟩ w'
            have hF7 := fun m => zzfind (w7.drewN m) w.heap.size S w.heap.size i h hh ch6 X6 nx6 d6 I6 n6 (hw7.keep ((TouchOnly.refl _ w7).drewN m)) (unhide HP6)
            have hfd6 : found ch6 X6 i = ptr (X6 i) := if_pos hpr6
            simp only [hfd6] at hF7
            have HW7 := hide hw7
            have HBG := hide hb7
            clear hw7 hB7 hb7 c20 c7 hC6 HW6 HB6 HBF ht7 hfd6
            go_quiet (fail)
            obtain ⟨hX, hte, hn6, hhd⟩ : X6 i = X (I 0) ∧ tot ch6 3 = tot ch 3 ∧ n6 = 7 ∧ (ch6 h).head? = some i := by
              rcases unhide HT with ⟨h1, _⟩ | ⟨_, _, h2, h3, h4, h5⟩ | ⟨_, h1, _⟩
              · exact absurd h1 hpr
              · exact ⟨h2, h3, h4, h5⟩
              · omega
            have hqX : ∀ w', (binOp .neq 32 (ptr (X6 i)) (ptr (X (I 0)))).run Yba.prog w' = .ok (.bool false) w' := fun w' => by rw [hX]; exact neq32_same _ w'
            clear hX
            go_upto_region 38 with (go_at_call 5; refine (hF7 _).mono ?_; rintro e w8 ⟨rfl, ht8⟩)
            have hw8 := (unhide HW7).keep (((TouchOnly.refl _ w7).drewN _).trans ht8)
            have hb8 := inv_none (unhide HBG) (((TouchOnly.refl _ w7).drewN _).trans ht8)
            obtain ⟨cs8, hS8, hsc8⟩ := hw8.sh
            have k12 := blk_cell hS8 12
            rw [hsc8.n] at k12
            rw [hn6] at k12
            have k12' : w8.cell? ⟨S, 12, none⟩ = some (.int .i64 7) := k12
            have k3 := blk_cell hS8 3
            rw [hsc8.m] at k3
            obtain ⟨es8, cc8, hM8, hm8⟩ := hw8.mp
            have hlk := (run_look w8 w.heap.size cc8 h es8 _ (by omega) hM8 hm8).1
            simp only [hhd, Option.map_some, optr_some] at hlk
            have HJ := hide (Inv.mk hw8 (unhide HP6) hb8)
            clear hw8 hb8 hS8 hsc8 hn6 k12 hM8 hm8 hhd c12 c4 b0 b1 b2 b3 b4 b5 c0 c1 c2 c3 c4' c5 c6 c8 c20' hq48 hq23
            go_wp2_with fail
            go_roundw
            case rel => exact ⟨k + 1, ch6, X6, nx6, d6, I6, n6, by omega, by go_num, unhide HJ⟩
            case measure => simp [intOf]; omega
          · have hni : ¬ (n : Int) = 8 := by omega
            have hC := check w4 w.heap.size S w.heap.size ch X nx d I n hw4 (unhide HPL)
            have htot : ¬ ((tot ch 3 : Nat) : Int) < 0 := by omega
            have htl : ((tot ch 3 : Nat) : Int) ≤ 36 := by have := tot_le (unhide HPL) 3; omega
            have HW4 := hide hw4
            have HB4 := hide hB4
            have HBB := hide hb4
            clear hw4 hb4 hB4
            go_upto_region 17 with (go_at_call 7; refine hC.mono ?_; rintro e w5 ⟨rfl, ht5⟩)
            have hw5 := (unhide HW4).keep ht5
            have hB5 := ht5.keep (unhide HB4) (fun e => e)
            have hb5 := inv_none (unhide HBB) ht5
            obtain ⟨cs5, hS5, hsc5⟩ := hw5.sh
            have c12 := blk_cell hS5 12
            rw [hsc5.n] at c12
            obtain ⟨b0, b1, b2, b3, b4, b5⟩ := rc_cells hB5
            have hn8 := (unhide HPL).n8
            have hSt := state w5 w.heap.size S w.heap.size ch X nx d I n i h hh hi12 hb5.size hw5 (unhide HPL)
            have c4 : ∃ fv, w5.cell? ⟨S, 4, none⟩ = some (.pointer fv) := by
              rw [blk_cell hS5]
              by_cases hn0 : 0 < n
              · exact ⟨_, hsc5.ip 0 hn0 (by omega)⟩
              · exact ⟨_, hsc5.no 0 (by omega) (by omega)⟩
            obtain ⟨fv, c4⟩ := c4
            have HW5 := hide hw5
            have HB5 := hide hB5
            have HBE := hide hb5
            clear hw5 hB5 hb5 HW4 HB4 HBB hC cA hS5 hsc5 ht5
            go_upto_region 21 with (go_at_call 8; refine hSt.mono ?_; rintro e w6 ⟨ch6, X6, nx6, d6, I6, n6, rfl, hw6, hp6, hpr6, hd6, htold, hu6⟩)
            have hB6 := hu6.keep (unhide HB5) ((unhide HW5).box (unhide HB5) (by decide) (by decide))
            have hb6 := inv_up (unhide HBE) ((unhide HW5).upT hu6)
            have hC6 := check w6 w.heap.size S w.heap.size ch6 X6 nx6 d6 I6 n6 hw6 hp6
            have htot6 : ¬ ((tot ch6 3 : Nat) : Int) < 0 := by omega
            have HT := hide htold
            have HW6 := hide hw6
            have HP6 := hide hp6
            have HB6 := hide hB6
            have HBF := hide hb6
            clear hw6 hp6 hB6 hb6 htold hu6 hSt HW5 HB5 HBE b0 b1 b2 b3 b4 b5
            go_upto_region 24 with (go_at_call 7; refine hC6.mono ?_; rintro e w7 ⟨rfl, ht7⟩)
            have hw7 := (unhide HW6).keep ht7
            have hB7 := ht7.keep (unhide HB6) (fun e => e)
            have hb7 := inv_none (unhide HBF) ht7
            obtain ⟨c0, c1, c2, c3, c4', c5, c6, c7, c8, c20⟩ := st_cells (hw7.st i hpr6)
            obtain ⟨b0, b1, b2, b3, b4, b5⟩ := rc_cells hB7
            rw [hh] at c6
            rw [hd6] at c20
            have c20' : w7.cell? ⟨X6 i, 20, none⟩ = some (.int .u8 0) := c20
            have hq48 := fun w' => neq48_same w' i
            have hq23 := fun w' => neq_ptr23 ⟨S, 0, none⟩ w'
            have hq32 := fun w' => neq32_same ⟨X6 i, 0, none⟩ w'
            have hF7 := fun m => zzfind (w7.drewN m) w.heap.size S w.heap.size i h hh ch6 X6 nx6 d6 I6 n6 (hw7.keep ((TouchOnly.refl _ w7).drewN m)) (unhide HP6)
            have hfd6 : found ch6 X6 i = ptr (X6 i) := if_pos hpr6
            simp only [hfd6] at hF7
            have HW7 := hide hw7
            have HBG := hide hb7
            clear hw7 hB7 hb7 c20 c7 hC6 HW6 HB6 HBF ht7 hfd6
            go_quiet (fail)
            obtain ⟨hte, hn6, hhd⟩ : tot ch6 3 = tot ch 3 + 1 ∧ n6 = n ∧ (ch6 h).head? = some i := by
              rcases unhide HT with ⟨h1, _⟩ | ⟨_, h1, _⟩ | ⟨_, _, h3, h4, h5⟩
              · exact absurd h1 hpr
              · exact absurd h1 hnn
              · exact ⟨h3, h4, h5⟩
            have hti : ((tot ch6 3 : Nat) : Int) = ((tot ch 3 : Nat) : Int) + 1 := by omega
            clear hte
            go_upto_region 28 with (go_at_call 5; refine (hF7 _).mono ?_; rintro e w8 ⟨rfl, ht8⟩)
            have hw8 := (unhide HW7).keep (((TouchOnly.refl _ w7).drewN _).trans ht8)
            have hb8 := inv_none (unhide HBG) (((TouchOnly.refl _ w7).drewN _).trans ht8)
            obtain ⟨cs8, hS8, hsc8⟩ := hw8.sh
            have k12 := blk_cell hS8 12
            rw [hsc8.n] at k12
            rw [hn6] at k12
            have k3 := blk_cell hS8 3
            rw [hsc8.m] at k3
            obtain ⟨es8, cc8, hM8, hm8⟩ := hw8.mp
            have hlk := (run_look w8 w.heap.size cc8 h es8 _ (by omega) hM8 hm8).1
            simp only [hhd, Option.map_some, optr_some] at hlk
            have HJ := hide (Inv.mk hw8 (unhide HP6) hb8)
            clear hw8 hb8 hS8 hsc8 hn6 hM8 hm8 hhd c12 c4 b0 b1 b2 b3 b4 b5 c0 c1 c2 c3 c4' c5 c6 c8 c20' hq48 hq23
            go_wp2_with fail
            go_roundw
            case rel => exact ⟨k + 1, ch6, X6, nx6, d6, I6, n6, by omega, by go_num, unhide HJ⟩
            case measure => simp [intOf]; omega
    · obtain rfl : N = k := by omega
      go_wp2_with fail
      go_ret
      exact ⟨rfl, (unhide HI).up⟩
end Go.Proofs.Ybulkcazq.Script
