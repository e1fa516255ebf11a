import Derived.Test.YbulkcangDoorState
import Derived.Deep.QuietTactic
import Derived.BigQuiet
namespace Go.Proofs.YbulkcangDoor.Law
set_option linter.unusedVariables false
open Go.ChangeShapes Go.WideShapes Go.ChangeAt Go.RowKit Go.Conc Go.Proofs.YbulkcangDoor.Base Go.Proofs.YbulkcangDoor.Small Go.Proofs.YbulkcangDoor.Comm Go.Proofs.YbulkcangDoor.Waits Go.Proofs.YbulkcangDoor.Timers Go.Proofs.YbulkcangDoor.Moved

set_option maxRecDepth 100000 in
set_option maxHeartbeats 4000000 in
theorem law_some (b off len cap0 : Nat) (ending : ByteArray) (nt : Int) (xs : Nat → Wx) (w : World) (hlen : len ≤ 512) (hpos : 0 < len) (hin : In w b off len xs)
    (hnt : 0 ≤ nt ∧ nt ≤ 255) (kt : Nat) (hkt : nt % 8 = (kt : Int)) (hkp : 0 < kt) (hse : ending.size ≤ 140737488355328) (hss : ∀ i, i < len → (xs i).subj.size ≤ 140737488355328) (hg0 : w.cell? ⟨0, 0, none⟩ = some (.string idle)) :
    Calls Ybad.prog 3 #[.slice (some ⟨b, off, none⟩) len cap0, .string ending, .int .u8 nt] w fun e w' => e = .returned (.bool true) ∧ Below w.heap.size w w' := by
  obtain ⟨i40, hi40, hz0, hz1, hz2⟩ := info_parts info40
  have hmk := mk42
  have HIN := hide hin
  have HSS := hide hss
  have H0 := hide hg0
  have hblt : b < w.heap.size := World.block_lt_of_cell? w _ (hin.c0 0 hpos)
  clear hin hss hg0
  go_enter Ybad.func3, Ybad.ntmps3
  go_wp2_with (first | (go_at_call 4; refine (newIdle_any _).mono ?_; rintro e w' ⟨rfl, rfl⟩) | (at_make; refine wpList_make_own _ rfl (.const (.int .i64 0)) (.tmp 37) 27 rfl (w.heap.size + 3) 40 i40 (.pointer none) 1 Ybad.underlying27 hi40 hz0 hz1 .i64 .i64 len len rfl rfl rfl (by rw [hz2]; omega) (by unfold maxLen; omega) (by simp) ?_; intro w1 hown1 hgr1))
  have hst : ∃ cd, L1 w w1 len 0 xs (fun _ => 0) (fun _ => 0) (.slice none 0 0) cd := by
    obtain ⟨cd, hd, hdl, _⟩ := own_cells hown1 rfl
    have hsz : ∀ a b c, (((w.alloc a).alloc b).alloc c).heap.size = w.heap.size + 3 := by intro a b c; simp
    have h1 := hgr1.size
    rw [hsz] at hd h1
    have hlt := blk_lt hd
    refine ⟨cd, World.ownsRow_nil _ _ _ _, fun _ => rfl, hd, hdl, fun i hi => absurd hi (Nat.not_lt_zero _), ⟨fun i hi => absurd hi (Nat.not_lt_zero _), fun i hi => absurd hi (Nat.not_lt_zero _), fun i j hi => absurd hi (Nat.not_lt_zero _)⟩, fun i hi => absurd hi (Nat.not_lt_zero _), ?_, ?_, by omega, ?_⟩
    · rw [hgr1.block w.heap.size (by rw [hsz]; omega) (by simp)]
      exact blk_new _ (blk_new _ (blk_last _ _))
    · rw [hgr1.block (w.heap.size + 1) (by rw [hsz]; omega) (by simp)]
      have := blk_last (w.alloc (.cells circ 62)) (.cells (line w.heap.size (.slice none 0 0) (.map none)) 31)
      rw [size_alloc] at this
      exact blk_new _ this
    · exact ((((Below.refl _ _).alloc (Nat.le_refl _) _).alloc (by simp) _).alloc (by simp; omega) _).grown hgr1 (by simp; omega) (by intro k h; cases h)
  obtain ⟨cd0, h10⟩ := hst
  have HS := hide h10
  clear h10 hown1 hgr1
  go_loopw [9, 10, 41] (fun v m i wr => ∃ (k : Nat) (wl cl : Nat → Nat) (cd : List Value), k ≤ len ∧ i = .int .i64 k ∧ m = .slice (some ⟨w.heap.size + 1 + 1 + 1, 0, none⟩) k len ∧ Hid (L1 w wr len k xs wl cl v cd)) (fun _ _ i _ => len - (intOf i).toNat)
  case atStart => exact ⟨0, _, _, cd0, Nat.zero_le _, rfl, rfl, HS⟩
  case round =>
    clear HS
    obtain ⟨k, wl, cl, cd, hk, rfl, rfl, HL⟩ := hrel
    by_cases hlt : k < len
    · have hbel := (unhide HL).to
      have x0 := (hbel.cell (p := ⟨b, off + k * 3, none⟩) hblt).trans ((unhide HIN).c0 k hlt)
      have x1 := (hbel.cell (p := ⟨b, off + k * 3 + 1, none⟩) hblt).trans ((unhide HIN).c1 k hlt)
      have x2 := (hbel.cell (p := ⟨b, off + k * 3 + 2, none⟩) hblt).trans ((unhide HIN).c2 k hlt)
      obtain ⟨x, hx⟩ : ∃ x, x = xs k := ⟨_, rfl⟩
      rw [← hx] at x0 x1 x2
      have HX := hide hx
      clear hx hbel
      obtain ⟨of, want, subj⟩ := x
      simp only at x0 x1 x2
      cases of
      · go_upto_region 10 with fail
        go_region
        all_goals go_upto_region 13 with fail
        have hlo := laidOne_facts wr ⟨false, want, subj⟩ (w.heap.size + 1 + 1)
        have hlo2 := hlo
        simp only [laidOne, wcells, if_false, Bool.false_eq_true] at hlo2
        revert hlo2
        generalize (((wr.alloc (Obj.cells #[.bool false, .int .i64 want, .string subj] 39)).alloc (.chan 1 #[] false 0 0 false)).alloc _).drew = w2
        rintro ⟨ht2, hch2, hwt2⟩
        clear hlo
        have hL := unhide HL
        have hbig := hL.big
        have hwt2' : w2.heap[wr.heap.size + 1 + 1]? = some (.cells (wcells (w.heap.size + 2) (xs k) (wr.heap.size + 1)) 45 (0, 0)) := by rw [← unhide HX]; exact hwt2
        have hown2 : w2.ownsRow (w.heap.size + 4) 40 1 u9 k (ptrs wl k) := own_touch hL.own ht2 (fun _ _ h => h)
        have hD2 : w2.heap[w.heap.size + 1 + 1 + 1]? = some (.cells cd.toArray 40 (0, 0)) := ht2.keep hL.d (fun h => h)
        have hs2 := ht2.size
        have hlt2 : wr.heap.size + 1 + 1 < w2.heap.size := blk_lt hwt2
        have HT2 := hide ht2
        have HC2 := hide hch2
        have HW2 := hide hwt2'
        have HO2 := hide hown2
        have HD2 := hide hD2
        clear hL hwt2' hown2 hD2 ht2 hch2 hwt2 x0 x1 x2
        go_upto_region 14 with (at_builtin; refine wpList_append_own _ rfl (.tmp 58) (.tmp 60) 27 rfl (w.heap.size + 4) 40 i40 (.pointer none) 1 8 Ybad.underlying27 hi40 hz0 hz1 hz2 rfl (by decide) u9 k (ptrs wl k) rfl ((unhide HO2).alloc _) ⟨w2.heap.size, 0, none⟩ 1 1 [ptr (wr.heap.size + 1 + 1)] rfl rfl (by intro j u hj; cases j with | zero => simp at hj; subst hj; simp [Addr.add, ptr] | succ j => simp at hj) (by intro u hu; simp at hu; subst hu; rfl) (by unfold maxLen; omega) (by omega) (by simp; omega) ?_; intro v3 w3 ho3 hg3 hiff)
        have hnn : ¬ v3 = .slice none 0 0 := fun e => by have := hiff.1 e; omega
        have hD3 : w3.heap[w.heap.size + 1 + 1 + 1]? = some (.cells cd.toArray 40 (0, 0)) := by
          have h1 := blk_lt (unhide HD2)
          rw [hg3.block (w.heap.size + 1 + 1 + 1) (by rw [size_alloc]; omega) (fun e => by have := ((unhide HO2).lt _ e.symm).1; omega)]
          exact blk_new _ (unhide HD2)
        have HO3 := hide ho3
        have HG3 := hide hg3
        have HD3 := hide hD3
        have HNN := hide hnn
        clear ho3 hg3 hD3 hnn hiff
        go_wp2_with (at_builtin; refine wpList_append_room1 _ rfl (.tmp 62) (.tmp 64) 27 rfl 40 i40 Ybad.underlying27 hi40 hz1 (w.heap.size + 1 + 1 + 1) k len cd rfl (blk_new _ (unhide HD3)) ⟨w3.heap.size, 0, none⟩ (ptr (wr.heap.size + 1 + 1)) rfl (by simp [Addr.add, ptr]) rfl (by omega) (unhide HL).dlen ?_; intro w4 hd4 ht4)
        have hstep := (unhide HL).step hlt (wr.heap.size + 1) _ _ (unhide HT2) (by omega) (unhide HC2) (unhide HW2) (unhide HO3) (unhide HG3) (unhide HNN) hd4 ht4
        have HS4 := hide hstep
        clear hstep hd4 ht4 HO3 HG3 HD3 HNN HT2 HC2 HW2 HO2 HD2
        go_wp2
        go_roundw
        case rel => exact ⟨k + 1, _, _, _, by omega, by go_num, rfl, HS4⟩
        case measure => simp [intOf]; omega
      · go_upto_region 10 with fail
        go_region
        all_goals go_upto_region 13 with fail
        have hlo := laidOne_facts wr ⟨true, want, subj⟩ (w.heap.size + 1 + 1)
        have hlo2 := hlo
        simp only [laidOne, wcells, if_true] at hlo2
        revert hlo2
        generalize (((wr.alloc (Obj.cells #[.bool true, .int .i64 want, .string subj] 39)).alloc (.chan 1 #[] false 0 0 false)).alloc _).drew = w2
        rintro ⟨ht2, hch2, hwt2⟩
        clear hlo
        have hL := unhide HL
        have hbig := hL.big
        have hwt2' : w2.heap[wr.heap.size + 1 + 1]? = some (.cells (wcells (w.heap.size + 2) (xs k) (wr.heap.size + 1)) 45 (0, 0)) := by rw [← unhide HX]; exact hwt2
        have hown2 : w2.ownsRow (w.heap.size + 4) 40 1 u9 k (ptrs wl k) := own_touch hL.own ht2 (fun _ _ h => h)
        have hD2 : w2.heap[w.heap.size + 1 + 1 + 1]? = some (.cells cd.toArray 40 (0, 0)) := ht2.keep hL.d (fun h => h)
        have hs2 := ht2.size
        have hlt2 : wr.heap.size + 1 + 1 < w2.heap.size := blk_lt hwt2
        have HT2 := hide ht2
        have HC2 := hide hch2
        have HW2 := hide hwt2'
        have HO2 := hide hown2
        have HD2 := hide hD2
        clear hL hwt2' hown2 hD2 ht2 hch2 hwt2 x0 x1 x2
        go_upto_region 14 with (at_builtin; refine wpList_append_own _ rfl (.tmp 58) (.tmp 60) 27 rfl (w.heap.size + 4) 40 i40 (.pointer none) 1 8 Ybad.underlying27 hi40 hz0 hz1 hz2 rfl (by decide) u9 k (ptrs wl k) rfl ((unhide HO2).alloc _) ⟨w2.heap.size, 0, none⟩ 1 1 [ptr (wr.heap.size + 1 + 1)] rfl rfl (by intro j u hj; cases j with | zero => simp at hj; subst hj; simp [Addr.add, ptr] | succ j => simp at hj) (by intro u hu; simp at hu; subst hu; rfl) (by unfold maxLen; omega) (by omega) (by simp; omega) ?_; intro v3 w3 ho3 hg3 hiff)
        have hnn : ¬ v3 = .slice none 0 0 := fun e => by have := hiff.1 e; omega
        have hD3 : w3.heap[w.heap.size + 1 + 1 + 1]? = some (.cells cd.toArray 40 (0, 0)) := by
          have h1 := blk_lt (unhide HD2)
          rw [hg3.block (w.heap.size + 1 + 1 + 1) (by rw [size_alloc]; omega) (fun e => by have := ((unhide HO2).lt _ e.symm).1; omega)]
          exact blk_new _ (unhide HD2)
        have HO3 := hide ho3
        have HG3 := hide hg3
        have HD3 := hide hD3
        have HNN := hide hnn
        clear ho3 hg3 hD3 hnn hiff
        go_wp2_with (at_builtin; refine wpList_append_room1 _ rfl (.tmp 62) (.tmp 64) 27 rfl 40 i40 Ybad.underlying27 hi40 hz1 (w.heap.size + 1 + 1 + 1) k len cd rfl (blk_new _ (unhide HD3)) ⟨w3.heap.size, 0, none⟩ (ptr (wr.heap.size + 1 + 1)) rfl (by simp [Addr.add, ptr]) rfl (by omega) (unhide HL).dlen ?_; intro w4 hd4 ht4)
        have hstep := (unhide HL).step hlt (wr.heap.size + 1) _ _ (unhide HT2) (by omega) (unhide HC2) (unhide HW2) (unhide HO3) (unhide HG3) (unhide HNN) hd4 ht4
        have HS4 := hide hstep
        clear hstep hd4 ht4 HO3 HG3 HD3 HNN HT2 HC2 HW2 HO2 HD2
        go_wp2
        go_roundw
        case rel => exact ⟨k + 1, _, _, _, by omega, by go_num, rfl, HS4⟩
        case measure => simp [intOf]; omega
    · have hke : k = len := by omega
      subst hke
      have hL := unhide HL
      obtain ⟨G, cap, rfl⟩ : ∃ G cap, u9 = .slice (some ⟨G, 0, none⟩) k cap := by
        rcases hL.own.2 with ⟨_, h0⟩ | ⟨g, cap, cu, hv, _⟩
        · omega
        · exact ⟨g, cap, hv⟩
      obtain ⟨cur, hkc, hcm, hSt⟩ := St.of1 hL
      unfold maxLen at hcm
      have l4 := blk_cell hL.l 4
      have lf := blk_free hL.l
      simp only [line, List.getElem?_toArray, List.getElem?_cons_zero, List.getElem?_cons_succ] at l4
      have HSt := hide hSt
      clear hSt hL HL hk hlt
      go_upto_region 17 with fail
      revert HSt
      generalize wr.setCell ⟨w.heap.size + 1, 4, none⟩ (.slice (some ⟨G, 0, none⟩) k cap) = w5
      intro HSt
      clear l4 lf
      have hb5 := (unhide HSt).big
      obtain ⟨i3, hi3, hy0, hy1, hy2⟩ := info_parts info3
      have hk7 : kt ≤ 7 := by omega
      go_upto_region 19 with (at_make; refine wpList_make_full _ rfl (.tmp 74) (.tmp 74) 46 rfl (w.heap.size + 4) 3 i3 (.int .i64 0) 1 Ybad.underlying46 hi3 hy0 hy1 .i64 .i64 kt kt kt rfl rfl rfl rfl (by rw [hy2]; omega) (by unfold maxLen; omega) (by omega) ?_; intro w6 hown6 hgr6)
      have hA6 := own_full hown6
      rw [made3] at hA6
      have ht6 : TouchOnly (fun _ => False) w5 w6 := (TouchOnly.refl _ _).grown hgr6 (by intro k h; cases h)
      have hSt7 : St w (w6.alloc (.cells #[.slice (some ⟨w5.heap.size, 0, none⟩) kt kt] 46)) k G cap cur cd (.map none) xs wl cl := (unhide HSt).keep (ht6.alloc _) (fun b e => e.elim)
      have hA7 : (w6.alloc (.cells #[.slice (some ⟨w5.heap.size, 0, none⟩) kt kt] 46)).heap[w5.heap.size]? = some (.cells ((List.replicate kt (0 : Int)).map (Value.int .i64)).toArray 3 (0, 0)) := blk_new _ hA6
      have hCV7 := blk_last w6 (.cells #[.slice (some ⟨w5.heap.size, 0, none⟩) kt kt] 46)
      have hge6 : w.heap.size + 4 ≤ w6.heap.size := by have := ht6.size; omega
      revert hSt7 hA7 hCV7 hge6
      generalize w6.alloc (.cells #[.slice (some ⟨w5.heap.size, 0, none⟩) kt kt] 46) = w7
      generalize w6.heap.size = CV
      generalize w5.heap.size = A at hb5 ⊢
      intro hSt7 hA7 hCV7 hge6
      clear hown6 hgr6 hA6 ht6 HSt hi3 hy0 hy1 hy2
      have l5 := blk_cell hSt7.l 5
      have lf := blk_free hSt7.l
      simp only [line, List.getElem?_toArray, List.getElem?_cons_zero, List.getElem?_cons_succ] at l5
      have hb7 := hSt7.big
      have hlt7 : w.heap.size + 1 < w7.heap.size := by omega
      have hmm := @run_makeMap Ybad.prog
      have HSt7 := hide hSt7
      have HA7 := hide hA7
      have HCV7 := hide hCV7
      clear hSt7 hA7 hCV7
      go_upto_region 21 with fail
      have hT2 : T2 w ((w7.setCell ⟨w.heap.size + 1, 5, none⟩ (.map (some w7.heap.size))).alloc (.map #[] 0)) k G cap cur cd xs wl cl w7.heap.size CV A kt 0 (fun _ => 0) (fun _ => 0) := by
        have h1 := (unhide HSt7).hang (.map (some w7.heap.size))
        have h2 := blk_last (w7.setCell ⟨w.heap.size + 1, 5, none⟩ (.map (some w7.heap.size))) (.map #[] 0)
        rw [size_setCell] at h2
        have hcv := unhide HCV7
        have ha := unhide HA7
        have hl := (unhide HSt7).l
        exact ⟨h1.keep ((TouchOnly.refl (fun _ => False) _).alloc _) (fun b e => e.elim), h2, ⟨blk_new _ (blk_oth 5 _ (blk_ne hcv hl (by decide)) hcv), fun i hi => absurd hi (Nat.not_lt_zero _), fun i hi => absurd hi (Nat.not_lt_zero _), fun i hi => absurd hi (Nat.not_lt_zero _)⟩,
          blk_new _ (blk_oth 5 _ (blk_ne ha hl (by decide)) ha), hb5, hb7⟩
      have HT2 := hide hT2
      clear hT2
      revert HT2
      generalize (w7.setCell ⟨w.heap.size + 1, 5, none⟩ (.map (some w7.heap.size))).alloc (.map #[] 0) = w8
      generalize w7.heap.size = M at hb7 ⊢
      intro HT2
      clear HSt7 HA7 HCV7 l5 lf hlt7 hmm hb5 hb7 hge6
      go_wp2_with fail
      go_loopw [17] (fun i wr => ∃ (j : Nat) (tl jl : Nat → Nat), j ≤ kt ∧ i = .int .i64 j ∧ Hid (T2 w wr k G cap cur cd xs wl cl M CV A kt j tl jl)) (fun i _ => kt - (intOf i).toNat)
      case atStart => exact ⟨0, _, _, Nat.zero_le _, rfl, HT2⟩
      case round =>
        clear HT2
        obtain ⟨j, tl, jl, hj, rfl, HT⟩ := hrel
        by_cases hjl : j < kt
        · have l5 := blk_cell (unhide HT).st.l 5
          have hbg := (unhide HT).st.big
          have hltL : w.heap.size + 1 < wr.heap.size := by omega
          have hltL0 : w.heap.size < wr.heap.size := by omega
          simp only [line, List.getElem?_toArray, List.getElem?_cons_zero, List.getElem?_cons_succ] at l5
          obtain ⟨w9, hmu, hT9⟩ := (unhide HT).step (by omega)
          simp only [timer] at hmu
          have hcut := fun w => run_cut w j (by omega)
          have HT9 := hide hT9
          clear hT9
          go_upto_region 26 with fail
          go_region
          all_goals go_wp2_with fail
          go_roundw
          case rel => exact ⟨j + 1, _, _, by omega, by go_num, HT9⟩
          case measure => simp [intOf]; omega
        · have hje : j = kt := by omega
          subst hje
          have hT := unhide HT
          have hMo : Calls Ybad.prog 6 #[ptr (w.heap.size + 1), .string ending] wr fun e w' => e = .returned (.tuple #[]) ∧ Fin w w' k G cap cd (.map (some M)) ending xs wl cl 0 ∧ TmD w w' M CV A j tl := by
            have hlL := hT.st.l
            have nG : ¬ A = G := blk_ne hT.a hT.st.g (by decide)
            have nW : ∀ i, i < k → ¬ A = wl i ∧ ¬ A = cl i := fun i hi => ⟨blk_ne hT.a (hT.st.ws.wt i hi) (by decide), chan_ne hT.a (hT.st.ws.c i hi)⟩
            have mG : ∀ b o, wr.heap[b]? = some o → (∀ cs, ¬ o = .cells cs 31 (0, 0)) → (∀ cs, ¬ o = .cells cs 40 (0, 0)) → ¬ o = fresh → ¬ (b = w.heap.size + 1 ∨ mayTouch G k cl b) := by
              intro b o hb h1 h2 h3
              rintro (e | e | ⟨i, hi, e⟩)
              · subst e; rw [hlL] at hb; cases hb; exact h1 _ rfl
              · subst e; rw [hT.st.g] at hb; cases hb; exact h2 _ rfl
              · subst e; have := hT.st.ws.c i hi; rw [this] at hb; cases hb; exact h3 rfl
            have hb0 : (0 : Nat) < w.heap.size := World.block_lt_of_cell? w _ (unhide H0)
            have g0 : wr.cell? ⟨0, 0, none⟩ = some (.string idle) := (hT.st.to.cell (p := ⟨0, 0, none⟩) hb0).trans (unhide H0)
            refine (moved_loop (w.heap.size + 1) w.heap.size G (w.heap.size + 2) k cap (.map (some M)) ending xs wl cl cur wr hlen hkc hcm hT.st.glen hpos hlL hT.st.c hT.st.g hT.st.gget hT.st.ws g0 hse (unhide HSS) ?_
              (fun w2 => w2.heap[A]? = some (.cells ((List.replicate j (1 : Int)).map (Value.int .i64)).toArray 3 (0, 0))) (· = A) ?_).mono ?_
            · rintro (e | ⟨i, hi, e⟩)
              · have := hT.st.hiG; omega
              · have := (hT.st.hi i hi).2; omega
            · intro w1 hm
              exact stop_some (w.heap.size + 1) M CV A j tl jl _ w1 hk7 hm.l rfl (hm.to.keep hT.m (mG _ _ hT.m (by simp) (by simp) (by simp [fresh])))
                (hT.tm.keep hm.to (mG _ _ hT.tm.cv (by simp) (by simp) (by simp [fresh])) (fun i hi => mG _ _ (hT.tm.t i hi) (by simp) (by simp) (by simp [fresh])) (fun i hi => mG _ _ (hT.tm.j i hi) (by simp) (by simp) (by simp [fresh])))
                (hm.to.keep hT.a (mG _ _ hT.a (by simp) (by simp) (by simp [fresh])))
            · rintro e w' ⟨rfl, w1, hm, ha, ht⟩
              refine ⟨rfl, Fin.of hT.st hm ht ?_, ht.keep (hm.to.keep hT.m (mG _ _ hT.m (by simp) (by simp) (by simp [fresh]))) (fun e => map_ne hT.a hT.m e.symm), ht.keep (hm.to.keep hT.tm.cv (mG _ _ hT.tm.cv (by simp) (by simp) (by simp [fresh]))) (blk_ne hT.tm.cv hT.a (by decide)), ha⟩
              intro b e
              subst e
              exact ⟨hT.geA, nG, nW⟩
          have HMo := hide hMo
          clear hMo hT HT
          go_wp2_with fail
          refine (unhide HMo).mono ?_
          rintro e w9 ⟨rfl, hF, hD⟩
          have HF := hide hF
          have HD := hide hD
          have l1 := blk_cell hF.l 1
          have c2 := blk_cell hF.c 2
          simp only [line, circ, ptr, List.getElem?_toArray, List.getElem?_cons_zero, List.getElem?_cons_succ] at l1 c2
          clear hF hD HMo
          go_wp2_with (go_at_call 7; refine (state_any _ _ c2).mono ?_; rintro e w' ⟨rfl, rfl⟩)
          clear l1 c2
          go_loopw [19, 111] (fun n i wr => ∃ t : Nat, t ≤ k ∧ i = .int .i64 t ∧ n = .int .i64 (kp xs t).length ∧ Hid (Fin w wr k G cap cd (.map (some M)) ending xs wl cl t) ∧ Hid (TmD w wr M CV A j tl)) (fun _ i _ => k - (intOf i).toNat)
          case atStart => exact ⟨0, Nat.zero_le _, rfl, rfl, HF, HD⟩
          case round =>
            clear HF HD
            obtain ⟨t, ht, rfl, rfl, HF, HD⟩ := hrel
            have hnt' := kp_le xs t
            by_cases htl : t < k
            · have hbel := (unhide HF).to
              have x0 := (hbel.cell (p := ⟨b, off + t * 3, none⟩) hblt).trans ((unhide HIN).c0 t htl)
              have x1 := (hbel.cell (p := ⟨b, off + t * 3 + 1, none⟩) hblt).trans ((unhide HIN).c1 t htl)
              have x2 := (hbel.cell (p := ⟨b, off + t * 3 + 2, none⟩) hblt).trans ((unhide HIN).c2 t htl)
              obtain ⟨x, hx⟩ : ∃ x, x = xs t := ⟨_, rfl⟩
              rw [← hx] at x0 x1 x2
              have HX := hide hx
              clear hx hbel
              obtain ⟨of, want, subj⟩ := x
              simp only at x0 x1 x2
              go_upto_region 34 with fail
              have hx10 := blk_last wr (.cells #[.bool of, .int .i64 want, .string subj] 39)
              have hF10 := (unhide HF).keep ((TouchOnly.refl (fun _ => False) wr).alloc (.cells #[.bool of, .int .i64 want, .string subj] 39))
              have hD10 := (unhide HD).keep ((TouchOnly.refl (fun _ => False) wr).alloc (.cells #[.bool of, .int .i64 want, .string subj] 39)) (fun e => e) (fun e => e) (fun e => e)
              revert hx10 hF10 hD10
              generalize wr.alloc (.cells #[.bool of, .int .i64 want, .string subj] 39) = w10
              generalize wr.heap.size = xb
              intro hx10 hF10 hD10
              have y0 := blk_cell hx10 0
              have y1 := blk_cell hx10 1
              have y2 := blk_cell hx10 2
              have dt := blk_cell hF10.d t
              rw [List.getElem?_toArray, hF10.dget t htl] at dt
              have l4 := blk_cell hF10.l 4
              have w5 := blk_cell (hF10.ws.wt t htl) 5
              have hct := hF10.ws.c t htl
              simp only [Nat.lt_irrefl, if_false] at hct
              rw [← unhide HX] at hct
              simp only [line, wcells, ptr, List.getElem?_toArray, List.getElem?_cons_zero, List.getElem?_cons_succ] at y0 y1 y2 dt l4 w5
              have hsz : subj.size ≤ 140737488355328 := by have := unhide HSS t htl; rw [← unhide HX] at this; exact this
              have HX10 := hide hx10
              have HF10 := hide hF10
              have HD10 := hide hD10
              clear hx10 hF10 hD10 x0 x1 x2 HF HD
              generalize hwt : wl t = wt at *
              have HWT := hide hwt
              clear hwt
              generalize hck : cl t = ck at *
              have HCK := hide hck
              clear hck
              obtain ⟨j45, hj45⟩ : ∃ j, Ybad.prog.info? 45 = some j := ⟨_, rfl⟩
              have hep := fun (w : World) a => run_neq_ptr_same (P := Ybad.prog) w a Ybad.underlying40 hj45
              cases of
              · have hof : (xs t).of = false := by rw [← unhide HX]
                have hch : w10.heap[ck]? = some (.chan 1 #[reply ending ⟨false, want, subj⟩] false 1 0 false) := by simpa [settled] using hct
                have hlen := fun ty => run_len_chan (P := Ybad.prog) 42 ty Ybad.underlying42 hch
                have hF11 := (unhide HF10).drain htl hof
                rw [unhide HCK, ← unhide HX] at hF11
                have hxc : ¬ xb = ck := chan_ne (unhide HX10) hch
                have hx11 := blk_chan (c := ck) (cap := 1) (buf := #[reply ending ⟨false, want, subj⟩].extract 1 #[reply ending ⟨false, want, subj⟩].size) (cl := false) (s := 1) (r := 0 + 1) (tm := false) hxc (unhide HX10)
                have hD11 : TmD w (w10.setChan ck 1 (#[reply ending ⟨false, want, subj⟩].extract 1 #[reply ending ⟨false, want, subj⟩].size) false 1 (0 + 1) false) M CV A j tl :=
                  (unhide HD10).keep (TouchOnly.setChan (S := (· = ck)) (TouchOnly.refl _ _) (fun _ => rfl) _ _ _ _ _ _) (fun e => by have := (unhide HD10).m; rw [e, hch] at this; cases this) (chan_ne (unhide HD10).cv hch) (chan_ne (unhide HD10).a hch)
                have HF11 := hide hF11
                have HX11 := hide hx11
                have HD11 := hide hD11
                have HCH := hide hch
                clear hF11 hx11 hD11 hch hct
                have hks : (kp xs (t + 1)).length = (kp xs t).length := by rw [kp_no xs t hof]
                have HKS := hide hks
                clear hks hof hep
                go_upto_region 41 with fail
                refine wp_region_comm_k 4 _ rfl rfl (fun K hK => ?_)
                simp only [List.take, List.drop] at hK ⊢
                go_wp2
                refine comm_recv_buf (ch := ck) (z := .agg #[.int .i64 0, .string ⟨#[]⟩]) (ok := false) (by simp [go_sem, rcase]) (unhide HCH) (by simp) ?_
                simp only [got, Bool.false_eq_true, if_false]
                revert HF11 HX11 HD11
                generalize w10.setChan ck 1 (#[reply ending ⟨false, want, subj⟩].extract 1 #[reply ending ⟨false, want, subj⟩].size) false 1 (0 + 1) false = w11
                intro HF11 HX11 HD11
                have hrp : (#[reply ending ⟨false, want, subj⟩].getD 0 undef) = reply ending ⟨false, want, subj⟩ := rfl
                rw [hrp]
                clear hrp y0 y1 y2 dt l4 w5 hlen HX10 HF10 HD10 HCH
                by_cases h0 : want = 0
                · subst h0
                  have hrp : reply ending ⟨false, 0, subj⟩ = .agg #[.int .i64 0, .string (subj ++ ⟨#[32, 105, 100, 108, 101]⟩)] := by
                    have := text_idle subj
                    simp only [reply, if_true, sp]
                    rw [this]
                  rw [hrp]
                  go_upto_region 42 with fail
                  have hF12 := (unhide HF11).keep ((TouchOnly.refl (fun _ => False) w11).alloc (.cells #[.int .i64 0, .string (subj ++ ⟨#[32, 105, 100, 108, 101]⟩)] 56))
                  have hD12 := (unhide HD11).keep ((TouchOnly.refl (fun _ => False) w11).alloc (.cells #[.int .i64 0, .string (subj ++ ⟨#[32, 105, 100, 108, 101]⟩)] 56)) (fun e => e) (fun e => e) (fun e => e)
                  have hx12 := blk_new (.cells #[.int .i64 0, .string (subj ++ ⟨#[32, 105, 100, 108, 101]⟩)] 56) (unhide HX11)
                  have hr12 := blk_last w11 (.cells #[.int .i64 0, .string (subj ++ ⟨#[32, 105, 100, 108, 101]⟩)] 56)
                  revert hF12 hD12 hx12 hr12
                  generalize w11.alloc (.cells #[.int .i64 0, .string (subj ++ ⟨#[32, 105, 100, 108, 101]⟩)] 56) = w12
                  generalize w11.heap.size = rb
                  intro hF12 hD12 hx12 hr12
                  have y1 := blk_cell hx12 1
                  have y2 := blk_cell hx12 2
                  have r0 := blk_cell hr12 0
                  have r1 := blk_cell hr12 1
                  simp only [List.getElem?_toArray, List.getElem?_cons_zero, List.getElem?_cons_succ] at y1 y2 r0 r1
                  have HF12 := hide hF12
                  have HD12 := hide hD12
                  have ha5 := cat5 (P := Ybad.prog) subj hsz
                  clear hF12 hD12 hx12 hr12 HF11 HX11 HD11 hrp
                  go_wp2
                  go_roundw
                  case rel => exact ⟨t + 1, by omega, by go_num, by rw [unhide HKS], HF12, HD12⟩
                  case measure => simp [intOf]; omega
                · have hrp : reply ending ⟨false, want, subj⟩ = .agg #[.int .i64 1, .string (subj ++ ⟨#[32]⟩ ++ ending)] := by
                    simp only [reply, h0, if_false, sp]
                  have hb0 : (want == 0) = false := by simpa using h0
                  rw [hrp]
                  clear h0
                  go_upto_region 42 with fail
                  have hF12 := (unhide HF11).keep ((TouchOnly.refl (fun _ => False) w11).alloc (.cells #[.int .i64 1, .string (subj ++ ⟨#[32]⟩ ++ ending)] 56))
                  have hD12 := (unhide HD11).keep ((TouchOnly.refl (fun _ => False) w11).alloc (.cells #[.int .i64 1, .string (subj ++ ⟨#[32]⟩ ++ ending)] 56)) (fun e => e) (fun e => e) (fun e => e)
                  have hx12 := blk_new (.cells #[.int .i64 1, .string (subj ++ ⟨#[32]⟩ ++ ending)] 56) (unhide HX11)
                  have hr12 := blk_last w11 (.cells #[.int .i64 1, .string (subj ++ ⟨#[32]⟩ ++ ending)] 56)
                  revert hF12 hD12 hx12 hr12
                  generalize w11.alloc (.cells #[.int .i64 1, .string (subj ++ ⟨#[32]⟩ ++ ending)] 56) = w12
                  generalize w11.heap.size = rb
                  intro hF12 hD12 hx12 hr12
                  have y1 := blk_cell hx12 1
                  have y2 := blk_cell hx12 2
                  have r0 := blk_cell hr12 0
                  have r1 := blk_cell hr12 1
                  simp only [List.getElem?_toArray, List.getElem?_cons_zero, List.getElem?_cons_succ] at y1 y2 r0 r1
                  have HF12 := hide hF12
                  have HD12 := hide hD12
                  have ha1 := cat1 (P := Ybad.prog) subj hsz
                  have ha2 := cat2 (P := Ybad.prog) subj ending hsz hse
                  clear hF12 hD12 hx12 hr12 HF11 HX11 HD11 hrp
                  go_wp2
                  go_roundw
                  case rel => exact ⟨t + 1, by omega, by go_num, by rw [unhide HKS], HF12, HD12⟩
                  case measure => simp [intOf]; omega
              · have hof : (xs t).of = true := by rw [← unhide HX]
                obtain ⟨hkn, hkg⟩ := kp_at xs htl hof
                have kg := (unhide HF10).kept _ _ hkg
                rw [unhide HWT] at kg
                simp only [ptr] at kg
                have hlen := fun ty => run_len_chan (P := Ybad.prog) 42 ty Ybad.underlying42 (show w10.heap[ck]? = some (.chan 1 #[] false 0 0 false) from hct)
                have hkk := kp_le xs k
                have HFN := hide ((unhide HF10).next hof)
                have hks : (kp xs (t + 1)).length = (kp xs t).length + 1 := by rw [kp_yes xs t hof]; simp
                have HKS := hide hks
                clear hks hof hkg
                generalize (kp xs k).length = N at *
                generalize (kp xs t).length = n at *
                go_wp2
                go_roundw
                case rel => exact ⟨t + 1, by omega, by go_num, by rw [unhide HKS]; go_num, HFN, HD10⟩
                case measure => simp [intOf]; omega
            · have hte : t = k := by omega
              subst hte
              have l4 := blk_cell (unhide HF).l 4
              have l5 := blk_cell (unhide HF).l 5
              simp only [line, List.getElem?_toArray, List.getElem?_cons_zero, List.getElem?_cons_succ] at l4 l5
              have hgone := fun (q : Nat) (h1 : (kp xs t).length ≤ q) (h2 : q < t) => (unhide HF).gone q h1 h2
              have HGO := hide hgone
              have HBE := hide (unhide HF).to
              clear hgone HF
              generalize (kp xs t).length = N at *
              go_wp2_with fail
              have cv0 := blk_cell (unhide HD).cv 0
              simp only [List.getElem?_toArray, List.getElem?_cons_zero] at cv0
              have hlm := fun ty => run_len_map wr M j (ents j tl) ty (unhide HD).m
              rw [ents_size] at hlm
              go_loop [24] (fun i => ∃ q : Nat, N ≤ q ∧ q ≤ t ∧ i = .int .i64 q) (fun i => t - (intOf i).toNat)
              case atStart => exact ⟨N, Nat.le_refl _, by omega, rfl⟩
              case round =>
                obtain ⟨q, hq1, hq2, rfl⟩ := hrel
                by_cases hql : q < t
                · have hgq := unhide HGO q hq1 hql
                  go_wp2
                  go_round
                  case rel => exact ⟨q + 1, by omega, by omega, by go_num⟩
                  case measure => simp [intOf]; omega
                · go_wp2_with fail
                  go_loopw [25] (fun i wr5 => ∃ q m : Nat, q ≤ j ∧ i = .int .i64 q ∧ wr5 = wr.drewN m) (fun i _ => j - (intOf i).toNat)
                  case atStart => exact ⟨0, 0, Nat.zero_le _, rfl, rfl⟩
                  case round =>
                    obtain ⟨q5, m, hq5, rfl, rfl⟩ := hrel
                    by_cases hql5 : q5 < j
                    · have aq := blk_cell (unhide HD).a q5
                      simp only [List.getElem?_toArray, List.getElem?_map, List.getElem?_replicate, hql5, if_true, Option.map_some] at aq
                      have hcut := fun w => run_cut w q5 (by omega)
                      have hlook := fun n => run_look (wr.drewN n) M j q5 tl (by omega) hql5 (unhide HD).m
                      go_wp2_with fail
                      go_quiet (fail)
                      go_wp2
                      go_roundw
                      case rel => exact ⟨q5 + 1, _, by omega, by go_num, rfl⟩
                      case measure => simp [intOf]; omega
                    · go_wp2
                      go_ret
                      exact ⟨rfl, (unhide HBE).trans ⟨rfl, rfl, rfl, Nat.le_refl _, fun _ _ => rfl⟩⟩
end Go.Proofs.YbulkcangDoor.Law
