import Derived.Test.YbulkcangDoorLaw0
namespace Go.Proofs.YbulkcangDoor.Law
set_option linter.unusedVariables false
open Go.ChangeShapes Go.WideShapes Go.ChangeAt Go.RowKit Go.Conc Go.Proofs.YbulkcangDoor.Base Go.Proofs.YbulkcangDoor.Small Go.Proofs.YbulkcangDoor.Comm Go.Proofs.YbulkcangDoor.Waits Go.Proofs.YbulkcangDoor.Timers Go.Proofs.YbulkcangDoor.Moved

/-- no waiter at all -/
structure S0 (w wr : World) (tm : Value) : Prop where
  c : wr.heap[w.heap.size]? = some (.cells circ 62 (0, 0))
  l : wr.heap[w.heap.size + 1]? = some (.cells (line w.heap.size (.slice none 0 0) tm) 31 (0, 0))
  big : w.heap.size + 4 ≤ wr.heap.size
  to : Below w.heap.size w wr

theorem S0.keep {w wr w' : World} {S : Nat → Prop} {tm : Value} (h : S0 w wr tm) (ht : TouchOnly S wr w') (hs : ∀ b, S b → w.heap.size + 4 ≤ b) : S0 w w' tm := by
  have hbig := h.big
  exact ⟨ht.keep h.c (fun e => by have := hs _ e; omega), ht.keep h.l (fun e => by have := hs _ e; omega), by have := ht.size; omega, h.to.trans (ht.below (by omega) (fun b hb e => by have := hs _ e; omega))⟩

theorem S0.set {w wr : World} {tm : Value} (h : S0 w wr tm) (i : Nat) (v tm' : Value) (hl : (line w.heap.size (.slice none 0 0) tm).setIfInBounds i v = line w.heap.size (.slice none 0 0) tm') : S0 w (wr.setCell ⟨w.heap.size + 1, i, none⟩ v) tm' := by
  have hbig := h.big
  have t : TouchOnly (· = w.heap.size + 1) wr (wr.setCell ⟨w.heap.size + 1, i, none⟩ v) := (TouchOnly.refl (· = w.heap.size + 1) wr).setCell (p := ⟨w.heap.size + 1, i, none⟩) (fun _ => rfl) _
  refine ⟨t.keep h.c (by omega), ?_, by have := t.size; omega, h.to.trans (t.below (by omega) (fun b hb e => by omega))⟩
  rw [← hl]
  exact blk_set i v h.l

structure T0 (w wr : World) (M CV A kt j : Nat) (tl jl : Nat → Nat) : Prop where
  st : S0 w wr (.map (some M))
  m : wr.heap[M]? = some (.map (ents j tl) j)
  tm : Tm wr j kt CV A tl jl
  a : wr.heap[A]? = some (.cells ((List.replicate kt (0 : Int)).map (Value.int .i64)).toArray 3 (0, 0))
  geA : w.heap.size + 4 ≤ A
  geM : w.heap.size + 4 ≤ M

/-- one timer more -/
theorem T0.step {w wr : World} {M CV A kt j : Nat} {tl jl : Nat → Nat} (h : T0 w wr M CV A kt j tl jl) (hj : j < 8) :
    ∃ w', (Instr.mapUpdate 28 (.map (some M)) (.string (nm j)) (.pointer (some ⟨wr.heap.size + 1, 0, none⟩))).run Ybad.prog ((wr.alloc (.cells #[.int .i64 j] 3)).alloc (.cells (timer CV wr.heap.size) 51)).drew = .ok () w' ∧
      T0 w w' M CV A kt (j + 1) (fun i => if i = j then wr.heap.size + 1 else tl i) (fun i => if i = j then wr.heap.size else jl i) := by
  have hbig := h.st.big
  have hM : ((wr.alloc (.cells #[.int .i64 j] 3)).alloc (.cells (timer CV wr.heap.size) 51)).drew.heap[M]? = some (.map (ents j tl) j) := blk_new _ (blk_new _ h.m)
  have hr := run_upd _ M j tl (.pointer (some ⟨wr.heap.size + 1, 0, none⟩)) hj hM
  rw [ents_push] at hr
  have t0 : TouchOnly (fun _ => False) wr ((wr.alloc (.cells #[.int .i64 j] 3)).alloc (.cells (timer CV wr.heap.size) 51)).drew := (((TouchOnly.refl _ _).alloc _).alloc _).drew
  have t1 : TouchOnly (· = M) wr (ChangeMaps.setBlock ((wr.alloc (.cells #[.int .i64 j] 3)).alloc (.cells (timer CV wr.heap.size) 51)).drew M (.map (ents (j + 1) (fun i => if i = j then wr.heap.size + 1 else tl i)) (j + 1))) :=
    TouchOnly.setBlock (S := (· = M)) (g := M) (t0.mono (fun _ _ e => e.elim)) (fun _ => rfl) _
  have hM1 := set_at (w := ((wr.alloc (.cells #[.int .i64 j] 3)).alloc (.cells (timer CV wr.heap.size) 51)).drew) (r := M) (.map (ents (j + 1) (fun i => if i = j then wr.heap.size + 1 else tl i)) (j + 1)) (blk_lt hM)
  have hMlt := blk_lt h.m
  have hJ : (ChangeMaps.setBlock ((wr.alloc (.cells #[.int .i64 j] 3)).alloc (.cells (timer CV wr.heap.size) 51)).drew M (.map (ents (j + 1) (fun i => if i = j then wr.heap.size + 1 else tl i)) (j + 1))).heap[wr.heap.size]? = some (.cells #[.int .i64 j] 3 (0, 0)) := by
    simp only [ChangeMaps.setBlock]
    rw [Array.getElem?_setIfInBounds_ne (by omega)]
    exact blk_new _ (blk_last _ _)
  have hT : (ChangeMaps.setBlock ((wr.alloc (.cells #[.int .i64 j] 3)).alloc (.cells (timer CV wr.heap.size) 51)).drew M (.map (ents (j + 1) (fun i => if i = j then wr.heap.size + 1 else tl i)) (j + 1))).heap[wr.heap.size + 1]? = some (.cells (timer CV wr.heap.size) 51 (0, 0)) := by
    simp only [ChangeMaps.setBlock]
    rw [Array.getElem?_setIfInBounds_ne (by omega)]
    have := blk_last (wr.alloc (.cells #[.int .i64 j] 3)) (.cells (timer CV wr.heap.size) 51)
    rw [size_alloc] at this
    exact this
  refine ⟨_, hr, ?_, hM1, ⟨t1.keep h.tm.cv (map_ne h.tm.cv h.m), ?_, ?_, ?_⟩, t1.keep h.a (map_ne h.a h.m), h.geA, h.geM⟩
  · exact h.st.keep t1 (fun b e => by have := h.geM; omega)
  · intro i hi
    by_cases e : i = j
    · subst e; simp only [if_true]; exact hT
    · simp only [e, if_false]; exact t1.keep (h.tm.t i (by omega)) (map_ne (h.tm.t i (by omega)) h.m)
  · intro i hi
    by_cases e : i = j
    · subst e; simp only [if_true]; exact hJ
    · simp only [e, if_false]; exact t1.keep (h.tm.j i (by omega)) (map_ne (h.tm.j i (by omega)) h.m)
  · intro i hi
    by_cases e : i = j
    · subst e; simp only [if_true]; have := blk_lt h.a; omega
    · simp only [e, if_false]; exact h.tm.ne i (by omega)

set_option maxRecDepth 100000 in
set_option maxHeartbeats 4000000 in
theorem law_zero0 (a0 : Option Addr) (cap0 : Nat) (ending : ByteArray) (nt : Int) (w : World) (hnt : 0 ≤ nt ∧ nt ≤ 255) (hkt : nt % 8 = 0) :
    Calls Ybad.prog 3 #[.slice a0 0 cap0, .string ending, .int .u8 nt] w fun e w' => e = .returned (.bool true) ∧ Below w.heap.size w w' := by
  obtain ⟨i40, hi40, hz0, hz1, hz2⟩ := info_parts info40
  go_enter Ybad.func3, Ybad.ntmps3
  go_wp2_with (first | (go_at_call 4; refine (newIdle_any _).mono ?_; rintro e w' ⟨rfl, rfl⟩) | (at_make; refine wpList_make_own _ rfl (.const (.int .i64 0)) (.tmp 37) 27 rfl (w.heap.size + 3) 40 i40 (.pointer none) 1 Ybad.underlying27 hi40 hz0 hz1 .i64 .i64 0 0 rfl rfl rfl (by omega) (by unfold maxLen; omega) (by simp) ?_; intro w1 hown1 hgr1))
  have hst : S0 w w1 (.map none) := by
    have hsz : ∀ a b c, (((w.alloc a).alloc b).alloc c).heap.size = w.heap.size + 3 := by intro a b c; simp
    have hlt := (hown1.lt _ rfl).2
    rw [hsz] at hlt
    simp only at hlt
    refine ⟨?_, ?_, by omega, ?_⟩
    · rw [hgr1.block w.heap.size (by rw [hsz]; omega) (by simp)]
      exact blk_new _ (blk_new _ (blk_last _ _))
    · rw [hgr1.block (w.heap.size + 1) (by rw [hsz]; omega) (by simp)]
      have := blk_last (w.alloc (.cells circ 62)) (.cells (line w.heap.size (.slice none 0 0) (.map none)) 31)
      rw [size_alloc] at this
      exact blk_new _ this
    · exact ((((Below.refl _ _).alloc (Nat.le_refl _) _).alloc (by simp) _).alloc (by simp; omega) _).grown hgr1 (by simp; omega) (by intro k h; cases h)
  have l4 := blk_cell hst.l 4
  have lf := blk_free hst.l
  simp only [line, List.getElem?_toArray, List.getElem?_cons_zero, List.getElem?_cons_succ] at l4
  have HSt := hide (hst.set 4 (.slice none 0 0) (.map none) rfl)
  clear hst hown1 hgr1
  refine wp_loop_rounds 1 ?_
  rw [rounds_succ]
  go_upto_region 17 with fail
  revert HSt
  generalize w1.setCell ⟨w.heap.size + 1, 4, none⟩ (.slice none 0 0) = w5
  intro HSt
  clear l4 lf
  have hb5 := (unhide HSt).big
  obtain ⟨i3, hi3, hy0, hy1, hy2⟩ := info_parts info3
  go_upto_region 19 with (at_make; refine wpList_make_full _ rfl (.tmp 74) (.tmp 74) 46 rfl (w.heap.size + 4) 3 i3 (.int .i64 0) 1 Ybad.underlying46 hi3 hy0 hy1 .i64 .i64 0 0 0 rfl rfl rfl rfl (by omega) (by unfold maxLen; omega) (by omega) ?_; intro w6 hown6 hgr6)
  have ht6 : TouchOnly (fun _ => False) w5 w6 := (TouchOnly.refl _ _).grown hgr6 (by intro k h; cases h)
  have hSt7 : S0 w (w6.alloc (.cells #[.slice (some ⟨w5.heap.size, 0, none⟩) 0 0] 46)) (.map none) := (unhide HSt).keep (ht6.alloc _) (fun b e => e.elim)
  revert hSt7
  generalize w6.alloc (.cells #[.slice (some ⟨w5.heap.size, 0, none⟩) 0 0] 46) = w7
  generalize w6.heap.size = CV
  generalize w5.heap.size = A at hb5 ⊢
  intro hSt7
  clear hown6 hgr6 ht6 HSt hi3 hy0 hy1 hy2
  have HSt7 := hide hSt7
  clear hSt7
  go_wp2_with fail
  refine wp_loop_rounds 1 ?_
  rw [rounds_succ]
  go_wp2_with fail
  have hMo : Calls Ybad.prog 6 #[ptr (w.heap.size + 1), .string ending] w7 fun e w' => e = .returned (.tuple #[]) ∧ S0 w w' (.map none) := by
    have hT := unhide HSt7
    have hbig := hT.big
    refine (moved_zero (w.heap.size + 1) w.heap.size (.map none) ending w7 hT.l hT.c (fun _ => True) (fun _ => False) ?_).mono ?_
    · intro w1 hl _
      exact (stop_nil (w.heap.size + 1) _ w1 hl rfl).mono (fun e w2 h => ⟨h.1, trivial, h.2⟩)
    · rintro e w' ⟨rfl, w1, hl, t1, _, ht⟩
      have s1 : S0 w w1 (.map none) := ⟨t1.keep hT.c (by omega), hl, by have := t1.size; omega, hT.to.trans (t1.below (by omega) (fun b hb e => by omega))⟩
      exact ⟨rfl, s1.keep ht (fun b e => e.elim)⟩
  refine hMo.mono ?_
  rintro e w9 ⟨rfl, hF⟩
  have HF := hide hF
  have l1 := blk_cell hF.l 1
  have l4 := blk_cell hF.l 4
  have l5 := blk_cell hF.l 5
  have c2 := blk_cell hF.c 2
  simp only [line, circ, ptr, List.getElem?_toArray, List.getElem?_cons_zero, List.getElem?_cons_succ] at l1 c2 l4 l5
  clear hF hMo HSt7
  go_wp2_with (go_at_call 7; refine (state_any _ _ c2).mono ?_; rintro e w' ⟨rfl, rfl⟩)
  have hlm := fun (w : World) ty => run_len_nil w ty
  refine wp_loop_rounds 1 ?_
  rw [rounds_succ]
  go_wp2_with fail
  refine wp_loop_rounds 1 ?_
  rw [rounds_succ]
  go_wp2_with fail
  refine wp_loop_rounds 1 ?_
  rw [rounds_succ]
  go_wp2
  go_ret
  exact ⟨rfl, (unhide HF).to⟩

set_option maxRecDepth 100000 in
set_option maxHeartbeats 4000000 in
theorem law_zero1 (a0 : Option Addr) (cap0 : Nat) (ending : ByteArray) (nt : Int) (w : World) (hnt : 0 ≤ nt ∧ nt ≤ 255) (kt : Nat) (hkt : nt % 8 = (kt : Int)) (hkp : 0 < kt) :
    Calls Ybad.prog 3 #[.slice a0 0 cap0, .string ending, .int .u8 nt] w fun e w' => e = .returned (.bool true) ∧ Below w.heap.size w w' := by
  obtain ⟨i40, hi40, hz0, hz1, hz2⟩ := info_parts info40
  go_enter Ybad.func3, Ybad.ntmps3
  go_wp2_with (first | (go_at_call 4; refine (newIdle_any _).mono ?_; rintro e w' ⟨rfl, rfl⟩) | (at_make; refine wpList_make_own _ rfl (.const (.int .i64 0)) (.tmp 37) 27 rfl (w.heap.size + 3) 40 i40 (.pointer none) 1 Ybad.underlying27 hi40 hz0 hz1 .i64 .i64 0 0 rfl rfl rfl (by omega) (by unfold maxLen; omega) (by simp) ?_; intro w1 hown1 hgr1))
  have hst : S0 w w1 (.map none) := by
    have hsz : ∀ a b c, (((w.alloc a).alloc b).alloc c).heap.size = w.heap.size + 3 := by intro a b c; simp
    have hlt := (hown1.lt _ rfl).2
    rw [hsz] at hlt
    simp only at hlt
    refine ⟨?_, ?_, by omega, ?_⟩
    · rw [hgr1.block w.heap.size (by rw [hsz]; omega) (by simp)]
      exact blk_new _ (blk_new _ (blk_last _ _))
    · rw [hgr1.block (w.heap.size + 1) (by rw [hsz]; omega) (by simp)]
      have := blk_last (w.alloc (.cells circ 62)) (.cells (line w.heap.size (.slice none 0 0) (.map none)) 31)
      rw [size_alloc] at this
      exact blk_new _ this
    · exact ((((Below.refl _ _).alloc (Nat.le_refl _) _).alloc (by simp) _).alloc (by simp; omega) _).grown hgr1 (by simp; omega) (by intro k h; cases h)
  have l4 := blk_cell hst.l 4
  have lf := blk_free hst.l
  simp only [line, List.getElem?_toArray, List.getElem?_cons_zero, List.getElem?_cons_succ] at l4
  have HSt := hide (hst.set 4 (.slice none 0 0) (.map none) rfl)
  clear hst hown1 hgr1
  refine wp_loop_rounds 1 ?_
  rw [rounds_succ]
  go_upto_region 17 with fail
  revert HSt
  generalize w1.setCell ⟨w.heap.size + 1, 4, none⟩ (.slice none 0 0) = w5
  intro HSt
  clear l4 lf
  have hb5 := (unhide HSt).big
  obtain ⟨i3, hi3, hy0, hy1, hy2⟩ := info_parts info3
  have hk7 : kt ≤ 7 := by omega
  go_upto_region 19 with (at_make; refine wpList_make_full _ rfl (.tmp 74) (.tmp 74) 46 rfl (w.heap.size + 4) 3 i3 (.int .i64 0) 1 Ybad.underlying46 hi3 hy0 hy1 .i64 .i64 kt kt kt rfl rfl rfl rfl (by rw [hy2]; omega) (by unfold maxLen; omega) (by omega) ?_; intro w6 hown6 hgr6)
  have hA6 := own_full hown6
  rw [made3] at hA6
  have ht6 : TouchOnly (fun _ => False) w5 w6 := (TouchOnly.refl _ _).grown hgr6 (by intro k h; cases h)
  have hSt7 : S0 w (w6.alloc (.cells #[.slice (some ⟨w5.heap.size, 0, none⟩) kt kt] 46)) (.map none) := (unhide HSt).keep (ht6.alloc _) (fun b e => e.elim)
  have hA7 : (w6.alloc (.cells #[.slice (some ⟨w5.heap.size, 0, none⟩) kt kt] 46)).heap[w5.heap.size]? = some (.cells ((List.replicate kt (0 : Int)).map (Value.int .i64)).toArray 3 (0, 0)) := blk_new _ hA6
  have hCV7 := blk_last w6 (.cells #[.slice (some ⟨w5.heap.size, 0, none⟩) kt kt] 46)
  have hge6 : w.heap.size + 4 ≤ w6.heap.size := by have := ht6.size; omega
  revert hSt7 hA7 hCV7 hge6
  generalize w6.alloc (.cells #[.slice (some ⟨w5.heap.size, 0, none⟩) kt kt] 46) = w7
  generalize w6.heap.size = CV
  generalize w5.heap.size = A at hb5 ⊢
  intro hSt7 hA7 hCV7 hge6
  clear hown6 hgr6 hA6 ht6 HSt hi3 hy0 hy1 hy2
  have l5 := blk_cell hSt7.l 5
  have lf := blk_free hSt7.l
  simp only [line, List.getElem?_toArray, List.getElem?_cons_zero, List.getElem?_cons_succ] at l5
  have hb7 := hSt7.big
  have hlt7 : w.heap.size + 1 < w7.heap.size := by omega
  have hmm := @run_makeMap Ybad.prog
  have HSt7 := hide hSt7
  have HA7 := hide hA7
  have HCV7 := hide hCV7
  clear hSt7 hA7 hCV7
  go_upto_region 21 with fail
  have hT2 : T0 w ((w7.setCell ⟨w.heap.size + 1, 5, none⟩ (.map (some w7.heap.size))).alloc (.map #[] 0)) w7.heap.size CV A kt 0 (fun _ => 0) (fun _ => 0) := by
    have h1 := (unhide HSt7).set 5 (.map (some w7.heap.size)) (.map (some w7.heap.size)) rfl
    have h2 := blk_last (w7.setCell ⟨w.heap.size + 1, 5, none⟩ (.map (some w7.heap.size))) (.map #[] 0)
    rw [size_setCell] at h2
    have hcv := unhide HCV7
    have ha := unhide HA7
    have hl := (unhide HSt7).l
    exact ⟨h1.keep ((TouchOnly.refl (fun _ => False) _).alloc _) (fun b e => e.elim), h2, ⟨blk_new _ (blk_oth 5 _ (blk_ne hcv hl (by decide)) hcv), fun i hi => absurd hi (Nat.not_lt_zero _), fun i hi => absurd hi (Nat.not_lt_zero _), fun i hi => absurd hi (Nat.not_lt_zero _)⟩,
      blk_new _ (blk_oth 5 _ (blk_ne ha hl (by decide)) ha), hb5, hb7⟩
  have HT2 := hide hT2
  clear hT2
  revert HT2
  generalize (w7.setCell ⟨w.heap.size + 1, 5, none⟩ (.map (some w7.heap.size))).alloc (.map #[] 0) = w8
  generalize w7.heap.size = M at hb7 ⊢
  intro HT2
  clear HSt7 HA7 HCV7 l5 lf hlt7 hmm hb5 hb7 hge6
  go_wp2_with fail
  go_loopw [17] (fun i wr => ∃ (j : Nat) (tl jl : Nat → Nat), j ≤ kt ∧ i = .int .i64 j ∧ Hid (T0 w wr M CV A kt j tl jl)) (fun i _ => kt - (intOf i).toNat)
  case atStart => exact ⟨0, _, _, Nat.zero_le _, rfl, HT2⟩
  case round =>
    clear HT2
    obtain ⟨j, tl, jl, hj, rfl, HT⟩ := hrel
    by_cases hjl : j < kt
    · have l5 := blk_cell (unhide HT).st.l 5
      have hbg := (unhide HT).st.big
      have hltL : w.heap.size + 1 < wr.heap.size := by omega
      have hltL0 : w.heap.size < wr.heap.size := by omega
      simp only [line, List.getElem?_toArray, List.getElem?_cons_zero, List.getElem?_cons_succ] at l5
      obtain ⟨w9, hmu, hT9⟩ := (unhide HT).step (by omega)
      simp only [timer] at hmu
      have hcut := fun w => run_cut w j (by omega)
      have HT9 := hide hT9
      clear hT9
      go_upto_region 26 with fail
      go_region
      all_goals go_wp2_with fail
      go_roundw
      case rel => exact ⟨j + 1, _, _, by omega, by go_num, HT9⟩
      case measure => simp [intOf]; omega
    · have hje : j = kt := by omega
      subst hje
      have hT := unhide HT
      have hMo : Calls Ybad.prog 6 #[ptr (w.heap.size + 1), .string ending] wr fun e w' => e = .returned (.tuple #[]) ∧ S0 w w' (.map (some M)) ∧ TmD w w' M CV A j tl := by
        have hlL := hT.st.l
        have hbig := hT.st.big
        have hgM := hT.geM
        have mG : ∀ b o, wr.heap[b]? = some o → (∀ cs, ¬ o = .cells cs 31 (0, 0)) → ¬ b = w.heap.size + 1 := by
          intro b o hb h1 e
          subst e; rw [hlL] at hb; cases hb; exact h1 _ rfl
        refine (moved_zero (w.heap.size + 1) w.heap.size (.map (some M)) ending wr hT.st.l hT.st.c (fun w2 => w2.heap[A]? = some (.cells ((List.replicate j (1 : Int)).map (Value.int .i64)).toArray 3 (0, 0))) (· = A) ?_).mono ?_
        · intro w1 hl t1
          exact stop_some (w.heap.size + 1) M CV A j tl jl _ w1 hk7 hl rfl (t1.keep hT.m (by omega)) (hT.tm.keep t1 (mG _ _ hT.tm.cv (by simp)) (fun i hi => mG _ _ (hT.tm.t i hi) (by simp)) (fun i hi => mG _ _ (hT.tm.j i hi) (by simp))) (t1.keep hT.a (mG _ _ hT.a (by simp)))
        · rintro e w' ⟨rfl, w1, hl, t1, ha, ht⟩
          have s1 : S0 w w1 (.map (some M)) := ⟨t1.keep hT.st.c (by omega), hl, by have := t1.size; omega, hT.st.to.trans (t1.below (by omega) (fun b hb e => by omega))⟩
          exact ⟨rfl, s1.keep ht (fun b e => by have := hT.geA; omega), ht.keep (t1.keep hT.m (by omega)) (fun e => map_ne hT.a hT.m e.symm), ht.keep (t1.keep hT.tm.cv (mG _ _ hT.tm.cv (by simp))) (blk_ne hT.tm.cv hT.a (by decide)), ha⟩
      have HMo := hide hMo
      clear hMo hT HT
      go_wp2_with fail
      refine (unhide HMo).mono ?_
      rintro e w9 ⟨rfl, hF, hD⟩
      have HF := hide hF
      have HD := hide hD
      have l1 := blk_cell hF.l 1
      have l4 := blk_cell hF.l 4
      have l5 := blk_cell hF.l 5
      have c2 := blk_cell hF.c 2
      simp only [line, circ, ptr, List.getElem?_toArray, List.getElem?_cons_zero, List.getElem?_cons_succ] at l1 c2 l4 l5
      have cv0 := blk_cell hD.cv 0
      simp only [List.getElem?_toArray, List.getElem?_cons_zero] at cv0
      have hlm := fun ty => run_len_map w9 M j (ents j tl) ty hD.m
      rw [ents_size] at hlm
      clear hF hD HMo
      go_wp2_with (go_at_call 7; refine (state_any _ _ c2).mono ?_; rintro e w' ⟨rfl, rfl⟩)
      refine wp_loop_rounds 1 ?_
      rw [rounds_succ]
      go_wp2_with fail
      refine wp_loop_rounds 1 ?_
      rw [rounds_succ]
      go_wp2_with fail
      go_loopw [25] (fun i wr5 => ∃ q m : Nat, q ≤ j ∧ i = .int .i64 q ∧ wr5 = w'.drewN m) (fun i _ => j - (intOf i).toNat)
      case atStart => exact ⟨0, 0, Nat.zero_le _, rfl, rfl⟩
      case round =>
        obtain ⟨q5, m, hq5, rfl, rfl⟩ := hrel
        by_cases hql5 : q5 < j
        · have aq := blk_cell (unhide HD).a q5
          simp only [List.getElem?_toArray, List.getElem?_map, List.getElem?_replicate, hql5, if_true, Option.map_some] at aq
          have hcut := fun w => run_cut w q5 (by omega)
          have hlook := fun n => run_look (w'.drewN n) M j q5 tl (by omega) hql5 (unhide HD).m
          go_wp2_with fail
          go_quiet (fail)
          go_wp2
          go_roundw
          case rel => exact ⟨q5 + 1, _, by omega, by go_num, rfl⟩
          case measure => simp [intOf]; omega
        · go_wp2
          go_ret
          exact ⟨rfl, (unhide HF).to.trans ⟨rfl, rfl, rfl, Nat.le_refl _, fun _ _ => rfl⟩⟩
end Go.Proofs.YbulkcangDoor.Law
