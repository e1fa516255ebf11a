import Derived.Test.YbulkcaraNew
import Derived.Laws.CopyOwn
import Derived.Deep.Cut
namespace Go.Proofs.Ybulkcara.Walk
open Go.ChangeShapes Go.WideShapes Go.ChangeAt Go.RowKit Go.Conc Go.Proofs.Ybulkcara.Comm Go.Proofs.Ybulkcara.New

def Src (w : World) (a : Option Addr) (len : Nat) (cs : List Value) : Prop :=
  cs.length = len ∧ (0 < len → ∃ ad : Addr, a = some ad ∧ ∀ j v, cs[j]? = some v → w.cell? (ad.add j) = some v) ∧ ∀ v ∈ cs, v.oneCell' = true

theorem add_block (a : Addr) (j : Nat) : (a.add j).block = a.block := by unfold Addr.add; split <;> rfl

theorem Src.below {w w' : World} {a : Option Addr} {len : Nat} {cs : List Value} (h : Src w a len cs) (hb : Below w.heap.size w w') : Src w' a len cs := by
  refine ⟨h.1, fun hl => ?_, h.2.2⟩
  obtain ⟨ad, ha, hc⟩ := h.2.1 hl
  refine ⟨ad, ha, fun j v hv => ?_⟩
  have h1 := hc j v hv
  rw [hb.cell (World.block_lt_of_cell? w _ h1)]
  exact h1

theorem info5 : (Yba.prog.info? 5).map (fun i => (i.zero, i.size, i.bytes)) = some (some (.int .u8 0), 1, 1) := by kernel_rfl
theorem info3 : (Yba.prog.info? 3).map (fun i => (i.zero, i.size, i.bytes)) = some (some (.int .i64 0), 1, 8) := by kernel_rfl
theorem size5 : (Yba.prog.info? 5).map (·.size) = some 1 := by kernel_rfl
theorem size3 : (Yba.prog.info? 3).map (·.size) = some 1 := by kernel_rfl

set_option maxRecDepth 100000 in
set_option maxHeartbeats 1000000 in
theorem walk_long (a0 : Int) (a1 : Option Addr) (len1 cap1 : Nat) (a2 : Option Addr) (len2 cap2 : Nat) (a3 a4 : Bool) (w : World) (h1 : len1 ≤ 9223372036854775807) (h2 : len2 ≤ 9223372036854775807) (h : 1024 < len1 ∨ 1024 < len2) :
    Calls Yba.prog 3 #[.int .i64 a0, .slice a1 len1 cap1, .slice a2 len2 cap2, .bool a3, .bool a4] w fun e w' => e = .returned (.bool true) ∧ Below w.heap.size w w' := by
  by_cases hl : 1024 < len1
  · clear h
    go_enter Yba.func3, Yba.ntmps3
    go_wp2
    go_ret
    exact ⟨rfl, Below.refl _ _⟩
  · have h' : 1024 < len2 := h.resolve_left hl
    clear h
    go_enter Yba.func3, Yba.ntmps3
    go_wp2
    go_ret
    exact ⟨rfl, Below.refl _ _⟩

def reader (c : Value) : Array Value := #[.nilIface, .chan none, c, .chan none, .bool false, .pointer none, .int .i64 0, .int .i64 0]

set_option maxRecDepth 100000 in
set_option maxHeartbeats 1000000 in
theorem walk_none (a0 : Int) (a1 : Option Addr) (len1 cap1 : Nat) (a2 : Option Addr) (len2 cap2 : Nat) (w : World) (h1 : len1 ≤ 1024) (h2 : len2 ≤ 1024) :
    Calls Yba.prog 3 #[.int .i64 a0, .slice a1 len1 cap1, .slice a2 len2 cap2, .bool false, .bool false] w fun e w' => e = .returned (.bool true) ∧ Below w.heap.size w w' := by
  go_enter Yba.func3, Yba.ntmps3
  go_wp2_with fail
  refine (nb_nil w.heap.size a0 _ (reader (.chan none)) (heap_alloc_new _ _) rfl).mono ?_
  rintro e w1 ⟨rfl, hb, hr, hbel⟩
  have hsz : (w.alloc (Obj.cells (reader (.chan none)) 31)).heap.size = w.heap.size + 1 := by simp
  have e0 := blk_cell hb 0
  have e1 := blk_cell hb 1
  have e2 := blk_cell hb 2
  have e3 := blk_cell hb 3
  have e4 := blk_cell hb 4
  have e5 := blk_cell hb 5
  have e6 := blk_cell hb 6
  have HB : Hid (Below w.heap.size w w1) := ((Below.refl _ _).alloc (Nat.le_refl _) _).trans (hbel.mono (by rw [hsz]; omega))
  simp only [batch, List.getElem?_toArray, List.getElem?_cons_zero, List.getElem?_cons_succ] at e0 e1 e2 e3 e4 e5 e6
  rw [hsz] at e0 e1 e2 e3 e4 e5 e6
  clear hb hr hbel hsz
  have hec := fun (w : World) x y => run_eql_chan (P := Yba.prog) w 28 Yba.underlying28 x y
  go_wp2
  go_ret
  exact ⟨rfl, HB⟩

set_option maxRecDepth 100000 in
set_option maxHeartbeats 1000000 in
theorem walk_empty (a0 : Int) (a1 : Option Addr) (len1 cap1 : Nat) (a2 : Option Addr) (len2 cap2 : Nat) (w : World) (h1 : len1 ≤ 1024) (h2 : len2 ≤ 1024) :
    Calls Yba.prog 3 #[.int .i64 a0, .slice a1 len1 cap1, .slice a2 len2 cap2, .bool false, .bool true] w fun e w' => e = .returned (.bool true) ∧ Below w.heap.size w w' := by
  have hmk := mk27
  go_enter Yba.func3, Yba.ntmps3
  go_wp2_with fail
  refine (nb_empty w.heap.size (w.heap.size + 1) 0 0 a0 _ (reader (.chan (some (w.heap.size + 1)))) (blk_new _ (heap_alloc_new _ _)) rfl (by have := heap_alloc_new (w.alloc (.cells (reader (.chan (some (w.heap.size + 1)))) 31)) (.chan 1 #[] false 0 0 false); simpa using this)).mono ?_
  rintro e w1 ⟨rfl, hb, hr, hc, hbel⟩
  have hsz : ∀ rc, ((w.alloc (Obj.cells rc 31)).alloc (.chan 1 #[] false 0 0 false)).heap.size = w.heap.size + 2 := by intro rc; simp
  have e0 := blk_cell hb 0
  have e1 := blk_cell hb 1
  have e2 := blk_cell hb 2
  have e3 := blk_cell hb 3
  have e4 := blk_cell hb 4
  have e5 := blk_cell hb 5
  have e6 := blk_cell hb 6
  have r2 := blk_cell hr 2
  have HB : Hid (Below w.heap.size w w1) := (((Below.refl _ _).alloc (Nat.le_refl _) _).alloc (by simp) _).trans (hbel.mono (by rw [hsz]; omega))
  simp only [batch, reader, List.getElem?_toArray, List.getElem?_cons_zero, List.getElem?_cons_succ] at e0 e1 e2 e3 e4 e5 e6 r2
  rw [hsz] at e0 e1 e2 e3 e4 e5 e6
  have hlen := fun ty => run_len_chan (P := Yba.prog) 27 ty Yba.underlying27 hc
  clear hb hr hbel hsz hc
  have hec := fun (w : World) x y => run_eql_chan (P := Yba.prog) w 28 Yba.underlying28 x y
  go_wp2
  go_ret
  exact ⟨rfl, HB⟩

theorem own_block {w : World} {base e g n : Nat} {xs : List Value} (h : w.ownsRow base e 1 (.slice (some ⟨g, 0, none⟩) n n) n xs) :
    ∃ cur : List Value, w.heap[g]? = some (.cells cur.toArray e (0, 0)) ∧ cur.length = n := by
  rcases h.2 with ⟨h', _⟩ | ⟨g', cap, cur, h', _, hg, _, _, hs, _⟩
  · simp at h'
  · simp only [Value.slice.injEq, Option.some.injEq, Addr.mk.injEq, and_true, true_and] at h'
    obtain ⟨rfl, rfl⟩ := h'
    exact ⟨cur.toList, by simpa using hg, by simpa using hs⟩

set_option maxRecDepth 100000 in
set_option maxHeartbeats 2000000 in
theorem walk_free (a0 : Int) (a1 : Option Addr) (len1 cap1 : Nat) (a2 : Option Addr) (len2 cap2 : Nat) (a4 : Bool) (w : World) (h1 : len1 ≤ 1024) (h2 : len2 ≤ 1024)
    (cs1 cs2 : List Value) (s1 : Src w a1 len1 cs1) (s2 : Src w a2 len2 cs2) :
    Calls Yba.prog 3 #[.int .i64 a0, .slice a1 len1 cap1, .slice a2 len2 cap2, .bool true, .bool a4] w fun e w' => e = .returned (.bool true) ∧ Below w.heap.size w w' := by
  have hmk27 := mk27
  have hmk28 := mk28
  obtain ⟨i5, hi5, hz50, hz51, hz52⟩ := info_parts info5
  obtain ⟨i3, hi3, hz30, hz31, hz32⟩ := info_parts info3
  go_enter Yba.func3, Yba.ntmps3
  go_upto_region 8 with (at_make; refine wpList_make_full _ rfl (.tmp 29) (.tmp 29) 22 rfl (w.heap.size + 1) 5 i5 (.int .u8 0) 1 Yba.underlying22 hi5 hz50 hz51 .i64 .i64 len1 len1 len1 rfl rfl rfl rfl (by rw [hz52]; omega) (by unfold maxLen; omega) (by simp) ?_; intro w1 hown1 hgr1)
  have hR1 : w1.heap[w.heap.size]? = some (.cells (reader (.chan none)) 31 (0, 0)) := by
    rw [hgr1.block w.heap.size (by simp) (by simp)]; exact heap_alloc_new _ _
  have hB1 : Below w.heap.size w w1 := ((Below.refl _ _).alloc (Nat.le_refl _) _).grown hgr1 (by simp) (by intro k h; cases h)
  have hsz : ∀ rc, (w.alloc (Obj.cells rc 31)).heap.size = w.heap.size + 1 := by intro rc; simp
  rw [hsz] at hown1
  clear hsz
  obtain ⟨cur1, hg1, hc1⟩ := own_block hown1
  have t1 := s1.below hB1
  have HR1 := hide hR1
  have HB1 := hide hB1
  have HG1 := hide hg1
  have HS1 := hide t1
  clear hR1 hB1 hg1 t1 hown1 hgr1 s1
  go_upto_region 9 with (refine wpList_copy_splice rfl (.tmp 31) (.tmp 32) 22 22 rfl 5 Yba.underlying22 size5 _ _ len1 len1 len1 cap1 rfl rfl (w.heap.size + 1) 0 cur1 5 (unhide HG1) cs1 (by rw [(unhide HS1).1]; simp) (by intro h; refine ⟨rfl, ?_⟩; exact (unhide HS1).2.1 (by rw [← (unhide HS1).1]; exact h)) (by rw [hc1, (unhide HS1).1]; omega) (unhide HS1).2.2 (w.heap.size + 1) w1 (Below.refl _ _) (Nat.le_refl _) ?_; intro w2 hg2 hb2)
  have hR2 : w2.heap[w.heap.size]? = some (.cells (reader (.chan none)) 31 (0, 0)) := by
    rw [hb2.block w.heap.size (by omega)]; exact unhide HR1
  have hB2 : Below w.heap.size w w2 := (unhide HB1).trans (hb2.mono (by omega))
  have hz2 : w.heap.size + 1 < w2.heap.size := blk_lt (show _ = _ from hg2)
  have t2 := s2.below hB2
  have HR2 := hide hR2
  have HB2 := hide hB2
  have HS2 := hide t2
  clear hR2 hB2 t2 hg2 hb2 HR1 HB1 HG1 HS1 s2 hc1
  go_upto_region 10 with (at_make; refine wpList_make_full _ rfl (.tmp 35) (.tmp 35) 23 rfl w2.heap.size 3 i3 (.int .i64 0) 1 Yba.underlying23 hi3 hz30 hz31 .i64 .i64 len2 len2 len2 rfl rfl rfl rfl (by rw [hz32]; omega) (by unfold maxLen; omega) (Nat.le_refl _) ?_; intro w3 hown3 hgr3)
  have hR3 : w3.heap[w.heap.size]? = some (.cells (reader (.chan none)) 31 (0, 0)) := by
    rw [hgr3.block w.heap.size (by omega) (by simp)]; exact unhide HR2
  have hB3 : Below w.heap.size w w3 := (unhide HB2).grown hgr3 (by omega) (by intro k h; cases h)
  obtain ⟨cur3, hg3, hc3⟩ := own_block hown3
  have t3 : Src w3 a2 len2 cs2 := (unhide HS2).below ((Below.refl _ _).grown hgr3 (Nat.le_refl _) (by intro k h; cases h))
  have HR3 := hide hR3
  have HB3 := hide hB3
  have HG3 := hide hg3
  have HS3 := hide t3
  clear hR3 hB3 hg3 t3 hown3 hgr3 HR2 HB2 HS2
  go_upto_region 11 with (refine wpList_copy_splice rfl (.tmp 37) (.tmp 38) 23 23 rfl 3 Yba.underlying23 size3 _ _ len2 len2 len2 cap2 rfl rfl w2.heap.size 0 cur3 3 (unhide HG3) cs2 (by rw [(unhide HS3).1]; simp) (by intro h; refine ⟨rfl, ?_⟩; exact (unhide HS3).2.1 (by rw [← (unhide HS3).1]; exact h)) (by rw [hc3, (unhide HS3).1]; omega) (unhide HS3).2.2 w2.heap.size w3 (Below.refl _ _) (Nat.le_refl _) ?_; intro w4 hg4 hb4)
  have hR4 : w4.heap[w.heap.size]? = some (.cells (reader (.chan none)) 31 (0, 0)) := by
    rw [hb4.block w.heap.size (by omega)]; exact unhide HR3
  have hB4 : Below w.heap.size w w4 := (unhide HB3).trans (hb4.mono (by omega))
  have hz4 : w2.heap.size < w4.heap.size := blk_lt (show _ = _ from hg4)
  have HR4 := hide hR4
  have HB4 := hide hB4
  have hlt4 : w.heap.size < w4.heap.size := by omega
  clear hR4 hB4 hg4 hb4 HR3 HB3 HG3 HS3 hc3
  go_upto_region 13 with fail
  obtain ⟨xr, hxr⟩ : ∃ xr, xr = bits BinOp.xor IntKind.i64 a0 1 := ⟨_, rfl⟩
  rw [← hxr]
  clear hxr
  have gR : ((w4.alloc (.chan 0 #[] false 0 0 false)).alloc (.cells (batch xr (.slice (some ⟨w.heap.size + 1, 0, none⟩) len1 len1) (.slice (some ⟨w2.heap.size, 0, none⟩) len2 len2) (.slice (some ⟨w.heap.size + 1, 0, none⟩) len1 len1) (.chan (some w4.heap.size))) 36)).heap[w.heap.size]? = _ := blk_new _ (blk_new _ (unhide HR4))
  have gG := heap_alloc_new (w4.alloc (.chan 0 #[] false 0 0 false)) (.cells (batch xr (.slice (some ⟨w.heap.size + 1, 0, none⟩) len1 len1) (.slice (some ⟨w2.heap.size, 0, none⟩) len2 len2) (.slice (some ⟨w.heap.size + 1, 0, none⟩) len1 len1) (.chan (some w4.heap.size))) 36)
  have gs : ((w4.alloc (.chan 0 #[] false 0 0 false)).alloc (.cells (batch xr (.slice (some ⟨w.heap.size + 1, 0, none⟩) len1 len1) (.slice (some ⟨w2.heap.size, 0, none⟩) len2 len2) (.slice (some ⟨w.heap.size + 1, 0, none⟩) len1 len1) (.chan (some w4.heap.size))) 36)).heap.size = w4.heap.size + 2 := by simp
  have gB : Below w.heap.size w ((w4.alloc (.chan 0 #[] false 0 0 false)).alloc (.cells (batch xr (.slice (some ⟨w.heap.size + 1, 0, none⟩) len1 len1) (.slice (some ⟨w2.heap.size, 0, none⟩) len2 len2) (.slice (some ⟨w.heap.size + 1, 0, none⟩) len1 len1) (.chan (some w4.heap.size))) 36)) := ((unhide HB4).alloc (by omega) _).alloc (by simp; omega) _
  have hs4 : (w4.alloc (.chan 0 #[] false 0 0 false)).heap.size = w4.heap.size + 1 := by simp
  rw [hs4] at gG
  simp only [batch] at gR gG gs gB
  revert gR gG gs gB
  generalize (w4.alloc (.chan 0 #[] false 0 0 false)).alloc _ = w5
  intro gR gG gs gB
  generalize w4.heap.size = n4 at *
  generalize w2.heap.size = n2 at *
  have r2 := blk_cell gR 2
  have rf := blk_free gR
  have hlt5 := blk_lt gR
  simp only [reader, List.getElem?_toArray, List.getElem?_cons_zero, List.getElem?_cons_succ] at r2
  have HR5 := hide gR
  have HG5 := hide gG
  have HS5 := hide gs
  have HB5 := hide gB
  clear gR gG gs gB hs4 HR4 HB4
  go_upto_region 14 with fail
  have n5 : w5.heap.size = n4 + 2 := unhide HS5
  have gs6 : (w5.setCell ⟨w.heap.size, 2, none⟩ (.chan (some w5.heap.size))).heap.size = n4 + 2 := by simp [World.setCell, n5]
  have gR := blk_new (.chan 1 #[] false 0 0 false) (blk_set 2 (.chan (some w5.heap.size)) (unhide HR5))
  have gG := blk_new (.chan 1 #[] false 0 0 false) (blk_oth (g := w.heap.size) 2 (.chan (some w5.heap.size)) (by omega) (unhide HG5))
  have gC := heap_alloc_new (w5.setCell ⟨w.heap.size, 2, none⟩ (.chan (some w5.heap.size))) (.chan 1 #[] false 0 0 false)
  have gB := ((unhide HB5).setCell (p := ⟨w.heap.size, 2, none⟩) (Nat.le_refl _) (.chan (some w5.heap.size))).alloc (by rw [gs6]; omega) (.chan 1 #[] false 0 0 false)
  have gS : ((w5.setCell ⟨w.heap.size, 2, none⟩ (.chan (some w5.heap.size))).alloc (.chan 1 #[] false 0 0 false)).heap.size = n4 + 3 := by simp [World.setCell, n5]
  rw [gs6] at gC
  revert gR gG gC gB gS
  rw [n5]
  generalize (w5.setCell ⟨w.heap.size, 2, none⟩ (.chan (some (n4 + 2)))).alloc (.chan 1 #[] false 0 0 false) = w6
  intro gR gG gC gB gS
  clear HR5 HG5 HS5 HB5 r2 rf hlt5 n5 gs6
  have r2 := blk_cell gR 2
  simp only [reader, List.setIfInBounds_toArray, List.set_cons_succ, List.set_cons_zero, List.getElem?_toArray, List.getElem?_cons_zero, List.getElem?_cons_succ] at r2
  have HR6 := hide gR
  have HG6 := hide gG
  have HB6 := hide gB
  have HC6 := hide gC
  have HS6 := hide gS
  clear gR gG gB gC gS
  refine wp_region_comm_k 5 _ rfl rfl (fun K hK => ?_)
  simp only [List.take, List.drop] at hK ⊢
  go_wp2
  refine comm_send (ch := n4 + 2) (v := .pointer (some ⟨n4 + 1, 0, none⟩)) (z := .tuple #[]) (by simp [go_sem, scase]) (unhide HC6) (by simp) ?_
  have gR := blk_chan (c := n4 + 2) (cap := 1) (buf := (#[] : Array Value).push (.pointer (some ⟨n4 + 1, 0, none⟩))) (cl := false) (s := 0 + 1) (r := 0) (tm := false) (by omega) (unhide HR6)
  have gG := blk_chan (c := n4 + 2) (cap := 1) (buf := (#[] : Array Value).push (.pointer (some ⟨n4 + 1, 0, none⟩))) (cl := false) (s := 0 + 1) (r := 0) (tm := false) (by omega) (unhide HG6)
  have gC := heap_setChan w6 (n4 + 2) 1 ((#[] : Array Value).push (.pointer (some ⟨n4 + 1, 0, none⟩))) false (0 + 1) 0 false (blk_lt (unhide HC6))
  have gS := size_setChan w6 (n4 + 2) 1 ((#[] : Array Value).push (.pointer (some ⟨n4 + 1, 0, none⟩))) false (0 + 1) 0 false
  have gB := below_setChan (c := n4 + 2) (unhide HB6) (by omega) 1 ((#[] : Array Value).push (.pointer (some ⟨n4 + 1, 0, none⟩))) false (0 + 1) 0 false
  rw [unhide HS6] at gS
  revert gR gG gC gS gB
  generalize w6.setChan (n4 + 2) 1 ((#[] : Array Value).push (.pointer (some ⟨n4 + 1, 0, none⟩))) false (0 + 1) 0 false = w7
  intro gR gG gC gS gB
  have gC' : w7.heap[n4 + 2]? = some (.chan 1 #[.pointer (some ⟨n4 + 1, 0, none⟩)] false 1 0 false) := gC
  have HR7 := hide gR
  have HG7 := hide gG
  have HC7 := hide gC'
  have HS7 := hide gS
  have HB7 := hide gB
  clear gR gG gC gC' gS gB HR6 HG6 HB6 HC6 HS6 r2
  go_wp2_with fail
  refine (nb_free w.heap.size (n4 + 2) (n4 + 1) 1 0 a0 w7 _ (unhide HR7) rfl (by omega) (by omega) (by omega) (unhide HC7) len1 len2 _ _ _ _ _ (unhide HG7)).mono ?_
  rintro e w8 ⟨rfl, hb, hr, hc, hbel⟩
  have hbel' := hbel w.heap.size (by omega) (by omega) (by rw [unhide HS7]; omega)
  have e0 := blk_cell hb 0
  have e1 := blk_cell hb 1
  have e2 := blk_cell hb 2
  have e3 := blk_cell hb 3
  have e4 := blk_cell hb 4
  have e5 := blk_cell hb 5
  have e6 := blk_cell hb 6
  have r2 := blk_cell hr 2
  have HB : Hid (Below w.heap.size w w8) := (unhide HB7).trans hbel'
  simp only [batch, reader, List.setIfInBounds_toArray, List.set_cons_succ, List.set_cons_zero, List.getElem?_toArray, List.getElem?_cons_zero, List.getElem?_cons_succ] at e0 e1 e2 e3 e4 e5 e6 r2
  rw [unhide HS7] at e6
  have hlen := fun ty => run_len_chan (P := Yba.prog) 27 ty Yba.underlying27 hc
  have hne : ((some (n4 + 3) : Option Nat) == some n4) = false := by simp
  clear hb hr hbel hbel' hc HR7 HG7 HC7 HS7 HB7
  have hec := fun (w : World) x y => run_eql_chan (P := Yba.prog) w 28 Yba.underlying28 x y
  obtain ⟨j36, hj36⟩ : ∃ j, Yba.prog.info? 36 = some j := ⟨_, rfl⟩
  have hep := fun (w : World) a => run_neq_ptr_same (P := Yba.prog) w a Yba.underlying29 hj36
  go_wp2
  all_goals go_ret
  all_goals exact ⟨rfl, HB⟩
end Go.Proofs.Ybulkcara.Walk
