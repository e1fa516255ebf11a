import Derived.Test.YbulkcaqmDoorSect
import Derived.Test.YbulkcaqmDoorFailing
namespace Go.Proofs.YbulkcaqmDoor.Spool
set_option linter.unusedVariables false
open Go.ChangeShapes Go.WideShapes Go.ChangeAt Go.RowKit Go.Conc Go.Proofs.YbulkcaqmDoor.Base Go.Proofs.YbulkcaqmDoor.Loud

theorem na84 (a : Addr) (w : World) : (nilAhead 314 84 (.pointer (some a)) "Read").run Ybad.prog w = .ok (some false) w := by kernel_rfl

/-- readall's loop: p bytes of the section are read -/
structure Ra (w wr : World) (X M s l p : Nat) (K : Nat → Int) (v : Value) : Prop where
  own : wr.ownsRow (w.heap.size + 1) 5 1 v p (bytesV (fun i => K (s + i)) p)
  x : wr.heap[X]? = some (.cells (xcells M s (s + p) (s + l) l) 124 (0, 0))
  b : ∃ cs : List Value, wr.heap[w.heap.size]? = some (.cells cs.toArray 92 (0, 0)) ∧ cs.length = 5
  t : TouchOnly (· = X) w wr
  big : w.heap.size + 1 ≤ wr.heap.size

def RPost (w : World) (X l s : Nat) (K : Nat → Int) (e : Ending) (w' : World) : Prop :=
  ∃ v, e = .returned (.tuple #[v, .bool true]) ∧ Reads w' v l (fun i => K (s + i)) ∧ TouchOnly (· = X) w w'

set_option maxRecDepth 100000 in
set_option maxHeartbeats 4000000 in
theorem readall (w : World) (X M s l g dl dcap : Nat) (cu : List Value) (K : Nat → Int) (ea : Addr) (hX : w.heap[X]? = some (.cells (xcells M s s (s + l) l) 124 (0, 0)))
    (hD : 0 < l → w.heap[M]? = some (.cells #[.slice (some ⟨g, 0, none⟩) dl dcap] 65 (0, 0)) ∧ w.heap[g]? = some (.cells cu.toArray 5 (0, 0)) ∧ (∀ i, i < dl → cu[i]? = some (.int .u8 (K i))) ∧ s + l ≤ dl ∧ dl ≤ dcap)
    (hdl : dl ≤ 9000) (hl : s + l ≤ 9000) (heof : w.cell? ⟨1, 0, none⟩ = some (.iface 93 (.pointer (some ea)))) (h1X : ¬ 1 = X) : Calls Ybad.prog 16 #[.iface 84 (ptr X), .int .i64 l] w (RPost w X l s K) := by
  have HX := hide hX
  have HD := hide hD
  have HE := hide heof
  have hlt1 : 1 < w.heap.size := World.block_lt_of_cell? w _ heof
  have hXlt := blk_lt hX
  clear hX hD heof
  go_enter Ybad.func16, Ybad.ntmps16
  go_wp2_with fail
  go_loopg [6, 8] l (fun gk s6 s8 wr => ∃ p q, gk + p = l ∧ q ≤ p ∧ s8 = .int .i64 ((q : Nat) : Int) ∧ Hid (Ra w wr X M s l p K s6))
  case atStart =>
    refine ⟨0, 0, by omega, by omega, by simp, ⟨World.ownsRow_nil _ _ _ _, blk_new _ (unhide HX), ⟨[.int .u8 0, .int .u8 0, .int .u8 0, .int .u8 0, .int .u8 0], blk_last _ _, rfl⟩, (TouchOnly.refl _ _).alloc _, by rw [size_alloc]; omega⟩⟩
  case round =>
    obtain ⟨p, q, hgp, hqp, hs8, HI⟩ := hrel
    subst hs8
    have hle : (q : Int) ≤ (l : Int) + 2 := by omega
    have hmr := m84 (some ⟨X, 0, none⟩)
    have hna := na84 ⟨X, 0, none⟩
    obtain ⟨cs, hB, hcs⟩ := (unhide HI).b
    have HB := hide hB
    clear hB
    have he2 : wr.cell? ⟨1, 0, none⟩ = some (.iface 93 (.pointer (some ea))) := by
      rw [World.cell?_of_block (w := w) ((unhide HI).t.block 1 hlt1 h1X)]; exact unhide HE
    obtain ⟨va, vc, hv⟩ := own_slice (unhide HI).own
    subst hv
    go_upto_region 6 with fail
    refine wp_region_loud 5 _ (by kernel_rfl) (by decide) rfl (by kernel_rfl) (by kernel_rfl) (by kernel_rfl) (by kernel_rfl) (fun ops0 => ?_)
    simp only [List.take, List.drop]
    repeat (quiet_step (fail))
    refine wpQuiet_nil ?_
    intro m
    go_wp2_with fail
    have hXB : ¬ w.heap.size = X := by omega
    by_cases hpl : p < l
    · obtain ⟨hM, hg, hcu, hsl, hdc⟩ := unhide HD (by omega)
      have hM' := (unhide HI).t.keep hM (blk_ne hM (unhide HX) (by decide))
      have hg' := (unhide HI).t.keep hg (blk_ne hg (unhide HX) (by decide))
      obtain ⟨k, hk⟩ : ∃ k, k = min 5 (s + l - (s + p)) := ⟨_, rfl⟩
      have hk0 : 0 < k := by omega
      have hk5 : k ≤ 5 := by omega
      have hkl : p + k ≤ l := by omega
      have hk5' : (k : Int) ≤ 5 := by omega
      refine (sect_more (wr.drewN m) X M s (s + p) (s + l) l g dl dcap w.heap.size cu cs K (unhide HI).x hM' hg' hcu (unhide HB) hcs (by omega) hsl hdl hdc k hk).mono ?_
      rintro e w2 ⟨rfl, q1, q2, q3⟩
      have q3' := touch_undrew q3
      have t2 : TouchOnly (· = X) w w2 := touch_and (unhide HI).t q3' (fun b hb e => by rcases e with e | e; exact e; omega)
      have hown2 : w2.ownsRow (w.heap.size + 1) 5 1 (.slice va p vc) p (bytesV (fun i => K (s + i)) p) := ownsRow_keep (unhide HI).own (fun b hb => q3'.block b ((unhide HI).own.lt b hb).2 (fun e => by
        have := ((unhide HI).own.lt b hb).1
        rcases e with e | e <;> omega))
      have he3 : w2.cell? ⟨1, 0, none⟩ = some (.iface 93 (.pointer (some ea))) := by
        rw [World.cell?_of_block (w := w) (t2.block 1 hlt1 h1X)]; exact unhide HE
      have hnews : ∀ ad, (some (⟨w.heap.size, 0, none⟩ : Addr)) = some ad → ∀ (j : Nat) (u : Value), ((List.range k).map fun i => Value.int .u8 (K (s + p + i)))[j]? = some u → w2.cell? (ad.add j) = some u := by
        intro ad e j u hj
        cases e
        rw [add_plain, Nat.zero_add, blk_cell q2]
        have hjk : j < k := by
          rcases Nat.lt_or_ge j k with h | h
          · exact h
          · rw [List.getElem?_eq_none (by simpa using h)] at hj; cases hj
        rw [List.getElem?_toArray, List.getElem?_append_left (by simpa using hjk)]
        exact hj
      have hbig2 : w.heap.size + 1 ≤ w2.heap.size := Nat.le_trans (unhide HI).big q3'.size
      have HQ := hide (And.intro q1 (And.intro q2 (And.intro t2 (And.intro hown2 hnews))))
      have hnl := fun w => run_eql_iface_nil_left (P := Ybad.prog) w 93 (.pointer (some ea)) Ybad.underlying27
      clear q1 q2 q3 q3' t2 hown2 hnews hM hg hcu hM' hg' hmr hna he2 hk
      intro ops1
      repeat (quiet_step (fail))
      refine wpQuiet_nil ?_
      intro m2
      go_upto_region 8 with (at_builtin; refine wpList_append_row rfl (.tmp 26) (.tmp 28) rfl (w.heap.size + 1) p k 5 (.slice va p vc) (bytesV (fun i => K (s + i)) p) ((List.range k).map fun i => Value.int .u8 (K (s + p + i))) rfl (ownsRow_drew (unhide HQ).2.2.2.1) (some ⟨w.heap.size, 0, none⟩) rfl (by intro h; cases h) (by simp) (unhide HQ).2.2.2.2 (by intro v hv; simp only [List.mem_map] at hv; obtain ⟨i, _, rfl⟩ := hv; rfl) (by omega) hbig2 ?_; intro v3 w3 ho3 hg3)
      obtain ⟨q1, q2, t2, hown2, _⟩ := unhide HQ
      have hvb : ∀ b, (Value.slice va p vc).ownBlock = some b → w.heap.size + 1 ≤ b := fun b hb => (hown2.lt b hb).1
      have hkp : ∀ b, b ≤ w.heap.size → w3.heap[b]? = w2.heap[b]? := fun b hb => (unhide hg3).block b (show b < w2.heap.size by omega) (fun e => by have := hvb b e.symm; omega)
      have he4 : w3.cell? ⟨1, 0, none⟩ = some (.iface 93 (.pointer (some ea))) := by rw [World.cell?_of_block (w := w2) (hkp 1 (by omega))]; exact he3
      have hra : Ra w w3 X M s l (p + k) K v3 := by
        refine ⟨?_, ?_, ⟨_, by rw [hkp _ (Nat.le_refl _)]; exact q2, by simp; omega⟩, ?_, ?_⟩
        · rw [bytesV_add]
          have := unhide ho3
          simpa [Nat.add_assoc] using this
        · rw [hkp X (by omega), ← Nat.add_assoc]; exact q1
        · exact TouchOnly.grown (t2.drewN m2) (unhide hg3) (fun b hb hlt => by have := hvb b hb; omega)
        · exact Nat.le_trans hbig2 (unhide hg3).size
      have HRA := hide hra
      clear hra q1 q2 t2 hown2 hvb hkp HQ ho3 hg3 he3
      go_wp2_with fail
      go_roundg (gk - k)
      case measure => omega
      case rel => exact ⟨p + k, q + 1, by omega, by omega, by simp, HRA⟩
    · obtain rfl : p = l := by omega
      refine (sect_end (wr.drewN m) X M s (s + p) p _ _ (unhide HI).x he2).mono ?_
      rintro e w2 ⟨rfl, m3, rfl⟩
      have hes := eq_same ea
      have hbig := (unhide HI).big
      clear hmr hna
      intro ops1
      repeat (quiet_step (fail))
      refine wpQuiet_nil ?_
      intro m2
      go_upto_region 8 with (at_builtin; refine wpList_append_row rfl (.tmp 26) (.tmp 28) rfl (w.heap.size + 1) p 0 5 (.slice va p vc) (bytesV (fun i => K (s + i)) p) [] rfl (ownsRow_drew (unhide HI).own) (some ⟨w.heap.size, 0, none⟩) rfl (by intro h; cases h) rfl (by intro ad e j u hj; simp at hj) (by simp) (by omega) hbig ?_; intro v3 w3 ho3 hg3)
      have hvb : ∀ b, (Value.slice va p vc).ownBlock = some b → w.heap.size + 1 ≤ b := fun b hb => ((unhide HI).own.lt b hb).1
      have hkp : ∀ b, b ≤ w.heap.size → w3.heap[b]? = wr.heap[b]? := fun b hb => (unhide hg3).block b (show b < wr.heap.size by omega) (fun e => by have := hvb b e.symm; omega)
      have he4 : w3.cell? ⟨1, 0, none⟩ = some (.iface 93 (.pointer (some ea))) := by rw [World.cell?_of_block (w := wr) (hkp 1 (by omega))]; exact he2
      have hT : TouchOnly (· = X) w w3 := TouchOnly.grown ((unhide HI).t.drewN _) (unhide hg3) (fun b hb hlt => by have := hvb b hb; omega)
      have HT := hide (And.intro hT (reads_own (n := p) (K := fun i => K (s + i)) (by simpa using unhide ho3)))
      clear hT hvb hkp ho3 hg3 he2
      go_wp2_with fail
      go_ret2
      exact ⟨v3, rfl, (unhide HT).2, (unhide HT).1⟩
end Go.Proofs.YbulkcaqmDoor.Spool
