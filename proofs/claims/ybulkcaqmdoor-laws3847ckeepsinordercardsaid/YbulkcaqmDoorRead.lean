import Derived.Test.YbulkcaqmDoorSpool
import Derived.Deep.Slices
namespace Go.Proofs.YbulkcaqmDoor.Spool
set_option linter.unusedVariables false
open Go.ChangeShapes Go.WideShapes Go.ChangeAt Go.RowKit Go.Conc Go.Proofs.YbulkcaqmDoor.Base Go.Proofs.YbulkcaqmDoor.Loud

theorem wp_copy_touch {P : Program} {w : World} {o : Oper} {a : Act} {K : Act → World → Prop} {Q : Exit → Act → World → Prop} (d s : Operand) (dT sT : TypeId)
    (ho : o.op = .call { callee := .builtin .copy, args := #[d, s], argTypes := #[dT, sT] }) (elem : TypeId) (hu : P.underlying dT = some (.slice elem)) (hsz : (P.info? elem).map (·.size) = some 1)
    (g off dLen dCap : Nat) (ad : Addr) (sLen sCap : Nat) (hd : a.eval d = .slice (some ⟨g, off, none⟩) dLen dCap) (hs : a.eval s = .slice (some ad) sLen sCap)
    (cur : List Value) (t : TypeId) (hg : w.heap[g]? = some (.cells cur.toArray t (0, 0))) (cs : List Value) (hn : cs.length = Nat.min sLen dLen)
    (hsrc : ∀ j v, cs[j]? = some v → w.cell? (ad.add j) = some v) (hfit : off + cs.length ≤ cur.length) (h1 : ∀ v ∈ cs, v.oneCell' = true)
    (h : ∀ w', Hid (w'.heap[g]? = some (.cells (cur.take off ++ (cs ++ cur.drop (off + cs.length))).toArray t (0, 0))) → Hid (TouchOnly (· = g) w w') → K (a.put o.dst (goInt cs.length)) w') : o.wp P a w K Q := by
  have hrun := run_copy_row (P := P) w dT sT o.type elem g off dLen dCap ad sLen sCap cur.toArray t cs hu hsz hg hn hsrc (by simpa using hfit) h1
  unfold Oper.wp
  simp [execOp, ho, resolve, invoke, builtin, hd, hs, hrun, Result.andThen]
  exact h _ (show _ = _ by simpa using setRow_heap w g _ _ t _ hg) (show TouchOnly (fun k => k = g) w _ from TouchOnly.setRow (S := fun k => k = g) (TouchOnly.refl _ _) (fun _ => rfl) _)

/-- the cells of a reader -/
def rcells (a : Option Addr) (len cap pos c : Nat) (fail : Value) : Array Value := #[.slice a len cap, .int .i64 pos, .int .i64 c, fail]

/-- the reader is at its end: it hands out fail, or io.EOF -/
theorem read_end_eof (w : World) (R : Nat) (a : Option Addr) (len cap pos c : Nat) (p eof : Value) (hR : w.heap[R]? = some (.cells (rcells a len cap pos c .nilIface) 57 (0, 0))) (hp : len ≤ pos) (hl : len ≤ 8192) (hps : pos ≤ 8192)
    (he : w.cell? ⟨1, 0, none⟩ = some eof) :
    Calls Ybad.prog 84 #[ptr R, p] w fun e w' => e = .returned (.tuple #[.int .i64 0, eof]) ∧ ∃ m, w' = w.drewN m := by
  have c0 := blk_cell hR 0
  have c1 := blk_cell hR 1
  have c3 := blk_cell hR 3
  clear hR
  simp only [rcells, List.getElem?_toArray, List.getElem?_cons_zero, List.getElem?_cons_succ] at c0 c1 c3
  have hge : (len : Int) ≤ (pos : Int) := by omega
  go_enter Ybad.func84, Ybad.ntmps84
  go_upto_region 1 with fail
  go_quiet (fail)
  go_upto_region 4 with fail
  go_quiet (fail)
  go_wp2
  go_ret2
  exact ⟨rfl, _, World.drewN_drewN _ _ _⟩

theorem read_end_fail (w : World) (R : Nat) (a : Option Addr) (len cap pos c : Nat) (p x : Value) (ft : TypeId) (hR : w.heap[R]? = some (.cells (rcells a len cap pos c (.iface ft x)) 57 (0, 0))) (hp : len ≤ pos) (hl : len ≤ 8192) (hps : pos ≤ 8192) :
    Calls Ybad.prog 84 #[ptr R, p] w fun e w' => e = .returned (.tuple #[.int .i64 0, .iface ft x]) ∧ ∃ m, w' = w.drewN m := by
  have c0 := blk_cell hR 0
  have c1 := blk_cell hR 1
  have c3 := blk_cell hR 3
  clear hR
  simp only [rcells, List.getElem?_toArray, List.getElem?_cons_zero, List.getElem?_cons_succ] at c0 c1 c3
  have hge : (len : Int) ≤ (pos : Int) := by omega
  go_enter Ybad.func84, Ybad.ntmps84
  go_upto_region 1 with fail
  go_quiet (fail)
  go_upto_region 3 with fail
  go_quiet (fail)
  go_wp2
  go_ret2
  exact ⟨rfl, _, World.drewN_drewN _ _ _⟩

set_option maxRecDepth 100000 in
set_option maxHeartbeats 1000000 in
/-- the reader has more: k bytes go over -/
theorem read_more (w : World) (R B : Nat) (sb so : Nat) (len cap pos c po pl pc : Nat) (fail : Value) (K : Nat → Int) (cs : List Value) (hR : w.heap[R]? = some (.cells (rcells (some ⟨sb, so, none⟩) len cap pos c fail) 57 (0, 0))) (hB : w.heap[B]? = some (.cells cs.toArray 5 (0, 0)))
    (hsrc : ∀ i, i < len → w.cell? ⟨sb, so + i, none⟩ = some (.int .u8 (K i))) (hp : pos < len) (hl : len ≤ 8192) (hlc : len ≤ cap) (hc1 : 0 < c) (hc2 : c ≤ 8) (hpl : 0 < pl) (hpl2 : pl ≤ 32) (hfit : po + pl ≤ cs.length) (k : Nat) (hk : k = min (min c pl) (len - pos)) :
    Calls Ybad.prog 84 #[ptr R, .slice (some ⟨B, po, none⟩) pl pc] w fun e w' => e = .returned (.tuple #[.int .i64 k, .nilIface]) ∧
      w'.heap[R]? = some (.cells (rcells (some ⟨sb, so, none⟩) len cap (pos + k) c fail) 57 (0, 0)) ∧
      w'.heap[B]? = some (.cells (cs.take po ++ ((List.range k).map (fun i => Value.int .u8 (K (pos + i))) ++ cs.drop (po + k))).toArray 5 (0, 0)) ∧ TouchOnly (fun b => b = R ∨ b = B) w w' := by
  have c0 := blk_cell hR 0
  have c1 := blk_cell hR 1
  have c2 := blk_cell hR 2
  have HR := hide hR
  have HB := hide hB
  have HS := hide hsrc
  clear hR hB hsrc
  simp only [rcells, List.getElem?_toArray, List.getElem?_cons_zero, List.getElem?_cons_succ] at c0 c1 c2
  have hge : ¬ (len : Int) ≤ (pos : Int) := by omega
  have hk0 : 0 < k := by omega
  have hkl : k ≤ pl := by omega
  have hkp : pos + k ≤ len := by omega
  have hkp' : (pos : Int) + (k : Int) ≤ (len : Int) := by omega
  have hkc : (pos : Int) + (k : Int) ≤ (cap : Int) := by omega
  have hsub : pos + k - pos = k := by omega
  have hlo : (pos : Int) ≤ (pos : Int) + (k : Int) := by omega
  have hwr : IntKind.i64.wrap ((pos : Int) + (k : Int)) = (pos : Int) + (k : Int) := IntWalk.i64_in _ (by omega)
  have htn : ((pos : Int) + (k : Int)).toNat = pos + k := by omega
  have hcell : ∀ (q : Nat) (v : Value), ((List.range k).map fun i => Value.int .u8 (K (pos + i)))[q]? = some v → w.cell? ((⟨sb, so + pos, none⟩ : Addr).add q) = some v := by
    intro q v hq
    have hqk : q < k := by
      rcases Nat.lt_or_ge q k with h | h
      · exact h
      · rw [List.getElem?_eq_none (by simpa using h)] at hq; cases hq
    simp [hqk] at hq
    subst hq
    rw [add_plain, Nat.add_assoc]
    exact unhide HS (pos + q) (by omega)
  have HC := hide hcell
  have hcp : ¬ cap = pos := by omega
  have HK := hide hk
  clear hcell
  go_enter Ybad.func84, Ybad.ntmps84
  go_upto_region 1 with fail
  go_quiet (fail)
  by_cases h1 : pl < c <;> by_cases h2 : len - pos < min c pl
  all_goals
    first
    | (have h1' : (pl : Int) < c := by omega
       have h2' : (len : Int) - pos < pl := by omega
       have e : (len : Int) - pos = k := by omega
       clear hk
       go_upto_region 8 with fail
       go_quiet (fail)
       go_upto_region 9 with fail
       go_quiet (fail))
    | (have h1' : (pl : Int) < c := by omega
       have h2' : ¬ (len : Int) - pos < pl := by omega
       obtain rfl : k = pl := by omega
       clear hk
       go_upto_region 8 with fail
       go_quiet (fail))
    | (have h1' : ¬ (pl : Int) < c := by omega
       have h2' : (len : Int) - pos < c := by omega
       have e : (len : Int) - pos = k := by omega
       clear hk
       go_upto_region 8 with fail
       go_quiet (fail)
       go_upto_region 9 with fail
       go_quiet (fail))
    | (have h1' : ¬ (pl : Int) < c := by omega
       have h2' : ¬ (len : Int) - pos < c := by omega
       obtain rfl : k = c := by omega
       clear hk
       go_upto_region 8 with fail
       go_quiet (fail))
  all_goals
    go_upto_region 10 with fail
    refine wp_region_loud 16 _ (by kernel_rfl) (by decide) rfl (by kernel_rfl) (by kernel_rfl) (by kernel_rfl) (by kernel_rfl) (fun ops0 => ?_)
    simp only [List.take, List.drop]
    repeat (quiet_step (fail))
    refine wpQuiet_nil ?_
    intro m
    refine wp_copy_touch (.tmp 60) (.tmp 75) 45 45 rfl 5 Ybad.underlying45 size5 B po _ pc ⟨sb, so + pos, none⟩ _ (cap - pos) rfl rfl cs 5 (unhide HB) _ ?_ (unhide HC) ?_ (by intro v hv; simp only [List.mem_map] at hv; obtain ⟨i, _, rfl⟩ := hv; rfl) ?_
    · rw [List.length_map, List.length_range]
      exact (Nat.min_eq_left hkl).symm
    · simp
      omega
    intro w2 hw2 ht2
    have hR2 := (unhide ht2).keep (unhide HR) (blk_ne (unhide HR) (unhide HB) (by decide))
    have d1 := blk_cell hR2 1
    have d2 := blk_free hR2 1
    simp only [rcells, List.getElem?_toArray, List.getElem?_cons_zero, List.getElem?_cons_succ] at d1
    have HR2 := hide hR2
    clear hR2 c0 c1 c2
    intro ops1
    repeat (quiet_step (fail))
    refine wpQuiet_nil ?_
    intro m2
    go_wp2_with fail
    go_ret2
    have hBR : ¬ B = R := blk_ne (unhide HB) (unhide HR) (by decide)
    have ht2' : TouchOnly (fun b => b = R ∨ b = B) w w2 := ⟨(unhide ht2).os, (unhide ht2).tape, (unhide ht2).output, (unhide ht2).size, fun b hb hn => (unhide ht2).block b hb (fun e => hn (Or.inr e))⟩
    refine ⟨by first | rfl | simp [goInt], ?_, ?_, TouchOnly.setCell (TouchOnly.drewN ht2' _) (fun _ => Or.inl rfl) _⟩
    · have := blk_set (w := w2.drewN m2) 1 (.int .i64 (↑pos + ↑k)) (unhide HR2)
      simpa [rcells] using this
    · have := blk_oth (w := w2.drewN m2) 1 (.int .i64 (↑pos + ↑k)) hBR (unhide hw2)
      simpa using this
end Go.Proofs.YbulkcaqmDoor.Spool
