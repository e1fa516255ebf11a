import Derived.Test.YbulkcaqmDoorBase
import Derived.Test.YbulkcaqmDoorLoud
import Derived.Deep.LoopGhost
import Derived.Maps.AppendAt
import Derived.BigRegion
import Derived.BigQuiet
namespace Go.Proofs.YbulkcaqmDoor.Spool
set_option linter.unusedVariables false
open Go.ChangeShapes Go.WideShapes Go.ChangeAt Go.RowKit Go.Conc Go.Proofs.YbulkcaqmDoor.Base Go.Proofs.YbulkcaqmDoor.Loud

abbrev ptr (b : Nat) : Value := .pointer (some ⟨b, 0, none⟩)
def bytesV (K : Nat → Int) (n : Nat) : List Value := (List.range n).map fun i => .int .u8 (K i)

theorem info5 : (Ybad.prog.info? 5).map (fun i => (i.zero, i.size, i.bytes)) = some (some (.int .u8 0), 1, 1) := by kernel_rfl
theorem info_parts {P : Program} {t : TypeId} {z : Option Value} {s b : Nat} (h : (P.info? t).map (fun i => (i.zero, i.size, i.bytes)) = some (z, s, b)) : ∃ i, P.info? t = some i ∧ i.zero = z ∧ i.size = s ∧ i.bytes = b := by
  obtain ⟨i, hi, he⟩ := Option.map_eq_some_iff.1 h
  simp only [Prod.mk.injEq] at he
  exact ⟨i, hi, he.1, he.2.1, he.2.2⟩
theorem size5 : (Ybad.prog.info? 5).map (·.size) = some 1 := by kernel_rfl

/-- a copy into a row: the row's very cells, all else as it was -/
theorem wpList_copy_touch {P : Program} {w : World} {ops : Array Oper} {rest : List Oper} {o : Oper} {a : Act} {Q : Exit → Act → World → Prop} (hgd : o.guard = none) (d s : Operand) (dT sT : TypeId)
    (ho : o.op = .call { callee := .builtin .copy, args := #[d, s], argTypes := #[dT, sT] }) (elem : TypeId) (hu : P.underlying dT = some (.slice elem)) (hsz : (P.info? elem).map (·.size) = some 1)
    (g off dLen dCap : Nat) (ad : Addr) (sLen sCap : Nat) (hd : a.eval d = .slice (some ⟨g, off, none⟩) dLen dCap) (hs : a.eval s = .slice (some ad) sLen sCap)
    (cur : List Value) (t : TypeId) (hg : w.heap[g]? = some (.cells cur.toArray t (0, 0))) (cs : List Value) (hn : cs.length = Nat.min sLen dLen)
    (hsrc : ∀ j v, cs[j]? = some v → w.cell? (ad.add j) = some v) (hfit : off + cs.length ≤ cur.length) (h1 : ∀ v ∈ cs, v.oneCell' = true)
    (h : ∀ w', Hid (w'.heap[g]? = some (.cells (cur.take off ++ (cs ++ cur.drop (off + cs.length))).toArray t (0, 0))) → Hid (TouchOnly (· = g) w w') → wpList P ops Q rest (a.put o.dst (goInt cs.length)) w') : wpList P ops Q (o :: rest) a w := by
  refine wpList_copy_own hgd d s dT sT ho elem hu hsz g off dLen dCap ad sLen sCap hd hs cur.toArray t hg cs hn hsrc (by simpa using hfit) h1 ?_
  exact h _ (show _ = _ by simpa using setRow_heap w g _ _ t _ hg) (show TouchOnly (fun k => k = g) w _ from TouchOnly.setRow (S := fun k => k = g) (TouchOnly.refl _ _) (fun _ => rfl) _)

theorem touch_and {S T : Nat → Prop} {a b c : World} (h : TouchOnly S a b) (k : TouchOnly T b c) (hs : ∀ i, i < a.heap.size → T i → S i) : TouchOnly S a c :=
  ⟨k.os.trans h.os, k.tape.trans h.tape, k.output.trans h.output, Nat.le_trans h.size k.size, fun i hi hn => (k.block i (Nat.lt_of_lt_of_le hi h.size) (fun t => hn (hs i hi t))).trans (h.block i hi hn)⟩

theorem touch_undrew {S : Nat → Prop} {w w' : World} {m : Nat} (h : TouchOnly S (w.drewN m) w') : TouchOnly S w w' := ⟨h.os, h.tape, h.output, h.size, h.block⟩

def zeros (n : Nat) : List Value := List.replicate n (.int .u8 0)

/-- the loop of WriteAt: k zeros laid -/
structure Wa (w wr : World) (lo M : Nat) (off k : Nat) (K : Nat → Int) (dv dv' : Value) : Prop where
  m : wr.heap[M]? = some (.cells #[dv'] 65 (0, 0))
  own : wr.ownsRow lo 5 1 dv' (off + k) (bytesV K off ++ zeros k)
  t : TouchOnly (fun b => b = M ∨ dv.ownBlock = some b) w wr
  o : ∀ b, dv'.ownBlock = some b → b < w.heap.size → dv.ownBlock = some b
  nn : 0 < k → ¬ dv' = .slice none 0 0

theorem zeros_succ (k : Nat) : zeros (k + 1) = zeros k ++ [.int .u8 0] := by simp [zeros, List.replicate_succ']

theorem own_type {w : World} {lo n : Nat} {v : Value} {xs : List Value} (h : w.ownsRow lo 5 1 v n xs) {b : Nat} (hb : v.ownBlock = some b) : ∃ cs, w.heap[b]? = some (.cells cs 5 (0, 0)) := by
  rcases h.2 with ⟨rfl, _⟩ | ⟨g, cp, cu, rfl, _, hg, _⟩
  · simp [Value.ownBlock] at hb
  · simp [Value.ownBlock] at hb; subst hb; exact ⟨cu, hg⟩

theorem ownsRow_keep {w w' : World} {lo n : Nat} {v : Value} {xs : List Value} (h : w.ownsRow lo 5 1 v n xs) (hk : ∀ b, v.ownBlock = some b → w'.heap[b]? = w.heap[b]?) : w'.ownsRow lo 5 1 v n xs := by
  refine ⟨h.1, ?_⟩
  rcases h.2 with hx | ⟨g, cp, cu, rfl, hg, hh, r⟩
  · exact .inl hx
  · exact .inr ⟨g, cp, cu, rfl, hg, by rw [hk g rfl]; exact hh, r⟩

theorem bytesV_get (K : Nat → Int) (n i : Nat) (h : i < n) : (bytesV K n)[i]? = some (.int .u8 (K i)) := by simp [bytesV, h]
theorem bytesV_len (K : Nat → Int) (n : Nat) : (bytesV K n).length = n := by simp [bytesV]

theorem bytesV_add (K : Nat → Int) (n m : Nat) : bytesV K (n + m) = bytesV K n ++ (List.range m).map fun i => .int .u8 (K (n + i)) := by
  simp [bytesV, List.range_add]

theorem take_zeros {cu : List Value} {K : Nat → Int} {off j : Nat} (h : cu.take (off + j) = bytesV K off ++ zeros j) : cu.take off = bytesV K off := by
  have := congrArg (List.take off) h
  rw [List.take_take, Nat.min_eq_left (by omega), List.take_left' (bytesV_len K off)] at this
  exact this

theorem spliced {cu : List Value} {K : Nat → Int} {off j cp : Nat} (h : cu.take (off + j) = bytesV K off ++ zeros j) (hl : cu.length = cp) (hle : off + j ≤ cp) :
    (cu.take off ++ ((List.range j).map (fun i => Value.int .u8 (K (off + i))) ++ cu.drop (off + ((List.range j).map fun i => Value.int .u8 (K (off + i))).length))).length = cp ∧
    (cu.take off ++ ((List.range j).map (fun i => Value.int .u8 (K (off + i))) ++ cu.drop (off + ((List.range j).map fun i => Value.int .u8 (K (off + i))).length))).take (off + j) = bytesV K (off + j) := by
  rw [take_zeros h, bytesV_add]
  constructor
  · simp [bytesV_len]; omega
  · rw [← List.append_assoc, List.take_left' (by simp [bytesV_len])]

theorem bytesV_one (K : Nat → Int) (n : Nat) : ∀ v ∈ bytesV K n, v.oneCell' = true := by
  intro v hv
  simp only [bytesV, List.mem_map] at hv
  obtain ⟨i, _, rfl⟩ := hv
  rfl

theorem own_slice {w : World} {lo n : Nat} {v : Value} {xs : List Value} (h : w.ownsRow lo 5 1 v n xs) : ∃ a cp, v = .slice a n cp := by
  rcases h.2 with ⟨rfl, rfl⟩ | ⟨g, cp, cu, rfl, _⟩
  · exact ⟨_, _, rfl⟩
  · exact ⟨_, _, rfl⟩

theorem Wa.there {w wr w2 : World} {lo M off k : Nat} {K : Nat → Int} {dv dv' : Value} {o : Obj} (h : Wa w wr lo M off k K dv dv') (hg : (wr.alloc o).grownBy w2 dv'.ownBlock) : w2.heap[M]? = some (.cells #[dv'] 65 (0, 0)) := by
  have hneM : ¬ dv'.ownBlock = some M := fun e => by
    obtain ⟨cs, hc⟩ := own_type h.own e
    exact absurd (blk_type h.m hc) (by decide)
  rw [hg.block M (by rw [size_alloc]; have := blk_lt h.m; omega) (fun e => hneM e.symm)]
  exact blk_new _ h.m

/-- one zero more -/
theorem Wa.step {w wr w2 : World} {lo M off k : Nat} {K : Nat → Int} {dv dv' v2 : Value} {o : Obj} (h : Wa w wr lo M off k K dv dv') (ho : w2.ownsRow lo 5 1 v2 (off + k + 1) (bytesV K off ++ zeros k ++ [.int .u8 0]))
    (hg : (wr.alloc o).grownBy w2 dv'.ownBlock) (hnn : ¬ v2 = .slice none 0 0) (hnew : ∀ b, v2.ownBlock = some b → b < wr.heap.size → dv'.ownBlock = some b) :
    Wa w (w2.setCell ⟨M, 0, none⟩ v2) lo M off (k + 1) K dv v2 := by
  have hm2 : w2.heap[M]? = some (.cells #[dv'] 65 (0, 0)) := h.there hg
  have hne2 : ¬ v2.ownBlock = some M := fun e => by
    obtain ⟨cs, hc⟩ := own_type ho e
    exact absurd (blk_type hm2 hc) (by decide)
  refine ⟨by simpa using blk_set 0 v2 hm2, ?_, ?_, ?_, fun _ => hnn⟩
  · rw [zeros_succ, ← List.append_assoc, ← Nat.add_assoc]
    exact ownsRow_keep ho (fun b hb => Below.heap_setCell _ _ _ _ (fun e => hne2 (by rw [hb]; exact congrArg some e)))
  · exact TouchOnly.setCell (TouchOnly.grown (h.t.alloc o) hg (fun b hb hlt => Or.inr (h.o b hb hlt))) (fun _ => Or.inl rfl) _
  · intro b hb hlt
    exact h.o b (hnew b hb (by have := h.t.size; omega)) hlt

set_option maxRecDepth 100000 in
set_option maxHeartbeats 1000000 in
theorem writeAt (lo M B n cap off : Nat) (K : Nat → Int) (dv : Value) (w : World) (cs : List Value) (hM : w.heap[M]? = some (.cells #[dv] 65 (0, 0))) (hB : w.heap[B]? = some (.cells cs.toArray 5 (0, 0)))
    (hcs : ∀ i, i < n → cs[i]? = some (.int .u8 (K (off + i)))) (hown : w.ownsRow lo 5 1 dv off (bytesV K off)) (hlo : lo ≤ w.heap.size) (hBd : ¬ dv.ownBlock = some B) (hb : off + n ≤ 100000) (hn : 0 < n) :
    Calls Ybad.prog 93 #[ptr M, .slice (some ⟨B, 0, none⟩) n cap, .int .i64 off] w fun e w' => e = .returned (.tuple #[.int .i64 n, .nilIface]) ∧ ∃ dv', w'.heap[M]? = some (.cells #[dv'] 65 (0, 0)) ∧
      w'.ownsRow lo 5 1 dv' (off + n) (bytesV K (off + n)) ∧ TouchOnly (fun k => k = M ∨ dv.ownBlock = some k) w w' ∧ (∀ k, dv'.ownBlock = some k → k < w.heap.size → dv.ownBlock = some k) := by
  obtain ⟨i5, hi5, hz0, hz1, hz2⟩ := info_parts info5
  have HM := hide hM
  have HB := hide hB
  have HO := hide hown
  have HD := hide hBd
  have HC := hide hcs
  clear hM hB hown hBd hcs
  have n1 : ¬ (off : Int) < 0 := by omega
  have n2 : ¬ (off : Int) > 1048576 := by omega
  go_enter Ybad.func93, Ybad.ntmps93
  go_wp2_with fail
  go_loopg [] n (fun k wr => ∃ j dv', k + j = n ∧ Hid (Wa w wr lo M off j K dv dv'))
  case atStart => exact ⟨0, dv, by omega, ⟨unhide HM, by simpa [zeros] using unhide HO, TouchOnly.refl _ _, fun _ h _ => h, by omega⟩⟩
  case round =>
    obtain ⟨j, dv', hj, HI⟩ := hrel
    obtain ⟨a', cp, hdv⟩ := own_slice (unhide HI).own
    have hc := blk_cell (unhide HI).m 0
    have hf := blk_free (unhide HI).m 0
    simp only [List.getElem?_toArray, List.getElem?_cons_zero] at hc
    by_cases hjn : j < n
    · have hlt : ((off + j : Nat) : Int) < (off : Int) + (n : Int) := by omega
      subst hdv
      have HS := hide (Nat.lt_of_lt_of_le (Nat.lt_of_lt_of_le (blk_lt (unhide HM)) (unhide HI).t.size) (Nat.le_refl _))
      have hbig : lo ≤ wr.heap.size := Nat.le_trans hlo (unhide HI).t.size
      go_wp2_with (at_builtin; refine wpList_append_own_at _ rfl (.tmp 31) (.tmp 32) 45 rfl lo 5 i5 (.int .u8 0) 1 1 Ybad.underlying45 hi5 hz0 hz1 hz2 rfl (by decide) (.slice a' (off + j) cp) (off + j) (bytesV K off ++ zeros j) rfl ((unhide HI).own.alloc _) ⟨wr.heap.size, 0, none⟩ 1 1 [.int .u8 0] rfl rfl (by intro q u hq; cases q with | zero => simp at hq; subst hq; simp [Addr.add] | succ q => simp at hq) (by intro u hu; simp at hu; subst hu; rfl) (by unfold maxLen; omega) (by omega) (by simp; omega) ?_; intro v2 w2 ho2 hg2 hiff hat; obtain ⟨a2, cp2, rfl⟩ := own_slice ho2; have hf2 := blk_free ((unhide HI).there hg2) 0; have hc2 := blk_cell ((unhide HI).there hg2) 0; simp only [List.getElem?_toArray, List.getElem?_cons_zero] at hc2; have HO2 := hide ho2; have HG2 := hide hg2; have HI2 := hide hiff; have HA2 := hide hat; clear ho2 hg2 hiff hat)
      go_roundg (gk - 1)
      case measure => omega
      case rel =>
        refine ⟨j + 1, _, by omega, (unhide HI).step (unhide HO2) (unhide HG2) (fun e => by have := ((unhide HI2).1 e).2; omega) (fun b hb hlt => ?_)⟩
        rcases unhide HA2 with h | h
        · rw [← h]; exact hb
        · rw [h] at hb; simp at hb; omega
    · obtain rfl : j = n := by omega
      obtain ⟨g, cu, hg, hgl, hv, hcl, htk, hle, hmx⟩ : ∃ (g : Nat) (cu : List Value), wr.heap[g]? = some (.cells cu.toArray 5 (0, 0)) ∧ lo ≤ g ∧ dv' = .slice (some ⟨g, 0, none⟩) (off + j) cp ∧ cu.length = cp ∧ cu.take (off + j) = bytesV K off ++ zeros j ∧ off + j ≤ cp ∧ cp ≤ maxLen := by
        rcases (unhide HI).own.2 with ⟨h, _⟩ | ⟨g, cp', cu, h, hl, hg, hc1, hc2, hc3, hc4⟩
        · exact absurd h ((unhide HI).nn hn)
        · rw [hdv] at h
          simp only [Value.slice.injEq] at h
          obtain ⟨rfl, _, rfl⟩ := h
          exact ⟨g, cu.toList, by simpa using hg, hl, hdv, by simpa using hc3, by simpa using hc4, hc1, hc2⟩
      subst hv
      have HG := hide hg
      have HT := hide htk
      have hlt : ¬ ((off + j : Nat) : Int) < (off : Int) + (j : Int) := by omega
      have hBg : wr.heap[B]? = some (.cells cs.toArray 5 (0, 0)) := by
        refine (unhide HI).t.keep (unhide HB) ?_
        rintro (rfl | h)
        · exact absurd (blk_type (unhide HM) (unhide HB)) (by decide)
        · exact unhide HD h
      have hne : ¬ B = g := fun e => by
        subst e
        exact unhide HD ((unhide HI).o B rfl (blk_lt (unhide HB)))
      have hsrc : ∀ (q : Nat) (v : Value), ((List.range j).map fun i => Value.int .u8 (K (off + i)))[q]? = some v → wr.cell? ((⟨B, 0, none⟩ : Addr).add q) = some v := by
        intro q v hq
        rw [add_plain, Nat.zero_add, blk_cell hBg]
        have hqj : q < j := by
          rcases Nat.lt_or_ge q j with h | h
          · exact h
          · rw [List.getElem?_eq_none (by simpa using h)] at hq; cases hq
        simp [hqj] at hq
        subst hq
        simpa using unhide HC q hqj
      have HSRC := hide hsrc
      have hcpo : ¬ cp = off := by omega
      clear hg htk hsrc hBg
      go_wp2_with (refine wpList_copy_touch rfl (.tmp 41) (.tmp 42) 45 45 rfl 5 Ybad.underlying45 size5 g off j (cp - off) ⟨B, 0, none⟩ j cap rfl rfl cu 5 (unhide HG) ((List.range j).map fun i => Value.int .u8 (K (off + i))) (by simp) (unhide HSRC) (by simp; omega) (by intro v hv; simp only [List.mem_map] at hv; obtain ⟨i, _, rfl⟩ := hv; rfl) ?_; intro w2 hw2 ht2)
      go_ret2
      obtain ⟨s1, s2⟩ := spliced (unhide HT) hcl hle
      have hgM : ¬ M = g := blk_ne (unhide HI).m (unhide HG) (by decide)
      refine ⟨by simp, .slice (some ⟨g, 0, none⟩) (off + j) cp, (unhide ht2).keep (unhide HI).m hgM, ⟨by simp [bytesV_len], .inr ⟨g, cp, _, rfl, hgl, unhide hw2, hle, hmx, by simpa using s1, by simpa using s2⟩⟩, ?_, ?_⟩
      · exact touch_and (unhide HI).t (unhide ht2) (fun b hb e => by subst e; exact Or.inr ((unhide HI).o b rfl hb))
      · exact (unhide HI).o

/-- the memory that the spool goes through: M the spool, C its writer, B the buffer's row, W the buffer; dv what the spool holds -/
structure St (w : World) (lo M C B W cap off n : Nat) (K : Nat → Int) (dv : Value) : Prop where
  m : w.heap[M]? = some (.cells #[dv] 65 (0, 0))
  c : w.heap[C]? = some (.cells #[ptr M, .int .i64 off] 81 (0, 0))
  wr : w.heap[W]? = some (.cells #[.nilIface, .slice (some ⟨B, 0, none⟩) cap cap, .int .i64 n, .iface 79 (ptr C)] 89 (0, 0))
  b : ∃ cs : List Value, w.heap[B]? = some (.cells cs.toArray 5 (0, 0)) ∧ cs.length = cap ∧ ∀ i, i < n → cs[i]? = some (.int .u8 (K (off + i)))
  own : w.ownsRow lo 5 1 dv off (bytesV K off)
  nb : ¬ dv.ownBlock = some B
  nc : n ≤ cap
  c1 : 0 < cap
  c2 : cap ≤ 32
  lo1 : lo ≤ w.heap.size

/-- what a step touches -/
structure Mv (M C B W R : Nat) (dv dv' : Value) (w w' : World) : Prop where
  t : TouchOnly (fun k => k = M ∨ k = C ∨ k = B ∨ k = W ∨ k = R ∨ dv.ownBlock = some k) w w'
  o : ∀ k, dv'.ownBlock = some k → k < w.heap.size → dv.ownBlock = some k

theorem Mv.trans {M C B W R : Nat} {d0 d1 d2 : Value} {w0 w1 w2 : World} (h : Mv M C B W R d0 d1 w0 w1) (k : Mv M C B W R d1 d2 w1 w2) : Mv M C B W R d0 d2 w0 w2 :=
  ⟨touch_and h.t k.t (fun i hi hT => by
    rcases hT with h1 | h1 | h1 | h1 | h1 | h1
    · exact .inl h1
    · exact .inr (.inl h1)
    · exact .inr (.inr (.inl h1))
    · exact .inr (.inr (.inr (.inl h1)))
    · exact .inr (.inr (.inr (.inr (.inl h1))))
    · exact .inr (.inr (.inr (.inr (.inr (h.o i h1 hi)))))), fun b hb hlt => h.o b (k.o b hb (by have := h.t.size; omega)) hlt⟩

theorem Mv.drew {M C B W R : Nat} {d0 d1 : Value} {w0 w1 : World} (h : Mv M C B W R d0 d1 w0 w1) (n : Nat) : Mv M C B W R d0 d1 w0 (w1.drewN n) := ⟨h.t.drewN n, h.o⟩

theorem ownsRow_drew {w : World} {lo n m : Nat} {v : Value} {xs : List Value} (h : w.ownsRow lo 5 1 v n xs) : (w.drewN m).ownsRow lo 5 1 v n xs := h
theorem St.drew {w : World} {lo M C B W cap off n : Nat} {K : Nat → Int} {dv : Value} (h : St w lo M C B W cap off n K dv) (q : Nat) : St (w.drewN q) lo M C B W cap off n K dv :=
  ⟨h.m, h.c, h.wr, h.b, h.own, h.nb, h.nc, h.c1, h.c2, h.lo1⟩

set_option maxRecDepth 100000 in
set_option maxHeartbeats 1000000 in
theorem catWrite (lo M C B W cap cap' off n : Nat) (K : Nat → Int) (dv : Value) (w : World) (h : St w lo M C B W cap off n K dv) (hb : off + n ≤ 100000) (hn : 0 < n) :
    Calls Ybad.prog 92 #[ptr C, .slice (some ⟨B, 0, none⟩) n cap'] w fun e w' => e = .returned (.tuple #[.int .i64 n, .nilIface]) ∧ ∃ dv', w'.heap[M]? = some (.cells #[dv'] 65 (0, 0)) ∧
      w'.heap[C]? = some (.cells #[ptr M, .int .i64 ((off + n : Nat) : Int)] 81 (0, 0)) ∧ w'.ownsRow lo 5 1 dv' (off + n) (bytesV K (off + n)) ∧ TouchOnly (fun k => k = M ∨ k = C ∨ dv.ownBlock = some k) w w' ∧ (∀ k, dv'.ownBlock = some k → k < w.heap.size → dv.ownBlock = some k) := by
  obtain ⟨cs, hB, hcl, hcs⟩ := h.b
  have c0 := blk_cell h.c 0
  have c1 := blk_cell h.c 1
  have HS := hide h
  have HB := hide hB
  have HC := hide hcs
  clear h hB hcs
  simp only [List.getElem?_toArray, List.getElem?_cons_zero, List.getElem?_cons_succ] at c0 c1
  go_enter Ybad.func92, Ybad.ntmps92
  go_upto_region 1 with fail
  refine wp_region_loud 9 _ (by kernel_rfl) (by decide) rfl (by kernel_rfl) (by kernel_rfl) (by kernel_rfl) (by kernel_rfl) (fun ops0 => ?_)
  simp only [List.take, List.drop]
  repeat (quiet_step (fail))
  refine wpQuiet_nil ?_
  intro m
  go_wp2_with fail
  refine (writeAt lo M B n cap' off K dv (w.drewN m) cs (unhide HS).m (unhide HB) (unhide HC) (unhide HS).own (unhide HS).lo1 (unhide HS).nb hb hn).mono ?_
  rintro e w1 ⟨rfl, dv', q1, q2, q3, q4⟩
  have q3' := touch_undrew q3
  have qc : w1.heap[C]? = some (.cells #[ptr M, .int .i64 off] 81 (0, 0)) := by
    refine q3'.keep (unhide HS).c ?_
    rintro (e | e)
    · exact blk_ne (unhide HS).c (unhide HS).m (by decide) e
    · obtain ⟨cs', hc⟩ := own_type (unhide HS).own e
      exact absurd (blk_type (unhide HS).c hc) (by decide)
  have d1 := blk_cell qc 1
  have d2 := blk_free qc 1
  simp only [List.getElem?_toArray, List.getElem?_cons_zero, List.getElem?_cons_succ] at d1
  have HQ := hide (And.intro q1 (And.intro q2 (And.intro q3' (And.intro q4 qc))))
  clear q1 q2 q3 q3' q4 qc c0 c1
  intro ops1
  repeat (quiet_step (fail))
  refine wpQuiet_nil ?_
  intro m2
  go_wp2_with fail
  go_ret2
  obtain ⟨q1, q2, q3, q4, qc⟩ := unhide HQ
  have hCM : ¬ M = C := blk_ne q1 qc (by decide)
  refine ⟨rfl, dv', blk_oth 1 _ hCM q1, ?_, ?_, TouchOnly.setCell (TouchOnly.drewN (q3.mono ?_) _) (fun _ => .inr (.inl rfl)) _, q4⟩
  · have := blk_set (w := w1.drewN m2) 1 (.int .i64 (↑off + ↑n)) qc
    simpa using this
  · refine ownsRow_keep q2 (fun b hb => Below.heap_setCell _ _ _ _ (fun e => ?_))
    obtain ⟨cs', hc⟩ := own_type q2 hb
    rw [e] at hc
    exact absurd (blk_type qc hc) (by decide)
  · rintro k _ (h | h)
    · exact .inl h
    · exact .inr (.inr h)

theorem avail (w : World) (B W cap n : Nat) (e1 e2 : Value) (hw : w.heap[W]? = some (.cells #[e1, .slice (some ⟨B, 0, none⟩) cap cap, .int .i64 n, e2] 89 (0, 0))) (h1 : n ≤ cap) (h2 : cap ≤ 32) :
    Calls Ybad.prog 36 #[ptr W] w fun e w' => e = .returned (.int .i64 ((cap - n : Nat) : Int)) ∧ ∃ m, w' = w.drewN m := by
  have c1 := blk_cell hw 1
  have c2 := blk_cell hw 2
  have HW := hide hw
  clear hw
  simp only [List.getElem?_toArray, List.getElem?_cons_zero, List.getElem?_cons_succ] at c1 c2
  go_enter Ybad.func36, Ybad.ntmps36
  go_upto_region 1 with fail
  go_quiet (fail)
  go_wp2
  go_ret
  refine ⟨?_, _, rfl⟩
  have : (cap : Int) - n = ((cap - n : Nat) : Int) := by omega
  simp [this]

theorem m79 (a : Option Addr) (w : World) : (method 314 79 (.pointer a) "Write").run Ybad.prog w = .ok (92, .pointer a) w := by kernel_rfl
theorem m55 (a : Option Addr) (w : World) : (method 314 55 (.pointer a) "Read").run Ybad.prog w = .ok (84, .pointer a) w := by kernel_rfl
theorem m47 (a : Option Addr) (w : World) : (method 314 47 (.pointer a) "ReadAt").run Ybad.prog w = .ok (83, .pointer a) w := by kernel_rfl
theorem m84 (a : Option Addr) (w : World) : (method 314 84 (.pointer a) "Read").run Ybad.prog w = .ok (94, .pointer a) w := by kernel_rfl

set_option maxRecDepth 100000 in
set_option maxHeartbeats 1000000 in
theorem flush_some (lo M C B W cap off n : Nat) (K : Nat → Int) (dv : Value) (w : World) (h : St w lo M C B W cap off n K dv) (hb : off + n ≤ 100000) (hn : 0 < n) :
    Calls Ybad.prog 14 #[ptr W] w fun e w' => e = .returned .nilIface ∧ ∃ dv', St w' lo M C B W cap (off + n) 0 K dv' ∧ Mv M C B W M dv dv' w w' := by
  have c0 := blk_cell h.wr 0
  have c1 := blk_cell h.wr 1
  have c2 := blk_cell h.wr 2
  have c3 := blk_cell h.wr 3
  have hcap := h.nc
  have HS := hide h
  clear h
  simp only [List.getElem?_toArray, List.getElem?_cons_zero, List.getElem?_cons_succ] at c0 c1 c2 c3
  have hn0 : ¬ (n : Int) = 0 := by omega
  go_enter Ybad.func14, Ybad.ntmps14
  go_upto_region 5 with fail
  refine wp_region_loud 15 _ (by kernel_rfl) (by decide) rfl (by kernel_rfl) (by kernel_rfl) (by kernel_rfl) (by kernel_rfl) (fun ops0 => ?_)
  simp only [List.take, List.drop]
  repeat (quiet_step (fail))
  refine wpQuiet_nil ?_
  intro m
  have hm := m79 (some ⟨C, 0, none⟩)
  go_wp2_with fail
  refine (catWrite lo M C B W cap cap off n K dv (w.drewN m) ((unhide HS).drew m) hb hn).mono ?_
  rintro e w1 ⟨rfl, dv', q1, q2, q3, q4, q5⟩
  have q4' := touch_undrew q4
  have hown : ∀ (b : Nat) (cs : Array Value) (t : Nat), w.heap[b]? = some (.cells cs t (0, 0)) → ¬ t = 5 → ¬ dv.ownBlock = some b := fun b cs t hb ht e => by
    obtain ⟨cs', hc⟩ := own_type (unhide HS).own e
    exact ht (blk_type hb hc)
  have qw : w1.heap[W]? = some (.cells #[.nilIface, .slice (some ⟨B, 0, none⟩) cap cap, .int .i64 n, .iface 79 (ptr C)] 89 (0, 0)) := by
    refine q4'.keep (unhide HS).wr ?_
    rintro (e | e | e)
    · exact blk_ne (unhide HS).wr (unhide HS).m (by decide) e
    · exact blk_ne (unhide HS).wr (unhide HS).c (by decide) e
    · exact hown _ _ _ (unhide HS).wr (by decide) e
  obtain ⟨cs, hB, hcl, hcs⟩ := (unhide HS).b
  have qb : w1.heap[B]? = some (.cells cs.toArray 5 (0, 0)) := by
    refine q4'.keep hB ?_
    rintro (e | e | e)
    · exact blk_ne hB (unhide HS).m (by decide) e
    · exact blk_ne hB (unhide HS).c (by decide) e
    · exact (unhide HS).nb e
  have d2 := blk_cell qw 2
  have d3 := blk_free qw 2
  simp only [List.getElem?_toArray, List.getElem?_cons_zero, List.getElem?_cons_succ] at d2
  have HQ := hide (And.intro q1 (And.intro q2 (And.intro q3 (And.intro q4' (And.intro q5 (And.intro qw qb))))))
  clear q1 q2 q3 q4 q4' q5 qw qb hown hB hcs c0 c1 c2 c3 hm
  intro ops1
  repeat (quiet_step (fail))
  refine wpQuiet_nil ?_
  intro m2
  go_wp2_with fail
  go_ret
  obtain ⟨q1, q2, q3, q4, q5, qw, qb⟩ := unhide HQ
  have hWM : ¬ M = W := blk_ne q1 qw (by decide)
  have hWC : ¬ C = W := blk_ne q2 qw (by decide)
  have hWB : ¬ B = W := blk_ne qb qw (by decide)
  have hWD : ∀ b, dv'.ownBlock = some b → ¬ b = W := fun b hb e => by
    obtain ⟨cs', hc⟩ := own_type q3 hb
    exact blk_ne hc qw (by decide) e
  refine ⟨rfl, dv', ⟨blk_oth 2 _ hWM q1, blk_oth 2 _ hWC q2, ?_, ⟨cs, blk_oth 2 _ hWB qb, hcl, fun i hi => by omega⟩, ?_, ?_, by omega, (unhide HS).c1, (unhide HS).c2, ?_⟩, ?_, q5⟩
  · have := blk_set (w := w1.drewN m2) 2 (.int .i64 0) qw
    simpa using this
  · exact ownsRow_keep q3 (fun b hb => Below.heap_setCell _ _ _ _ (hWD b hb))
  · intro e
    have hBl : B < w.heap.size := by obtain ⟨cs, hB, _⟩ := (unhide HS).b; exact blk_lt hB
    exact (unhide HS).nb (q5 B e hBl)
  · rw [size_setCell]
    exact Nat.le_trans (unhide HS).lo1 q4.size
  · refine TouchOnly.setCell (TouchOnly.drewN (q4.mono ?_) _) (fun _ => .inr (.inr (.inr (.inl rfl)))) _
    rintro k _ (h | h | h)
    · exact .inl h
    · exact .inr (.inl h)
    · exact .inr (.inr (.inr (.inr (.inr h))))

theorem flush_any (lo M C B W cap off n : Nat) (K : Nat → Int) (dv : Value) (w : World) (h : St w lo M C B W cap off n K dv) (hb : off + n ≤ 100000) :
    Calls Ybad.prog 14 #[ptr W] w fun e w' => e = .returned .nilIface ∧ ∃ dv', St w' lo M C B W cap (off + n) 0 K dv' ∧ Mv M C B W M dv dv' w w' := by
  by_cases hn : 0 < n
  · exact flush_some lo M C B W cap off n K dv w h hb hn
  · obtain rfl : n = 0 := by omega
    have c0 := blk_cell h.wr 0
    have c2 := blk_cell h.wr 2
    have HS := hide h
    clear h
    simp only [List.getElem?_toArray, List.getElem?_cons_zero, List.getElem?_cons_succ] at c0 c2
    go_enter Ybad.func14, Ybad.ntmps14
    go_wp2
    go_ret
    exact ⟨rfl, dv, unhide HS, TouchOnly.refl _ _, fun _ h _ => h⟩
end Go.Proofs.YbulkcaqmDoor.Spool
