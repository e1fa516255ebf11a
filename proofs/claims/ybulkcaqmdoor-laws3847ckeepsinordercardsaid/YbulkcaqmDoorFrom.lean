import Derived.Test.YbulkcaqmDoorRead
import Derived.LaidEql
import Derived.Control
namespace Go.Proofs.YbulkcaqmDoor.Spool
set_option linter.unusedVariables false
open Go.ChangeShapes Go.WideShapes Go.ChangeAt Go.RowKit Go.Conc Go.Proofs.YbulkcaqmDoor.Base Go.Proofs.YbulkcaqmDoor.Loud

theorem comp93 : (Ybad.prog.info? 93).map (·.comparable) = some true := by kernel_rfl

structure Lows (lo M C B W R : Nat) : Prop where
  m : lo ≤ M
  c : lo ≤ C
  b : lo ≤ B
  w : lo ≤ W
  r : lo ≤ R

theorem Mv.low {lo M C B W R n : Nat} {xs : List Value} {dv dv' : Value} {w w' : World} (h : Mv M C B W R dv dv' w w') (hl : Lows lo M C B W R) (ho : w.ownsRow lo 5 1 dv n xs) (hlo : lo ≤ w.heap.size) : Below lo w w' :=
  h.t.below hlo (fun k hk hs => by
    rcases hs with e | e | e | e | e | e
    · have := hl.m; omega
    · have := hl.c; omega
    · have := hl.b; omega
    · have := hl.w; omega
    · have := hl.r; omega
    · have := (ho.lt k e).1; omega)

/-- at the loop's head: 'pos' bytes of the body are in the buffer or in the spool -/
structure Rf (w wr : World) (lo M C B W R cap start len rcap c : Nat) (a : Option Addr) (fail : Value) (K : Nat → Int) (dv dv' : Value) (off n pos : Nat) : Prop where
  st : St wr lo M C B W cap off n K dv'
  r : wr.heap[R]? = some (.cells (rcells a len rcap pos c fail) 57 (0, 0))
  sum : off + n = start + pos
  mv : Mv M C B W R dv dv' w wr

theorem any79 : ((Ybad.prog.info? 79).map (fun i => i.methods.any fun m => m.name == "ReadFrom" && m.sig == 83)) = some false := by kernel_rfl
theorem zero118 : ((Ybad.prog.info? 118).map (fun i => i.zero)) = some (some .nilIface) := by kernel_rfl
theorem lacks {got : Array Method} (h : (got.any fun m => m.name == "ReadFrom" && m.sig == 83) = false) : ∃ m, Instr.missingMethod #[("ReadFrom", 83)] got = some m := by
  unfold Instr.missingMethod
  simp only [List.filter_cons, List.filter_nil, h, Bool.not_false, if_true, List.map_cons, List.map_nil]
  cases hc : "ReadFrom".contains '.' <;> simp [List.partition, List.partition.loop, hc, Instr.least]
theorem ta118 (x : Value) (w : World) : (Instr.typeAssert (.iface 79 x) 87 118 true).run Ybad.prog w = .ok (.tuple #[.nilIface, .bool false]) w := by
  obtain ⟨i, hi, hm⟩ := Option.map_eq_some_iff.1 any79
  obtain ⟨j, hj, hz⟩ := Option.map_eq_some_iff.1 zero118
  obtain ⟨m, hm'⟩ := lacks hm
  simp [Instr.typeAssert, run_underlying Ybad.underlying118, typeInfo, hi, hm', zeroValue, hj, hz]

theorem Mv.wide {M C B W R : Nat} {d0 d1 : Value} {w0 w1 : World} (h : Mv M C B W M d0 d1 w0 w1) : Mv M C B W R d0 d1 w0 w1 :=
  ⟨h.t.mono (fun k _ hT => by
    rcases hT with h1 | h1 | h1 | h1 | h1 | h1
    · exact .inl h1
    · exact .inr (.inl h1)
    · exact .inr (.inr (.inl h1))
    · exact .inr (.inr (.inr (.inl h1)))
    · exact .inl h1
    · exact .inr (.inr (.inr (.inr (.inr h1))))), h.o⟩

theorem Mv.undrew {M C B W R m : Nat} {d0 d1 : Value} {w0 w1 : World} (h : Mv M C B W R d0 d1 (w0.drewN m) w1) : Mv M C B W R d0 d1 w0 w1 := ⟨touch_undrew h.t, h.o⟩

/-- a block of another make is no block of the spool's -/
theorem St.apart {w : World} {lo M C B W cap off n : Nat} {K : Nat → Int} {dv : Value} (h : St w lo M C B W cap off n K dv) {b t : Nat} {cs : Array Value} (hb : w.heap[b]? = some (.cells cs t (0, 0))) (h1 : ¬ t = 65) (h2 : ¬ t = 81) (h3 : ¬ t = 5) (h4 : ¬ t = 89) :
    ¬ (b = M ∨ b = C ∨ b = B ∨ b = W ∨ b = M ∨ dv.ownBlock = some b) := by
  rintro (e | e | e | e | e | e)
  · exact blk_ne hb h.m h1 e
  · exact blk_ne hb h.c h2 e
  · obtain ⟨cs', hB, _⟩ := h.b
    exact blk_ne hb hB h3 e
  · exact blk_ne hb h.wr h4 e
  · exact blk_ne hb h.m h1 e
  · obtain ⟨cs', hc⟩ := own_type h.own e
    exact h3 (blk_type hb hc)

theorem Rf.flushed {w wr w2 : World} {lo M C B W R cap start len rcap c : Nat} {a : Option Addr} {fail : Value} {K : Nat → Int} {dv dv' dv2 : Value} {off n pos m : Nat} (h : Rf w wr lo M C B W R cap start len rcap c a fail K dv dv' off n pos)
    (hs : St w2 lo M C B W cap (off + n) 0 K dv2) (hm : Mv M C B W M dv' dv2 (wr.drewN m) w2) : Rf w w2 lo M C B W R cap start len rcap c a fail K dv dv2 (off + n) 0 pos :=
  ⟨hs, hm.undrew.t.keep h.r (h.st.apart h.r (by decide) (by decide) (by decide) (by decide)), by have := h.sum; omega, h.mv.trans hm.undrew.wide⟩

theorem Rf.drew {w wr : World} {lo M C B W R cap start len rcap c : Nat} {a : Option Addr} {fail : Value} {K : Nat → Int} {dv dv' : Value} {off n pos : Nat} (h : Rf w wr lo M C B W R cap start len rcap c a fail K dv dv' off n pos) (m : Nat) :
    Rf w (wr.drewN m) lo M C B W R cap start len rcap c a fail K dv dv' off n pos := ⟨h.st.drew m, h.r, h.sum, h.mv.drew m⟩

theorem na55 (a : Addr) (w : World) : (nilAhead 314 55 (.pointer (some a)) "Read").run Ybad.prog w = .ok (some false) w := by kernel_rfl

/-- the cells of the body, in whatever world that kept what lies below lo -/
def Src (w : World) (lo start len : Nat) (a : Option Addr) (K : Nat → Int) : Prop := 0 < len → ∃ sb so, a = some ⟨sb, so, none⟩ ∧ sb < lo ∧ ∀ i, i < len → w.cell? ⟨sb, so + i, none⟩ = some (.int .u8 (K (start + i)))

theorem Src.keep {w w' : World} {lo start len : Nat} {a : Option Addr} {K : Nat → Int} (h : Src w lo start len a K) (hb : Below lo w w') : Src w' lo start len a K := fun hl => by
  obtain ⟨sb, so, h1, h2, h3⟩ := h hl
  exact ⟨sb, so, h1, h2, fun i hi => by rw [hb.cell (p := ⟨sb, so + i, none⟩) h2]; exact h3 i hi⟩

/-- what the reader fails with: nothing, or an error that is not io.EOF -/
def Fails (w : World) (lo : Nat) (ea : Addr) (fail : Value) : Prop := fail = .nilIface ∨ ∃ (fb : Nat) (ce cf : Array Value) (te : TypeId), fail = .iface 93 (ptr fb) ∧ w.heap[ea.block]? = some (.cells ce te (0, 0)) ∧ ea.block < lo ∧ lo ≤ fb ∧
  w.heap[fb]? = some (.cells cf 95 (0, 0))

theorem Rf.more {w w2 w3 : World} {lo M C B W R cap start len rcap c : Nat} {a : Option Addr} {fail : Value} {K : Nat → Int} {dv d2 : Value} {o2 n2 pos : Nat} (h : Rf w w2 lo M C B W R cap start len rcap c a fail K dv d2 o2 n2 pos)
    (cs : List Value) (hB : w2.heap[B]? = some (.cells cs.toArray 5 (0, 0))) (hcl : cs.length = cap) (hcs : ∀ i, i < n2 → cs[i]? = some (.int .u8 (K (o2 + i)))) (k : Nat) (hk : n2 + k ≤ cap)
    (q1 : w3.heap[R]? = some (.cells (rcells a len rcap (pos + k) c fail) 57 (0, 0)))
    (q2 : w3.heap[B]? = some (.cells (cs.take n2 ++ ((List.range k).map (fun i => Value.int .u8 (K (start + (pos + i)))) ++ cs.drop (n2 + k))).toArray 5 (0, 0))) (q3 : TouchOnly (fun b => b = R ∨ b = B) w2 w3) (m : Nat) :
    Rf w ((w3.drewN m).setCell ⟨W, 2, none⟩ (.int .i64 ((n2 : Int) + (k : Int)))) lo M C B W R cap start len rcap c a fail K dv d2 o2 (n2 + k) (pos + k) := by
  have kp : ∀ (b t : Nat) (cs' : Array Value), w2.heap[b]? = some (.cells cs' t (0, 0)) → ¬ t = 57 → ¬ t = 5 → w3.heap[b]? = some (.cells cs' t (0, 0)) := fun b t cs' hb h1 h2 => by
    refine q3.keep hb ?_
    rintro (e | e)
    · exact blk_ne hb h.r h1 e
    · exact blk_ne hb hB h2 e
  have qm := kp _ _ _ h.st.m (by decide) (by decide)
  have qc := kp _ _ _ h.st.c (by decide) (by decide)
  have qw := kp _ _ _ h.st.wr (by decide) (by decide)
  have hWM : ¬ M = W := blk_ne qm qw (by decide)
  have hWC : ¬ C = W := blk_ne qc qw (by decide)
  have hWB : ¬ B = W := blk_ne q2 qw (by decide)
  have hWR : ¬ R = W := blk_ne q1 qw (by decide)
  have hRB : ¬ R = B := blk_ne q1 q2 (by decide)
  have hown3 : w3.ownsRow lo 5 1 d2 o2 (bytesV K o2) := ownsRow_keep h.st.own (fun b hb => by
    refine q3.block b ((h.st.own.lt b hb).2) ?_
    rintro (e | e)
    · obtain ⟨cs', hc⟩ := own_type h.st.own hb
      exact blk_ne hc h.r (by decide) e
    · subst e; exact h.st.nb hb)
  have hWD : ∀ b, d2.ownBlock = some b → ¬ b = W := fun b hb e => by
    obtain ⟨cs', hc⟩ := own_type hown3 hb
    exact blk_ne hc qw (by decide) e
  refine ⟨⟨blk_oth (w := w3.drewN m) 2 _ hWM qm, blk_oth (w := w3.drewN m) 2 _ hWC qc, ?_, ⟨_, blk_oth (w := w3.drewN m) 2 _ hWB q2, ?_, ?_⟩, ?_, h.st.nb, hk, h.st.c1, h.st.c2, ?_⟩, blk_oth (w := w3.drewN m) 2 _ hWR q1, ?_, ?_⟩
  · have := blk_set (w := w3.drewN m) 2 (.int .i64 ((n2 : Int) + (k : Int))) qw
    simpa using this
  · simp; omega
  · intro i hi
    by_cases hin : i < n2
    · rw [List.getElem?_append_left (by simp; omega), List.getElem?_take, if_pos hin]
      exact hcs i hin
    · rw [List.getElem?_append_right (by simp; omega), List.getElem?_append_left (by simp; omega)]
      have hlen : (cs.take n2).length = n2 := by simp; omega
      rw [hlen]
      have hs := h.sum
      have hik : i - n2 < k := by omega
      simp only [List.getElem?_map, List.getElem?_range hik, Option.map_some]
      rw [show start + (pos + (i - n2)) = o2 + i by omega]
  · exact ownsRow_keep hown3 (fun b hb => Below.heap_setCell _ _ _ _ (hWD b hb))
  · rw [size_setCell]
    exact Nat.le_trans h.st.lo1 q3.size
  · have := h.sum; omega
  · refine h.mv.trans ⟨TouchOnly.setCell (TouchOnly.drewN (q3.mono ?_) _) (fun _ => .inr (.inr (.inr (.inl rfl)))) _, fun _ h _ => h⟩
    rintro b _ (e | e)
    · exact .inr (.inr (.inr (.inr (.inl e))))
    · exact .inr (.inr (.inl e))

theorem Rf.same {w w2 : World} {lo M C B W R cap start len rcap c : Nat} {a : Option Addr} {fail : Value} {K : Nat → Int} {dv d2 : Value} {o2 n2 pos : Nat} (h : Rf w w2 lo M C B W R cap start len rcap c a fail K dv d2 o2 n2 pos) (q : Nat) :
    Rf w ((w2.drewN q).setCell ⟨W, 2, none⟩ (.int .i64 n2)) lo M C B W R cap start len rcap c a fail K dv d2 o2 n2 pos := by
  have e : ∀ k, ((w2.drewN q).setCell ⟨W, 2, none⟩ (.int .i64 n2)).heap[k]? = w2.heap[k]? := fun k => by
    by_cases hk : k = W
    · subst hk
      rw [h.st.wr]
      have := blk_set (w := w2.drewN q) 2 (.int .i64 n2) h.st.wr
      simpa using this
    · exact Below.heap_setCell (w2.drewN q) _ _ _ hk
  obtain ⟨cs, hB, hcl, hcs⟩ := h.st.b
  refine ⟨⟨by rw [e]; exact h.st.m, by rw [e]; exact h.st.c, by rw [e]; exact h.st.wr, ⟨cs, by rw [e]; exact hB, hcl, hcs⟩, ownsRow_keep h.st.own (fun b _ => e b), h.st.nb, h.st.nc, h.st.c1, h.st.c2, by rw [size_setCell]; exact h.st.lo1⟩, by rw [e]; exact h.r, h.sum, ?_⟩
  exact h.mv.trans ⟨TouchOnly.setCell (TouchOnly.drewN (TouchOnly.refl _ _) _) (fun _ => .inr (.inr (.inr (.inl rfl)))) _, fun _ h _ => h⟩

theorem size95 : (Ybad.prog.info? 95).map (·.size) = some 1 := by kernel_rfl

theorem eq_same (a : Addr) (w : World) : (binOp .eql 27 (.iface 93 (.pointer (some a))) (.iface 93 (.pointer (some a)))).run Ybad.prog w = .ok (.bool true) w := by
  obtain ⟨i, hi, hc⟩ := Option.map_eq_some_iff.1 comp93
  obtain ⟨j, hj, _⟩ := Option.map_eq_some_iff.1 size95
  exact run_eql_iface_ptr_same w a Ybad.underlying27 Ybad.underlying93 hi hc hj

theorem eq_other {a b : Addr} {w : World} {ca cb : Array Value} {ta tb : TypeId} (hne : a ≠ b) (ha : w.heap[a.block]? = some (.cells ca ta (0, 0))) (hb : w.heap[b.block]? = some (.cells cb tb (0, 0))) :
    (binOp .eql 27 (.iface 93 (.pointer (some a))) (.iface 93 (.pointer (some b)))).run Ybad.prog w = .ok (.bool false) w := by
  obtain ⟨i, hi, hc⟩ := Option.map_eq_some_iff.1 comp93
  obtain ⟨j, hj, hs⟩ := Option.map_eq_some_iff.1 size95
  exact run_eql_iface_ptr_other w Ybad.underlying27 Ybad.underlying93 hi hc hj (by rw [hs]; decide) hne ha hb

set_option maxRecDepth 100000 in
set_option maxHeartbeats 4000000 in
theorem readFrom (lo M C B W R cap off n len rcap c : Nat) (a : Option Addr) (fail : Value) (K : Nat → Int) (dv : Value) (w : World) (ea : Addr)
    (h : St w lo M C B W cap off n K dv) (hR : w.heap[R]? = some (.cells (rcells a len rcap 0 c fail) 57 (0, 0))) (hL : Lows lo M C B W R) (hlc : len ≤ rcap)
    (hsrc : Src w lo (off + n) len a K)
    (hlen : len ≤ 8192) (hb : off + n + len ≤ 9000) (hc1 : 0 < c) (hc2 : c ≤ 8) (heof : w.cell? ⟨1, 0, none⟩ = some (.iface 93 (.pointer (some ea)))) (h1 : 1 < lo) (hfail : Fails w lo ea fail) :
    Calls Ybad.prog 25 #[ptr W, .iface 55 (ptr R)] w fun e w' => e = .returned (.tuple #[.int .i64 len, fail]) ∧
      ∃ off' n' dv', off' + n' = off + n + len ∧ St w' lo M C B W cap off' n' K dv' ∧ Mv M C B W R dv dv' w w' := by
  have c0 := blk_cell h.wr 0
  have c3 := blk_cell h.wr 3
  have HS := hide h
  have HR := hide hR
  have HSR := hide hsrc
  have hta := ta118 (ptr C)
  clear h hR hsrc
  simp only [List.getElem?_toArray, List.getElem?_cons_zero, List.getElem?_cons_succ] at c0 c3
  go_enter Ybad.func25, Ybad.ntmps25
  go_wp2_with fail
  clear c0 c3 hta
  go_loopg [4] len (fun gk s4 wr => ∃ pos off' n' dv', gk + pos = len ∧ s4 = .int .i64 pos ∧ Hid (Rf w wr lo M C B W R cap (off + n) len rcap c a fail K dv dv' off' n' pos))
  case atStart => exact ⟨0, off, n, dv, by omega, rfl, ⟨unhide HS, unhide HR, by omega, TouchOnly.refl _ _, fun _ h _ => h⟩⟩
  case round =>
    obtain ⟨pos, off', n', dv', hgp, rfl, HI⟩ := hrel
    have hnc := (unhide HI).st.nc
    have hc32 := (unhide HI).st.c2
    have hsum := (unhide HI).sum
    obtain ⟨sfull, hsf⟩ : ∃ q : Bool, q = decide (n' = cap) := ⟨_, rfl⟩
    cases sfull
    case' false =>
      have hfull : ¬ n' = cap := by simpa using hsf.symm
      have hz : ¬ ((cap - n' : Nat) : Int) = 0 := by omega
      clear hsf
      go_wp2_with (go_at_call 36; refine (avail _ B W cap n' _ _ (unhide HI).st.wr hnc hc32).mono ?_; rintro e w1 ⟨rfl, m1, rfl⟩)
      obtain ⟨w2, hw2⟩ : ∃ w2, w2 = wr.drewN m1 := ⟨_, rfl⟩
      obtain ⟨o2, n2, d2, HI2, hlt2⟩ : ∃ o2 n2 d2, Hid (Rf w w2 lo M C B W R cap (off + n) len rcap c a fail K dv d2 o2 n2 pos) ∧ n2 < cap := ⟨off', n', dv', by rw [hw2]; exact (unhide HI).drew m1, by omega⟩
      rw [← hw2]
      clear HI hw2 hz hfull hsum hnc
    case' true =>
      have hfull : n' = cap := by simpa using hsf.symm
      have hz : ((cap - n' : Nat) : Int) = 0 := by omega
      clear hsf
      go_wp2_with (first | (go_at_call 36; refine (avail _ B W cap n' _ _ (unhide HI).st.wr hnc hc32).mono ?_; rintro e w1 ⟨rfl, m1, rfl⟩) | (go_at_call 14; refine (flush_any lo M C B W cap off' n' K dv' _ ((unhide HI).st.drew _) (by omega)).mono ?_; rintro e w2 ⟨rfl, dv2, HS2, HM2⟩))
      obtain ⟨o2, n2, d2, HI2, hlt2⟩ : ∃ o2 n2 d2, Hid (Rf w w2 lo M C B W R cap (off + n) len rcap c a fail K dv d2 o2 n2 pos) ∧ n2 < cap := ⟨_, 0, dv2, (unhide HI).flushed HS2 HM2, (unhide HI).st.c1⟩
      clear HI hz hfull hsum hnc HS2 HM2
    all_goals
      have hsum2 := (unhide HI2).sum
      have hbel := (unhide HI2).mv.low hL (unhide HS).own (unhide HS).lo1
      have heof2 : w2.cell? ⟨1, 0, none⟩ = some (.iface 93 (.pointer (some ea))) := by rw [hbel.cell (p := ⟨1, 0, none⟩) h1]; exact heof
      have HSRC := hide ((unhide HSR).keep hbel)
      clear hbel
      have e1 := blk_cell (unhide HI2).st.wr 1
      have e2 := blk_cell (unhide HI2).st.wr 2
      simp only [List.getElem?_toArray, List.getElem?_cons_zero, List.getElem?_cons_succ] at e1 e2
      have hmr := m55 (some ⟨R, 0, none⟩)
      have hna := na55 ⟨R, 0, none⟩
      have hne : ¬ cap = n2 := by omega
      have hle : (n2 : Int) ≤ (cap : Int) := by omega
      refine wp_loop_rounds 1 ?_
      rw [rounds_succ]
      go_upto_region 16 with fail
      refine wp_region_loud 13 _ (by kernel_rfl) (by decide) rfl (by kernel_rfl) (by kernel_rfl) (by kernel_rfl) (by kernel_rfl) (fun ops0 => ?_)
      simp only [List.take, List.drop]
      repeat (quiet_step (fail))
      refine wpQuiet_nil ?_
      intro m
      go_wp2_with fail
      by_cases hpl : pos < len
      · obtain ⟨sb, so, hsa, hsb, hcell⟩ := unhide HSRC (by omega)
        obtain ⟨cs, hB, hcl, hcs⟩ := (unhide HI2).st.b
        obtain ⟨k, hk⟩ : ∃ k, k = min (min c (cap - n2)) (len - pos) := ⟨_, rfl⟩
        subst hsa
        refine (read_more (w2.drewN m) R B sb so len rcap pos c n2 (cap - n2) (cap - n2) fail (fun i => K (off + n + i)) cs (unhide HI2).r hB hcell hpl hlen hlc hc1 hc2 (by omega) (by omega) (by omega) k hk).mono ?_
        rintro e w3 ⟨rfl, q1, q2, q3⟩
        have q3' := touch_undrew q3
        have hk0 : 0 < k := by omega
        have hk1 : n2 + k ≤ cap := by omega
        have hk2 : pos + k ≤ len := by omega
        have qw : w3.heap[W]? = some (.cells #[.nilIface, .slice (some ⟨B, 0, none⟩) cap cap, .int .i64 n2, .iface 79 (ptr C)] 89 (0, 0)) := by
          refine q3'.keep (unhide HI2).st.wr ?_
          rintro (e | e)
          · exact blk_ne (unhide HI2).st.wr (unhide HI2).r (by decide) e
          · exact blk_ne (unhide HI2).st.wr hB (by decide) e
        have f2 := blk_cell qw 2
        have f3 := blk_free qw 2
        simp only [List.getElem?_toArray, List.getElem?_cons_zero, List.getElem?_cons_succ] at f2
        have HN := hide ((unhide HI2).more cs hB hcl hcs k hk1 q1 q2 q3')
        have hknz : ¬ (k : Int) = 0 := by omega
        clear q1 q2 q3 q3' qw hk hB hcs hcell e1 e2 hmr hna heof2 HSRC
        intro ops1
        repeat (quiet_step (fail))
        refine wpQuiet_nil ?_
        intro m2
        go_wp2_with fail
        go_roundg (gk - k)
        case measure => omega
        case rel => exact ⟨pos + k, o2, n2 + k, d2, by omega, by simp, (unhide HN) m2⟩
      · obtain rfl : pos = len := by omega
        have HF := hide hfail
        clear hfail
        rcases unhide HF with hf | ⟨fb, ce, cf, te, hf, hf1, hf2, hf3, hf4⟩
        · subst hf
          refine (read_end_eof (w2.drewN m) R a pos rcap pos c _ _ (unhide HI2).r (Nat.le_refl _) hlen hlen heof2).mono ?_
          rintro e w3 ⟨rfl, m3, rfl⟩
          have f3 := blk_free (unhide HI2).st.wr 2
          have hes := eq_same ea
          have hz : ¬ ((cap - n2 : Nat) : Int) = 0 := by omega
          have hnc2 := (unhide HI2).st.nc
          have HN := hide (unhide HI2).same
          clear hmr hna HSRC
          intro ops1
          repeat (quiet_step (fail))
          refine wpQuiet_nil ?_
          intro m2
          go_wp2_with (go_at_call 36; refine (avail _ B W cap n2 _ _ (unhide HN _).st.wr hnc2 hc32).mono ?_; rintro e w1 ⟨rfl, m4, rfl⟩)
          go_ret2
          have hN := (unhide HN (m + m3 + m2)).drew m4
          exact ⟨rfl, o2, n2, d2, hsum2, hN.st, hN.mv⟩
        · subst hf
          refine (read_end_fail (w2.drewN m) R a pos rcap pos c _ _ _ (unhide HI2).r (Nat.le_refl _) hlen hlen).mono ?_
          rintro e w3 ⟨rfl, m3, rfl⟩
          have f3 := blk_free (unhide HI2).st.wr 2
          have HN := hide (unhide HI2).same
          have heo : ∀ q, (binOp .eql 27 (.iface 93 (ptr fb)) (.iface 93 (.pointer (some ea)))).run Ybad.prog ((w2.drewN q).setCell ⟨W, 2, none⟩ (.int .i64 n2)) = .ok (.bool false) ((w2.drewN q).setCell ⟨W, 2, none⟩ (.int .i64 n2)) := fun q => by
            refine eq_other (by intro e; subst e; simp at hf2; omega) (ca := cf) (ta := 95) (cb := ce) (tb := te) ?_ ?_
            · have hA := (unhide HS).apart hf4 (by decide) (by decide) (by decide) (by decide)
              refine (unhide HN q).mv.t.keep hf4 ?_
              rintro (e | e | e | e | e | e)
              · exact hA (.inl e)
              · exact hA (.inr (.inl e))
              · exact hA (.inr (.inr (.inl e)))
              · exact hA (.inr (.inr (.inr (.inl e))))
              · exact blk_ne hf4 (unhide HR) (by decide) e
              · exact hA (.inr (.inr (.inr (.inr (.inr e)))))
            · rw [((unhide HN q).mv.low hL (unhide HS).own (unhide HS).lo1).block _ hf2]; exact hf1
          clear hmr hna HSRC
          intro ops1
          repeat (quiet_step (fail))
          refine wpQuiet_nil ?_
          intro m2
          go_wp2_with fail
          go_ret2
          have hN := unhide HN (m + m3 + m2)
          exact ⟨rfl, o2, n2, d2, hsum2, hN.st, hN.mv⟩
end Go.Proofs.YbulkcaqmDoor.Spool
