import Derived.Test.YbulkcangDoorWaits
import Derived.Test.YbulkcangDoorTimers
import Derived.Deep.QuietTactic
import Derived.BigQuiet
namespace Go.Proofs.YbulkcangDoor.Moved
set_option linter.unusedVariables false
open Go.ChangeShapes Go.WideShapes Go.ChangeAt Go.RowKit Go.Conc Go.Proofs.YbulkcangDoor.Base Go.Proofs.YbulkcangDoor.Small Go.Proofs.YbulkcangDoor.Comm Go.Proofs.YbulkcangDoor.Waits Go.Proofs.YbulkcangDoor.Timers

theorem info40 : (Ybad.prog.info? 40).map (fun i => (i.zero, i.size, i.bytes)) = some (some (.pointer none), 1, 8) := by kernel_rfl

def line (C : Nat) (ws tm : Value) : Array Value := #[.int .i64 1, ptr C, .int .u8 0, .int .u8 0, ws, tm, .map none]

def mayTouch (G len : Nat) (cl : Nat → Nat) (b : Nat) : Prop := b = G ∨ ∃ i, i < len ∧ b = cl i

structure MvInv (w wr : World) (G Pp len cap : Nat) (ending : ByteArray) (xs : Nat → Wx) (wl cl : Nat → Nat) (k : Nat) (cu : List Value) : Prop where
  g : wr.heap[G]? = some (.cells cu.toArray 40 (0, 0))
  clen : cu.length = cap
  kept : ∀ (j m : Nat), (kp xs k)[j]? = some m → cu[j]? = some (ptr (wl m))
  rest : ∀ j : Nat, k ≤ j → j < len → cu[j]? = some (ptr (wl j))
  ws : Ws wr len Pp xs wl cl (fun i => if i < k then settled ending (xs i) else fresh)
  to : TouchOnly (mayTouch G len cl) w wr

theorem MvInv.wl_ne {w wr : World} {G Pp len cap : Nat} {ending : ByteArray} {xs : Nat → Wx} {wl cl : Nat → Nat} {k : Nat} {cu : List Value} (h : MvInv w wr G Pp len cap ending xs wl cl k cu) {i : Nat} (hi : i < len) : ¬ wl i = G := blk_ne (h.ws.wt i hi) h.g (by decide)
theorem MvInv.cl_ne {w wr : World} {G Pp len cap : Nat} {ending : ByteArray} {xs : Nat → Wx} {wl cl : Nat → Nat} {k : Nat} {cu : List Value} (h : MvInv w wr G Pp len cap ending xs wl cl k cu) {i : Nat} (hi : i < len) : ¬ cl i = G := by
  obtain ⟨b, s, e⟩ := h.ws.chan hi
  exact fun x => chan_ne h.g e x.symm
theorem MvInv.wc_ne {w wr : World} {G Pp len cap : Nat} {ending : ByteArray} {xs : Nat → Wx} {wl cl : Nat → Nat} {k : Nat} {cu : List Value} (h : MvInv w wr G Pp len cap ending xs wl cl k cu) {i j : Nat} (hi : i < len) (hj : j < len) : ¬ wl i = cl j := by
  obtain ⟨b, s, e⟩ := h.ws.chan hj
  exact chan_ne (h.ws.wt i hi) e

/-- the round that keeps -/
theorem MvInv.keepOne {w wr w' : World} {G Pp len cap : Nat} {ending : ByteArray} {xs : Nat → Wx} {wl cl : Nat → Nat} {k : Nat} {cu : List Value} (h : MvInv w wr G Pp len cap ending xs wl cl k cu) (hk : k < len) (hcap : len ≤ cap) (hof : (xs k).of = true) (o : Obj)
    (hg : w'.heap[G]? = some (.cells (cu.set (kp xs k).length (ptr (wl k))).toArray 40 (0, 0))) (ht : TouchOnly (· = G) (wr.alloc o) w') : MvInv w w' G Pp len cap ending xs wl cl (k + 1) (cu.set (kp xs k).length (ptr (wl k))) := by
  have hle := kp_le xs k
  have hto : TouchOnly (· = G) wr w' := ((TouchOnly.refl _ wr).alloc o).trans ht
  refine ⟨hg, by simp [h.clen], ?_, ?_, ?_, ?_⟩
  · intro j m hm
    rw [kp_yes xs k hof] at hm
    by_cases hj : j < (kp xs k).length
    · rw [List.getElem?_append_left hj] at hm
      rw [List.getElem?_set_ne (by omega)]
      exact h.kept j m hm
    · rw [List.getElem?_append_right (by omega)] at hm
      have hj0 : j - (kp xs k).length = 0 := by
        rcases Nat.eq_zero_or_pos (j - (kp xs k).length) with e | e
        · exact e
        · rw [List.getElem?_eq_none (by simp; omega)] at hm; cases hm
      have hje : j = (kp xs k).length := by omega
      rw [hj0] at hm
      simp at hm
      subst hm
      subst hje
      rw [List.getElem?_set_self (by rw [h.clen]; omega)]
  · intro j h1 h2
    rw [List.getElem?_set_ne (by omega)]
    exact h.rest j (by omega) h2
  · refine (h.ws.keep hto (fun i hi => h.wl_ne hi) (fun i hi => h.cl_ne hi)).congr (fun i hi => ?_)
    by_cases e : i = k
    · subst e; simp [settled, hof]
    · by_cases e2 : i < k
      · simp [e2, Nat.lt_succ_of_lt e2]
      · have : ¬ i < k + 1 := by omega
        simp [e2, this]
  · exact h.to.trans (hto.mono (fun b _ e => .inl e))

/-- the round that answers -/
theorem MvInv.sendOne {w wr : World} {G Pp len cap : Nat} {ending : ByteArray} {xs : Nat → Wx} {wl cl : Nat → Nat} {k : Nat} {cu : List Value} (h : MvInv w wr G Pp len cap ending xs wl cl k cu) (hk : k < len) (hof : (xs k).of = false) (n : Nat) :
    MvInv w ((wr.drewN n).setChan (cl k) 1 ((#[] : Array Value).push (reply ending (xs k))) false (0 + 1) 0 false) G Pp len cap ending xs wl cl (k + 1) cu := by
  have hg : (wr.drewN n).heap[G]? = some (.cells cu.toArray 40 (0, 0)) := h.g
  have hw : Ws (wr.drewN n) len Pp xs wl cl (fun i => if i < k then settled ending (xs i) else fresh) := ⟨h.ws.wt, h.ws.c, h.ws.inj⟩
  refine ⟨blk_chan (fun e => h.cl_ne hk e.symm) hg, h.clen, ?_, fun j h1 h2 => h.rest j (by omega) h2, ?_, ?_⟩
  · intro j m hm; rw [kp_no xs k hof] at hm; exact h.kept j m hm
  · refine (hw.send hk (fun i hi => h.wc_ne hi hk) 1 ((#[] : Array Value).push (reply ending (xs k))) false (0 + 1) 0 false).congr (fun i hi => ?_)
    by_cases e : i = k
    · subst e; simp [settled, hof]
    · by_cases e2 : i < k
      · simp [e, e2, Nat.lt_succ_of_lt e2]
      · have : ¬ i < k + 1 := by omega
        simp [e, e2, this]
  · exact (h.to.drewN n).setChan (fun _ => .inr ⟨k, hk, rfl⟩) _ _ _ _ _ _

/-- the line behind its move, ahead of the timers -/
structure MovedTo (w w1 : World) (L C G Pp len cap : Nat) (tm : Value) (ending : ByteArray) (xs : Nat → Wx) (wl cl : Nat → Nat) : Prop where
  l : w1.heap[L]? = some (.cells (line C (.slice (some ⟨G, 0, none⟩) (kp xs len).length cap) tm) 31 (0, 0))
  kept : ∀ (j m : Nat), (kp xs len)[j]? = some m → w1.cell? ⟨G, j, none⟩ = some (ptr (wl m))
  gone : ∀ j : Nat, (kp xs len).length ≤ j → j < len → w1.cell? ⟨G, j, none⟩ = some (.pointer none)
  ws : Ws w1 len Pp xs wl cl (fun i => settled ending (xs i))
  to : TouchOnly (fun b => b = L ∨ mayTouch G len cl b) w w1

theorem TouchOnly.setCells {S : Nat → Prop} {a : World} {g : Nat} (hc : g < a.heap.size → S g) : ∀ (vs : List Value) (o : Nat) (w : World), TouchOnly S a w → TouchOnly S a (w.setCells g o vs)
  | [], _, _, h => h
  | v :: vs, o, w, h => TouchOnly.setCells hc vs (o + 1) (w.setCell ⟨g, o, none⟩ v) (h.setCell hc v)

theorem run_clear_empty {P : Program} (w : World) (t e ty : TypeId) (ht : P.underlying t = some (.slice e)) (x : Option Addr) (c : Nat) : (Builtin.clear_ #[t] ty #[.slice x 0 c]).run P w = .ok (.tuple #[]) w := by
  cases x <;> simp [Builtin.clear_, run_underlying ht]

def cleared (w : World) (G n len : Nat) : World := w.setCells G n (List.replicate (len - n) (.pointer none))

theorem zero40 (w : World) : (zeroValue 40).run Ybad.prog w = .ok (.pointer none) w := Ybad.zeroValue40 w

theorem run_clear_tail {w wr : World} {G Pp len cap : Nat} {ending : ByteArray} {xs : Nat → Wx} {wl cl : Nat → Nat} {cu : List Value} (h : MvInv w wr G Pp len cap ending xs wl cl len cu) (hcap : len ≤ cap) (n c : Nat) (hn : n < len) (ty : TypeId) :
    (Builtin.clear_ #[27] ty #[.slice (some ⟨G, n, none⟩) (len - n) c]).run Ybad.prog wr = .ok (.tuple #[]) (cleared wr G n len) := by
  refine Lib.run_clear_slice wr 27 40 ty (.pointer none) Ybad.underlying27 zero40 rfl rfl G n (len - n) c (by omega) (fun j hj => ?_) (fun j _ => blk_free h.g _)
  rw [blk_cell h.g, List.getElem?_toArray, List.getElem?_eq_getElem (by rw [h.clen]; omega)]
  rfl

theorem exit_facts {w wr : World} {L C G Pp len cap : Nat} {tm : Value} {ending : ByteArray} {xs : Nat → Wx} {wl cl : Nat → Nat} {cu : List Value} (h : MvInv w wr G Pp len cap ending xs wl cl len cu) (hcap : len ≤ cap)
    (hL : wr.heap[L]? = some (.cells (line C (.slice (some ⟨G, 0, none⟩) len cap) tm) 31 (0, 0))) :
    MovedTo w ((cleared wr G (kp xs len).length len).setCell ⟨L, 4, none⟩ (.slice (some ⟨G, 0, none⟩) (kp xs len).length cap)) L C G Pp len cap tm ending xs wl cl := by
  have hle := kp_le xs len
  have hLG : ¬ L = G := blk_ne hL h.g (by decide)
  have hGL : ¬ G = L := fun e => hLG e.symm
  have t1 : TouchOnly (· = G) wr (cleared wr G (kp xs len).length len) := TouchOnly.setCells (S := (· = G)) (a := wr) (g := G) (fun _ => rfl) _ _ _ (TouchOnly.refl _ _)
  have hL1 := t1.keep hL hLG
  have hcell : ∀ j, (w1 : World) → (w1.setCell ⟨L, 4, none⟩ (.slice (some ⟨G, 0, none⟩) (kp xs len).length cap)).cell? ⟨G, j, none⟩ = w1.cell? ⟨G, j, none⟩ := fun j w1 =>
    World.cell?_setCell_other w1 ⟨L, 4, none⟩ ⟨G, j, none⟩ _ (by intro e; injection e with e1; exact hLG e1)
  have hin : ∀ j, j < len → wr.cell? ⟨G, j, none⟩ = cu[j]? := fun j _ => by rw [blk_cell h.g, List.getElem?_toArray]
  refine ⟨blk_set 4 _ hL1, ?_, ?_, ?_, ?_⟩
  · intro j m hm
    have hj : j < (kp xs len).length := by
      rcases Nat.lt_or_ge j (kp xs len).length with h | h
      · exact h
      · rw [List.getElem?_eq_none h] at hm; cases hm
    rw [hcell]
    unfold cleared
    rw [World.cell?_setCells_out _ _ _ _ _ (fun _ _ => .inl hj), hin j (by omega)]
    exact h.kept j m hm
  · intro j h1 h2
    rw [hcell]
    unfold cleared
    have := World.cell?_setCells_in G (List.replicate (len - (kp xs len).length) (.pointer none)) (kp xs len).length wr (fun i hi => by
      simp at hi
      rw [hin _ (by omega), List.getElem?_eq_getElem (by rw [h.clen]; omega)]; rfl) (j - (kp xs len).length) (by simp; omega)
    rw [show (kp xs len).length + (j - (kp xs len).length) = j from by omega] at this
    simpa using this
  · refine (h.ws.keep (t1.trans ((TouchOnly.refl (· = G) _))) (fun i hi => h.wl_ne hi) (fun i hi => h.cl_ne hi)).keep ((TouchOnly.refl (· = L) _).setCell (p := ⟨L, 4, none⟩) (fun _ => rfl) _) (fun i hi => ?_) (fun i hi => ?_) |>.congr (fun i hi => by simp [hi])
    · exact blk_ne (h.ws.wt i hi) hL (by decide)
    · obtain ⟨b, s, e⟩ := h.ws.chan hi
      exact fun x => chan_ne hL e x.symm
  · exact (((h.to.mono (fun b _ e => .inr e)).trans (t1.mono (fun b _ e => .inr (.inl e))))).setCell (p := ⟨L, 4, none⟩) (fun _ => .inl rfl) _

set_option maxRecDepth 100000 in
set_option maxHeartbeats 2000000 in
theorem moved_loop (L C G Pp len cap : Nat) (tm : Value) (ending : ByteArray) (xs : Nat → Wx) (wl cl : Nat → Nat) (cur : List Value) (w : World)
    (hlen : len ≤ 512) (hcap : len ≤ cap) (hcm : cap ≤ 9223372036854775807) (hcl : cur.length = cap) (hpos : 0 < len)
    (hL : w.heap[L]? = some (.cells (line C (.slice (some ⟨G, 0, none⟩) len cap) tm) 31 (0, 0))) (hC : w.heap[C]? = some (.cells circ 62 (0, 0)))
    (hG : w.heap[G]? = some (.cells cur.toArray 40 (0, 0))) (hcur : ∀ j, j < len → cur[j]? = some (ptr (wl j)))
    (hW : Ws w len Pp xs wl cl (fun _ => fresh)) (hg0 : w.cell? ⟨0, 0, none⟩ = some (.string idle))
    (hse : ending.size ≤ 140737488355328) (hss : ∀ i, i < len → (xs i).subj.size ≤ 140737488355328) (hz : ¬ mayTouch G len cl 0) (Post : World → Prop) (SA : Nat → Prop)
    (hstop : ∀ w1, MovedTo w w1 L C G Pp len cap tm ending xs wl cl → Calls Ybad.prog 10 #[ptr L] w1 fun e w2 => e = .returned (.tuple #[]) ∧ Post w2 ∧ TouchOnly SA w1 w2) :
    Calls Ybad.prog 6 #[ptr L, .string ending] w fun e w' => e = .returned (.tuple #[]) ∧ ∃ w1, MovedTo w w1 L C G Pp len cap tm ending xs wl cl ∧ Post w' ∧ TouchOnly SA w1 w' := by
  have l1 := blk_cell hL 1
  have l4 := blk_cell hL 4
  have c2 := blk_cell hC 2
  simp only [line, circ, List.getElem?_toArray, List.getElem?_cons_zero, List.getElem?_cons_succ, ptr] at l1 l4 c2
  obtain ⟨i40, hi40, hz0, hz1, hz2⟩ := info_parts info40
  have HL := hide hL
  have HC := hide hC
  have HG := hide hG
  have HW := hide hW
  have HU := hide hcur
  have HSS := hide hss
  have H0 := hide hg0
  have HZ := hide hz
  have HST := hide hstop
  clear hL hC hG hW hcur hss hg0 hz hstop
  unfold ptr
  go_enter Ybad.func6, Ybad.ntmps6
  go_wp2_with (go_at_call 7; refine (state_any _ _ c2).mono ?_; rintro e w' ⟨rfl, rfl⟩)
  go_loopw [5, 23] (fun v i wr => ∃ (k : Nat) (cu : List Value), k ≤ len ∧ i = .int .i64 k ∧ v = .slice (some ⟨G, 0, none⟩) (kp xs k).length cap ∧ Hid (MvInv w' wr G Pp len cap ending xs wl cl k cu)) (fun _ i _ => len - (intOf i).toNat)
  case atStart =>
    refine ⟨0, cur, Nat.zero_le _, rfl, rfl, hide ⟨unhide HG, hcl, fun j m h => by simp [kp] at h, fun j _ h => unhide HU j h, ?_, TouchOnly.refl _ _⟩⟩
    exact (unhide HW).congr (fun i _ => by simp)
  case round =>
    obtain ⟨k, cu, hk, rfl, rfl, HI⟩ := hrel
    have hkl := kp_le xs k
    by_cases hlt : k < len
    · obtain ⟨x, hx⟩ : ∃ x, x = xs k := ⟨_, rfl⟩
      have gk := blk_cell (unhide HI).g k
      have w0 := blk_cell ((unhide HI).ws.wt k hlt) 0
      have w1 := blk_cell ((unhide HI).ws.wt k hlt) 1
      have w2 := blk_cell ((unhide HI).ws.wt k hlt) 2
      have w5 := blk_cell ((unhide HI).ws.wt k hlt) 5
      rw [← hx] at w0 w1 w2 w5
      rw [List.getElem?_toArray, (unhide HI).rest k (Nat.le_refl _) hlt] at gk
      simp only [wcells, List.getElem?_toArray, List.getElem?_cons_zero, List.getElem?_cons_succ, ptr] at gk w0 w1 w2 w5
      have HX := hide hx
      clear hx
      obtain ⟨of, want, subj⟩ := x
      simp only at w0 w1 w2 w5
      generalize hn : (kp xs k).length = n at *
      have HN := hide hn
      clear hn
      generalize hwk : wl k = wk at *
      have HWK := hide hwk
      clear hwk
      generalize hck : cl k = ck at *
      have HCK := hide hck
      clear hck
      cases of
      · simp only [Bool.false_eq_true, if_false] at w2
        have hsz : subj.size ≤ 140737488355328 := by have := unhide HSS k hlt; rw [← unhide HX] at this; exact this
        have hof : (xs k).of = false := by rw [← unhide HX]
        have hchan : wr.heap[ck]? = some (.chan 1 #[] false 0 0 false) := by
          have := (unhide HI).ws.c k hlt
          rw [unhide HCK] at this
          simpa [fresh] using this
        have g0 : wr.cell? ⟨0, 0, none⟩ = some (.string idle) := by
          have h1 := (unhide HI).to
          have hb0 : (0 : Nat) < w'.heap.size := World.block_lt_of_cell? w' _ (unhide H0)
          rw [World.cell?_of_block (w := w') (h1.block 0 hb0 (unhide HZ))]
          exact unhide H0
        have hkn : (kp xs (k + 1)).length = n := by rw [kp_no xs k hof]; exact unhide HN
        have HKN := hide hkn
        have HCH := hide hchan
        clear hchan hkn
        by_cases h0 : want = 0
        · subst h0
          have hsend : ∀ m, MvInv w' ((wr.drewN m).setChan ck 1 ((#[] : Array Value).push (.agg #[.int .i64 0, .string (subj ++ ⟨#[32]⟩ ++ idle)])) false (0 + 1) 0 false) G Pp len cap ending xs wl cl (k + 1) cu := by
            intro m
            have := (unhide HI).sendOne hlt hof m
            rw [unhide HCK, ← unhide HX] at this
            exact this
          have HS := hide hsend
          clear hsend hof
          go_wp2_with fail
          refine wp_region_quiet_comm 13 _ (by kernel_rfl) rfl rfl rfl (by kernel_rfl) (by kernel_rfl) (fun ops0 => ?_)
          simp only [List.take]
          have ha1 := cat1 (P := Ybad.prog) subj hsz
          have ha2 := cat2 (P := Ybad.prog) subj idle hsz size_idle
          repeat (quiet_step ((go_at_call 9; exact Calls.quiet_of_same (string_any _ g0))))
          refine wpQuiet_nil ?_
          intro w4 hw4
          obtain ⟨m, rfl⟩ := hw4
          refine comm_send (ch := ck) (v := .agg #[.int .i64 0, .string (subj ++ ⟨#[32]⟩ ++ idle)]) (z := .tuple #[]) (by simp [go_sem, scase]) (unhide HCH) (by simp) ?_
          have hs := unhide HS m
          revert hs
          generalize (wr.drewN m).setChan ck 1 ((#[] : Array Value).push (.agg #[.int .i64 0, .string (subj ++ ⟨#[32]⟩ ++ idle)])) false (0 + 1) 0 false = w5
          intro hs
          have HS5 := hide hs
          clear hs HS ha1 ha2
          go_wp2
          go_roundw
          case rel => exact ⟨k + 1, cu, by omega, by go_num, by rw [unhide HKN], HS5⟩
          case measure => simp [intOf]; omega
        · have hsend : ∀ m, MvInv w' ((wr.drewN m).setChan ck 1 ((#[] : Array Value).push (.agg #[.int .i64 1, .string (subj ++ ⟨#[32]⟩ ++ ending)])) false (0 + 1) 0 false) G Pp len cap ending xs wl cl (k + 1) cu := by
            intro m
            have := (unhide HI).sendOne hlt hof m
            rw [unhide HCK, ← unhide HX] at this
            simp only [reply, h0, if_false] at this
            exact this
          have HS := hide hsend
          have b0 : ((0 : Int) == want) = false := by simp; exact fun e => h0 e.symm
          have b0' : (want != 0) = true := by simpa using h0
          have ha1 := cat1 (P := Ybad.prog) subj hsz
          have ha2 := cat2 (P := Ybad.prog) subj ending hsz hse
          clear hsend hof h0
          by_cases h2 : want = 2
          · subst h2
            go_wp2_with fail
            refine wp_region_quiet_comm 12 _ (by kernel_rfl) rfl rfl rfl (by kernel_rfl) (by kernel_rfl) (fun ops0 => ?_)
            simp only [List.take]
            repeat (quiet_step (fail))
            refine wpQuiet_nil ?_
            intro w4 hw4
            obtain ⟨m, rfl⟩ := hw4
            refine comm_send (ch := ck) (v := .agg #[.int .i64 1, .string (subj ++ ⟨#[32]⟩ ++ ending)]) (z := .tuple #[]) (by simp [go_sem, scase]) (unhide HCH) (by simp) ?_
            have hs := unhide HS m
            revert hs
            generalize (wr.drewN m).setChan ck 1 ((#[] : Array Value).push (.agg #[.int .i64 1, .string (subj ++ ⟨#[32]⟩ ++ ending)])) false (0 + 1) 0 false = w5
            intro hs
            have HS5 := hide hs
            clear hs HS ha1 ha2
            go_wp2
            go_roundw
            case rel => exact ⟨k + 1, cu, by omega, by go_num, by rw [unhide HKN], HS5⟩
            case measure => simp [intOf]; omega
          · have b2 : (want == 2) = false := by simpa using h2
            clear h2
            go_wp2_with fail
            refine wp_region_quiet_comm 12 _ (by kernel_rfl) rfl rfl rfl (by kernel_rfl) (by kernel_rfl) (fun ops0 => ?_)
            simp only [List.take]
            repeat (quiet_step (fail))
            refine wpQuiet_nil ?_
            intro w4 hw4
            obtain ⟨m, rfl⟩ := hw4
            refine comm_send (ch := ck) (v := .agg #[.int .i64 1, .string (subj ++ ⟨#[32]⟩ ++ ending)]) (z := .tuple #[]) (by simp [go_sem, scase]) (unhide HCH) (by simp) ?_
            have hs := unhide HS m
            revert hs
            generalize (wr.drewN m).setChan ck 1 ((#[] : Array Value).push (.agg #[.int .i64 1, .string (subj ++ ⟨#[32]⟩ ++ ending)])) false (0 + 1) 0 false = w5
            intro hs
            have HS5 := hide hs
            clear hs HS ha1 ha2
            go_wp2
            go_roundw
            case rel => exact ⟨k + 1, cu, by omega, by go_num, by rw [unhide HKN], HS5⟩
            case measure => simp [intOf]; omega
      · simp only [if_true] at w2
        go_wp2_with (at_builtin; refine wpList_append_room1 _ rfl _ _ 27 rfl 40 i40 Ybad.underlying27 hi40 hz1 G n cap cu rfl (blk_new _ (unhide HI).g) ⟨wr.heap.size, 0, none⟩ (.pointer (some ⟨wk, 0, none⟩)) rfl (by simp [Addr.add]) rfl (by omega) (unhide HI).clen ?_; intro w3 hg3 ht3)
        go_roundw
        case rel =>
          have hof : (xs k).of = true := by rw [← unhide HX]
          have hg3' : w3.heap[G]? = some (.cells (cu.set (kp xs k).length (ptr (wl k))).toArray 40 (0, 0)) := by rw [unhide HN, unhide HWK]; exact hg3
          refine ⟨k + 1, _, by omega, by go_num, ?_, hide ((unhide HI).keepOne hlt hcap hof _ hg3' ht3)⟩
          rw [kp_yes xs k hof, List.length_append, unhide HN]; rfl
        case measure => simp [intOf]; omega
    · have hke : k = len := by omega
      subst hke
      have hI := unhide HI
      have hLG : ¬ L = G := blk_ne (unhide HL) (unhide HG) (by decide)
      have hLc : ∀ i, i < k → ¬ L = cl i := fun i hi => chan_ne (unhide HL) ((unhide HW).c i hi)
      have hL1 : wr.heap[L]? = some (.cells (line C (.slice (some ⟨G, 0, none⟩) k cap) tm) 31 (0, 0)) := hI.to.keep (unhide HL) (by
        rintro (h | ⟨i, hi, h⟩)
        · exact hLG h
        · exact hLc i hi h)
      have hmv := exit_facts hI hcap hL1
      have d4 := blk_cell hL1 4
      have hfL := blk_free hL1
      simp only [line, List.getElem?_toArray, List.getElem?_cons_zero, List.getElem?_cons_succ] at d4
      have hcle := fun (h : (kp xs k).length < k) c ty => run_clear_tail hI hcap (kp xs k).length c h ty
      have hL6 : (cleared wr G (kp xs k).length k).heap[L]? = some (.cells (line C (.slice (some ⟨G, 0, none⟩) k cap) tm) 31 (0, 0)) :=
        (TouchOnly.setCells (S := (· = G)) (fun _ => rfl) _ _ _ (TouchOnly.refl _ _)).keep hL1 hLG
      have hun : (kp xs k).length = k → cleared wr G (kp xs k).length k = wr := fun e => by rw [e]; simp [cleared, World.setCells]
      clear hI HI hLG hLc HL HW HU HSS HZ H0 HC HG l1 c2 l4 hz0 hz1 hz2 hi40
      revert hmv hcle hL6 hun hkl
      generalize (kp xs k).length = n
      intro hkl hmv hcle hL6 hun
      have e4 := blk_cell hL6 4
      have hf6 := blk_free hL6
      simp only [line, List.getElem?_toArray, List.getElem?_cons_zero, List.getElem?_cons_succ] at e4
      by_cases hnk : n < k
      · have hcl1 := hcle hnk
        clear hcle hun
        have HM := hide hmv
        have HL6 := hide hL6
        clear hmv hL6 hL1
        revert HM hcl1 e4 hf6 HL6
        generalize cleared wr G n k = w6
        intro e4 hf6 hcl1 HM HL6
        go_wp2_with fail
        refine (unhide HST _ (unhide HM)).mono ?_
        rintro e w2 ⟨rfl, hp, ht⟩
        have HF := hide (And.intro (unhide HM) (And.intro hp ht))
        clear HM hp ht hcl1 e4 hf6 HL6 d4 hfL
        go_wp2
        go_end0
        exact ⟨rfl, _, unhide HF⟩
      · have hnk' : n = k := by omega
        rw [hun hnk'] at hmv
        have hce := fun (w : World) x c ty => run_clear_empty (P := Ybad.prog) w 27 40 ty Ybad.underlying27 x c
        subst hnk'
        have HM := hide hmv
        clear hmv hcle hun hL6 hL1 e4 hf6
        rcases (show n < cap ∨ cap = n from by omega) with hcn | hcn
        rotate_left
        · subst hcn
          go_wp2_with fail
          refine (unhide HST _ (unhide HM)).mono ?_
          rintro e w2 ⟨rfl, hp, ht⟩
          have HF := hide (And.intro (unhide HM) (And.intro hp ht))
          clear HM hp ht d4 hfL hce
          go_wp2
          go_end0
          exact ⟨rfl, _, unhide HF⟩
        go_wp2_with fail
        all_goals refine (unhide HST _ (unhide HM)).mono ?_
        all_goals rintro e w2 ⟨rfl, hp, ht⟩
        all_goals have HF := hide (And.intro (unhide HM) (And.intro hp ht))
        all_goals clear HM hp ht d4 hfL hce
        all_goals go_wp2
        all_goals go_end0
        all_goals exact ⟨rfl, _, unhide HF⟩
end Go.Proofs.YbulkcangDoor.Moved
