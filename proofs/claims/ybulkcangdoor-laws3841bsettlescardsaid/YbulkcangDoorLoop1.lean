import Derived.Test.YbulkcangDoorMoved0
import Derived.BigRegion
namespace Go.Proofs.YbulkcangDoor.Law
set_option linter.unusedVariables false
open Go.ChangeShapes Go.WideShapes Go.ChangeAt Go.RowKit Go.Conc Go.Proofs.YbulkcangDoor.Base Go.Proofs.YbulkcangDoor.Small Go.Proofs.YbulkcangDoor.Comm Go.Proofs.YbulkcangDoor.Waits Go.Proofs.YbulkcangDoor.Timers Go.Proofs.YbulkcangDoor.Moved

theorem mk42 (w : World) : (Instr.makeChan 42 (.int .i64 1)).run Ybad.prog w = .ok (.chan (some w.heap.size)) (w.alloc (.chan 1 #[] false 0 0 false)) := by
  have h : (Ybad.prog.info? 56).map (·.bytes) = some 24 := by kernel_rfl
  obtain ⟨i, hi, hb⟩ := Option.map_eq_some_iff.1 h
  simpa using run_makeChan (P := Ybad.prog) (w := w) Ybad.underlying42 hi .i64 1 (by omega) (by rw [hb]; omega)

def ptrs (wl : Nat → Nat) (k : Nat) : List Value := (List.range k).map fun i => ptr (wl i)

/-- what the first loop has laid, k rounds behind -/
structure L1 (w wr : World) (len k : Nat) (xs : Nat → Wx) (wl cl : Nat → Nat) (v : Value) (cd : List Value) : Prop where
  own : wr.ownsRow (w.heap.size + 4) 40 1 v k (ptrs wl k)
  nil : k = 0 → v = .slice none 0 0
  d : wr.heap[w.heap.size + 3]? = some (.cells cd.toArray 40 (0, 0))
  dlen : cd.length = len
  dget : ∀ i : Nat, i < k → cd[i]? = some (ptr (wl i))
  ws : Ws wr k (w.heap.size + 2) xs wl cl (fun _ => fresh)
  hi : ∀ i, i < k → w.heap.size + 4 ≤ wl i ∧ w.heap.size + 4 ≤ cl i
  c : wr.heap[w.heap.size]? = some (.cells circ 62 (0, 0))
  l : wr.heap[w.heap.size + 1]? = some (.cells (line w.heap.size (.slice none 0 0) (.map none)) 31 (0, 0))
  big : w.heap.size + 4 ≤ wr.heap.size
  to : Below w.heap.size w wr

theorem ptrs_succ (wl : Nat → Nat) (k : Nat) : ptrs wl (k + 1) = ptrs wl k ++ [ptr (wl k)] := by simp [ptrs, List.range_succ]
theorem ptrs_congr {wl wl' : Nat → Nat} {k : Nat} (h : ∀ i, i < k → wl i = wl' i) : ptrs wl k = ptrs wl' k := by
  simp only [ptrs]; apply List.map_congr_left; intro i hi; rw [h i (by simpa using hi)]

def upd (f : Nat → Nat) (k v : Nat) : Nat → Nat := fun i => if i = k then v else f i
theorem upd_at (f : Nat → Nat) (k v : Nat) : upd f k v k = v := by simp [upd]
theorem upd_ne (f : Nat → Nat) (k v i : Nat) (h : ¬ i = k) : upd f k v i = f i := by simp [upd, h]

/-- one round more: a waiter and its channel laid, both slices grown -/
theorem L1.step {w wr w2 w3 w4 : World} {len k : Nat} {xs : Nat → Wx} {wl cl : Nat → Nat} {v v' : Value} {cd : List Value} (h : L1 w wr len k xs wl cl v cd) (hk : k < len) (n : Nat) (o3 o4 : Obj)
    (ht : TouchOnly (fun _ => False) wr w2) (hn : wr.heap.size ≤ n) (hch : w2.heap[n]? = some fresh) (hwt : w2.heap[n + 1]? = some (.cells (wcells (w.heap.size + 2) (xs k) n) 45 (0, 0)))
    (ho3 : w3.ownsRow (w.heap.size + 4) 40 1 v' (k + 1) (ptrs wl k ++ [ptr (n + 1)])) (hg3 : (w2.alloc o3).grownBy w3 v.ownBlock) (hnn : ¬ v' = .slice none 0 0)
    (hd4 : w4.heap[w.heap.size + 3]? = some (.cells (cd.set k (ptr (n + 1))).toArray 40 (0, 0))) (ht4 : TouchOnly (· = w.heap.size + 3) (w3.alloc o4) w4) :
    L1 w w4 len (k + 1) xs (upd wl k (n + 1)) (upd cl k n) v' (cd.set k (ptr (n + 1))) := by
  have hbig := h.big
  have hown_lt := h.own.lt
  -- what changed from wr to w3: the row of v alone
  have t23 : TouchOnly (fun b => v.ownBlock = some b) w2 w3 := ((TouchOnly.refl _ _).alloc o3).grown hg3 (fun b e _ => e)
  have t13 : TouchOnly (fun b => v.ownBlock = some b) wr w3 := (ht.mono (fun _ _ e => e.elim)).trans t23
  have t34 : TouchOnly (· = w.heap.size + 3) w3 w4 := ((TouchOnly.refl _ _).alloc o4).trans ht4
  have hrow : ∀ b : Nat, v.ownBlock = some b → w.heap.size + 4 ≤ b ∧ ∃ cs, wr.heap[b]? = some (.cells cs 40 (0, 0)) := by
    intro b hb
    refine ⟨(hown_lt b hb).1, ?_⟩
    rcases h.own.2 with ⟨rfl, _⟩ | ⟨g, cp, cu, rfl, _, hg, _⟩
    · simp [Value.ownBlock] at hb
    · simp [Value.ownBlock] at hb; subst hb; exact ⟨cu, hg⟩
  have low : ∀ (b : Nat) (o : Obj), b < w.heap.size + 3 → wr.heap[b]? = some o → w4.heap[b]? = some o := by
    intro b o hb ho
    exact t34.keep (t13.keep ho (fun e => by have := (hrow b e).1; omega)) (by omega)
  have keepW : ∀ (b : Nat) (cs : Array Value), wr.heap[b]? = some (.cells cs 45 (0, 0)) → w4.heap[b]? = some (.cells cs 45 (0, 0)) := by
    intro b cs hb
    refine t34.keep (t13.keep hb (fun e => ?_)) (blk_ne hb h.d (by decide))
    obtain ⟨_, cs', h'⟩ := hrow b e
    exact absurd (blk_type hb h') (by decide)
  have keepC : ∀ (b cp s r : Nat) (buf : Array Value) (x y : Bool), wr.heap[b]? = some (.chan cp buf x s r y) → w4.heap[b]? = some (.chan cp buf x s r y) := by
    intro b cp s r buf x y hb
    refine t34.keep (t13.keep hb (fun e => ?_)) (fun e => chan_ne h.d hb e.symm)
    obtain ⟨_, cs', h'⟩ := hrow b e
    rw [hb] at h'; cases h'
  have hnrow : ∀ b, wr.heap.size ≤ b → ¬ v.ownBlock = some b := fun b hb e => by have := (hown_lt b e).2; omega
  have hch4 : w4.heap[n]? = some fresh := t34.keep (t23.keep hch (hnrow n hn)) (by omega)
  have hwt4 : w4.heap[n + 1]? = some (.cells (wcells (w.heap.size + 2) (xs k) n) 45 (0, 0)) := t34.keep (t23.keep hwt (hnrow (n + 1) (by omega))) (by omega)
  refine ⟨?_, by omega, hd4, by simp [h.dlen], ?_, ⟨?_, ?_, ?_⟩, ?_, low _ _ (by omega) h.c, low _ _ (by omega) h.l, ?_, ?_⟩
  · have e1 : ptrs (upd wl k (n + 1)) (k + 1) = ptrs wl k ++ [ptr (n + 1)] := by
      rw [ptrs_succ, upd_at, ptrs_congr (wl' := wl) (fun i hi => upd_ne _ _ _ _ (by omega))]
    rw [e1]
    refine ⟨ho3.1, ?_⟩
    rcases ho3.2 with hx | ⟨g, cp, cu, hv, hg, hh, r⟩
    · exact .inl hx
    · exact .inr ⟨g, cp, cu, hv, hg, t34.keep hh (by omega), r⟩
  · intro i hi
    by_cases e : i = k
    · subst e; rw [List.getElem?_set_self (by rw [h.dlen]; exact hk), upd_at]
    · rw [List.getElem?_set_ne (fun x => e x.symm), upd_ne _ _ _ _ e]; exact h.dget i (by omega)
  · intro i hi
    by_cases e : i = k
    · subst e; rw [upd_at, upd_at]; exact hwt4
    · rw [upd_ne _ _ _ _ e, upd_ne _ _ _ _ e]; exact keepW _ _ (h.ws.wt i (by omega))
  · intro i hi
    by_cases e : i = k
    · subst e; rw [upd_at]; exact hch4
    · rw [upd_ne _ _ _ _ e]; exact keepC _ _ _ _ _ _ _ (h.ws.c i (by omega))
  · intro i j hi hj e
    have hlt : ∀ i, i < k → cl i < wr.heap.size := fun i hi => blk_lt (h.ws.c i hi)
    by_cases e1 : i = k
    · by_cases e2 : j = k
      · omega
      · rw [e1, upd_at, upd_ne _ _ _ _ e2] at e; have := hlt j (by omega); omega
    · by_cases e2 : j = k
      · rw [e2, upd_at, upd_ne _ _ _ _ e1] at e; have := hlt i (by omega); omega
      · rw [upd_ne _ _ _ _ e1, upd_ne _ _ _ _ e2] at e; exact h.ws.inj i j (by omega) (by omega) e
  · intro i hi
    by_cases e : i = k
    · subst e; rw [upd_at, upd_at]; omega
    · rw [upd_ne _ _ _ _ e, upd_ne _ _ _ _ e]; exact h.hi i (by omega)
  · have := t13.size; have := t34.size; omega
  · exact (h.to.trans (t13.below (by omega) (fun b hb e => by have := (hrow b e).1; omega))).trans (t34.below (by have := t13.size; omega) (fun b hb e => by omega))
end Go.Proofs.YbulkcangDoor.Law
