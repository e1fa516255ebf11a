import Derived.Test.YbulkcangDoorLoop1
import Derived.Test.YbulkcangDoorMapOps
namespace Go.Proofs.YbulkcangDoor.Law
set_option linter.unusedVariables false
open Go.ChangeShapes Go.WideShapes Go.ChangeAt Go.RowKit Go.Conc Go.Proofs.YbulkcangDoor.Base Go.Proofs.YbulkcangDoor.Small Go.Proofs.YbulkcangDoor.Comm Go.Proofs.YbulkcangDoor.Waits Go.Proofs.YbulkcangDoor.Timers Go.Proofs.YbulkcangDoor.Moved

/-- the waits that came in -/
structure In (w : World) (b off len : Nat) (xs : Nat → Wx) : Prop where
  c0 : ∀ i, i < len → w.cell? ⟨b, off + i * 3, none⟩ = some (.bool (xs i).of)
  c1 : ∀ i, i < len → w.cell? ⟨b, off + i * 3 + 1, none⟩ = some (.int .i64 (xs i).want)
  c2 : ∀ i, i < len → w.cell? ⟨b, off + i * 3 + 2, none⟩ = some (.string (xs i).subj)

theorem own_cells {w : World} {base e g n cap : Nat} {v : Value} {xs : List Value} (h : w.ownsRow base e 1 v n xs) (hv : v = .slice (some ⟨g, 0, none⟩) n cap) : ∃ cur : List Value, w.heap[g]? = some (.cells cur.toArray e (0, 0)) ∧ cur.length = cap ∧ n ≤ cap ∧ cap ≤ maxLen ∧ cur.take n = xs := by
  subst hv
  rcases h.2 with ⟨h', _⟩ | ⟨g', cap', cur, h', _, hg, hnc, hcm, hs, ht⟩
  · simp at h'
  · simp only [Value.slice.injEq, Option.some.injEq, Addr.mk.injEq, and_true, true_and] at h'
    obtain ⟨rfl, rfl⟩ := h'
    exact ⟨cur.toList, by simpa using hg, by simpa using hs, hnc, hcm, by simpa using ht⟩

theorem own_touch {S : Nat → Prop} {w w' : World} {base e size n : Nat} {v : Value} {xs : List Value} (h : w.ownsRow base e size v n xs) (ht : TouchOnly S w w') (hs : ∀ b, v.ownBlock = some b → ¬ S b) : w'.ownsRow base e size v n xs := by
  refine ⟨h.1, ?_⟩
  rcases h.2 with hx | ⟨g, cp, cu, rfl, hg, hh, r⟩
  · exact .inl hx
  · exact .inr ⟨g, cp, cu, rfl, hg, ht.keep hh (hs g rfl), r⟩

theorem info3 : (Ybad.prog.info? 3).map (fun i => (i.zero, i.size, i.bytes)) = some (some (.int .i64 0), 1, 8) := by kernel_rfl
theorem made3 (n : Nat) : (madeCells (Value.int .i64 0).cells (n * 1)).toList = (List.replicate n (0 : Int)).map (Value.int .i64) := by
  have : (Value.int .i64 0).cells = #[.int .i64 0] := rfl
  rw [this, toList_madeCells_one]; simp
theorem own_full {w : World} {base e g n : Nat} {xs : List Value} (h : w.ownsRow base e 1 (.slice (some ⟨g, 0, none⟩) n n) n xs) : w.heap[g]? = some (.cells xs.toArray e (0, 0)) := by
  rcases h.2 with ⟨h', _⟩ | ⟨g', cap', cur, h', _, hg, _, _, hs, ht⟩
  · simp at h'
  · simp only [Value.slice.injEq, Option.some.injEq, Addr.mk.injEq, and_true, true_and] at h'
    obtain ⟨rfl, rfl⟩ := h'
    have : cur = xs.toArray := by
      rw [← ht, List.take_of_length_le (by rw [Array.length_toList, hs]; exact Nat.le_refl _)]
    rw [hg, this]

/-- all that lies when the first loop is through, the slice hung on the line -/
structure St (w wr : World) (len G cap : Nat) (cur cd : List Value) (tm : Value) (xs : Nat → Wx) (wl cl : Nat → Nat) : Prop where
  c : wr.heap[w.heap.size]? = some (.cells circ 62 (0, 0))
  l : wr.heap[w.heap.size + 1]? = some (.cells (line w.heap.size (.slice (some ⟨G, 0, none⟩) len cap) tm) 31 (0, 0))
  g : wr.heap[G]? = some (.cells cur.toArray 40 (0, 0))
  glen : cur.length = cap
  gget : ∀ i : Nat, i < len → cur[i]? = some (ptr (wl i))
  d : wr.heap[w.heap.size + 3]? = some (.cells cd.toArray 40 (0, 0))
  dlen : cd.length = len
  dget : ∀ i : Nat, i < len → cd[i]? = some (ptr (wl i))
  ws : Ws wr len (w.heap.size + 2) xs wl cl (fun _ => fresh)
  hi : ∀ i, i < len → w.heap.size + 4 ≤ wl i ∧ w.heap.size + 4 ≤ cl i
  hiG : w.heap.size + 4 ≤ G
  big : w.heap.size + 4 ≤ wr.heap.size
  to : Below w.heap.size w wr

/-- new blocks, and writes to blocks of none of those kinds -/
theorem St.keep {w wr w' : World} {S : Nat → Prop} {len G cap : Nat} {cur cd : List Value} {tm : Value} {xs : Nat → Wx} {wl cl : Nat → Nat} (h : St w wr len G cap cur cd tm xs wl cl) (ht : TouchOnly S wr w')
    (hs : ∀ b, S b → w.heap.size + 4 ≤ b ∧ ¬ b = G ∧ ∀ i, i < len → ¬ b = wl i ∧ ¬ b = cl i) : St w w' len G cap cur cd tm xs wl cl := by
  have hbig := h.big
  refine ⟨ht.keep h.c (fun e => by have := (hs _ e).1; omega), ht.keep h.l (fun e => by have := (hs _ e).1; omega), ht.keep h.g (fun e => (hs _ e).2.1 rfl), h.glen, h.gget, ht.keep h.d (fun e => by have := (hs _ e).1; omega), h.dlen, h.dget,
    h.ws.keep ht (fun i hi e => ((hs _ e).2.2 i hi).1 rfl) (fun i hi e => ((hs _ e).2.2 i hi).2 rfl), h.hi, h.hiG, by have := ht.size; omega, h.to.trans (ht.below (by omega) (fun b hb e => by have := (hs _ e).1; omega))⟩

/-- another map hung on the line -/
theorem St.hang {w wr : World} {len G cap : Nat} {cur cd : List Value} {tm : Value} {xs : Nat → Wx} {wl cl : Nat → Nat} (h : St w wr len G cap cur cd tm xs wl cl) (tm' : Value) :
    St w (wr.setCell ⟨w.heap.size + 1, 5, none⟩ tm') len G cap cur cd tm' xs wl cl := by
  have hbig := h.big
  have hiG := h.hiG
  have t : TouchOnly (· = w.heap.size + 1) wr (wr.setCell ⟨w.heap.size + 1, 5, none⟩ tm') := (TouchOnly.refl (· = w.heap.size + 1) wr).setCell (p := ⟨w.heap.size + 1, 5, none⟩) (fun _ => rfl) _
  exact ⟨t.keep h.c (by omega), blk_set 5 _ h.l, t.keep h.g (by omega), h.glen, h.gget, t.keep h.d (by omega), h.dlen, h.dget, h.ws.keep t (fun i hi e => by have := h.hi i hi; omega) (fun i hi e => by have := h.hi i hi; omega), h.hi, hiG, by have := t.size; omega,
    h.to.trans (t.below (by omega) (fun b hb e => by omega))⟩

theorem St.of1 {w wr : World} {len G cap : Nat} {xs : Nat → Wx} {wl cl : Nat → Nat} {cd : List Value} (h : L1 w wr len len xs wl cl (.slice (some ⟨G, 0, none⟩) len cap) cd) :
    ∃ cur, len ≤ cap ∧ cap ≤ maxLen ∧ St w (wr.setCell ⟨w.heap.size + 1, 4, none⟩ (.slice (some ⟨G, 0, none⟩) len cap)) len G cap cur cd (.map none) xs wl cl := by
  obtain ⟨cur, hg, hl, hle, hcm, ht⟩ := own_cells h.own rfl
  have hiG := (h.own.lt G rfl).1
  have hbig := h.big
  have t : TouchOnly (· = w.heap.size + 1) wr (wr.setCell ⟨w.heap.size + 1, 4, none⟩ (.slice (some ⟨G, 0, none⟩) len cap)) := (TouchOnly.refl (· = w.heap.size + 1) wr).setCell (p := ⟨w.heap.size + 1, 4, none⟩) (fun _ => rfl) _
  refine ⟨cur, hle, hcm, t.keep h.c (by omega), blk_set 4 _ h.l, t.keep hg (by omega), hl, ?_, t.keep h.d (by omega), h.dlen, h.dget, h.ws.keep t (fun i hi e => by have := h.hi i hi; omega) (fun i hi e => by have := h.hi i hi; omega), h.hi, hiG, by have := t.size; omega,
    h.to.trans (t.below (by omega) (fun b hb e => by omega))⟩
  intro i hi
  have h1 : (cur.take len)[i]? = some (ptr (wl i)) := by rw [ht]; simp [ptrs, hi]
  rw [List.getElem?_take, if_pos hi] at h1
  exact h1

/-- .. and of the timers j of kt -/
structure T2 (w wr : World) (len G cap : Nat) (cur cd : List Value) (xs : Nat → Wx) (wl cl : Nat → Nat) (M CV A kt j : Nat) (tl jl : Nat → Nat) : Prop where
  st : St w wr len G cap cur cd (.map (some M)) xs wl cl
  m : wr.heap[M]? = some (.map (ents j tl) j)
  tm : Tm wr j kt CV A tl jl
  a : wr.heap[A]? = some (.cells ((List.replicate kt (0 : Int)).map (Value.int .i64)).toArray 3 (0, 0))
  geA : w.heap.size + 4 ≤ A
  geM : w.heap.size + 4 ≤ M

theorem map_ne {w : World} {g c n t : Nat} {cs : Array Value} {f : Nat × Nat} {es : Array MapEntry} (h : w.heap[g]? = some (.cells cs t f)) (h' : w.heap[c]? = some (.map es n)) : ¬ g = c := by
  intro e; subst e; rw [h] at h'; cases h'

/-- one timer more -/
theorem T2.step {w wr : World} {len G cap : Nat} {cur cd : List Value} {xs : Nat → Wx} {wl cl : Nat → Nat} {M CV A kt j : Nat} {tl jl : Nat → Nat} (h : T2 w wr len G cap cur cd xs wl cl M CV A kt j tl jl) (hj : j < 8) :
    ∃ w', (Instr.mapUpdate 28 (.map (some M)) (.string (nm j)) (.pointer (some ⟨wr.heap.size + 1, 0, none⟩))).run Ybad.prog ((wr.alloc (.cells #[.int .i64 j] 3)).alloc (.cells (timer CV wr.heap.size) 51)).drew = .ok () w' ∧
      T2 w w' len G cap cur cd xs wl cl M CV A kt (j + 1) (fun i => if i = j then wr.heap.size + 1 else tl i) (fun i => if i = j then wr.heap.size else jl i) := by
  have hbig := h.st.big
  have hM : ((wr.alloc (.cells #[.int .i64 j] 3)).alloc (.cells (timer CV wr.heap.size) 51)).drew.heap[M]? = some (.map (ents j tl) j) := blk_new _ (blk_new _ h.m)
  have hr := run_upd _ M j tl (.pointer (some ⟨wr.heap.size + 1, 0, none⟩)) hj hM
  rw [ents_push] at hr
  have t0 : TouchOnly (fun _ => False) wr ((wr.alloc (.cells #[.int .i64 j] 3)).alloc (.cells (timer CV wr.heap.size) 51)).drew := (((TouchOnly.refl _ _).alloc _).alloc _).drew
  have t1 : TouchOnly (· = M) wr (ChangeMaps.setBlock ((wr.alloc (.cells #[.int .i64 j] 3)).alloc (.cells (timer CV wr.heap.size) 51)).drew M (.map (ents (j + 1) (fun i => if i = j then wr.heap.size + 1 else tl i)) (j + 1))) :=
    TouchOnly.setBlock (S := (· = M)) (g := M) (t0.mono (fun _ _ e => e.elim)) (fun _ => rfl) _
  have hM1 := set_at (w := ((wr.alloc (.cells #[.int .i64 j] 3)).alloc (.cells (timer CV wr.heap.size) 51)).drew) (r := M) (.map (ents (j + 1) (fun i => if i = j then wr.heap.size + 1 else tl i)) (j + 1)) (blk_lt hM)
  have hMlt := blk_lt h.m
  have hJ : (ChangeMaps.setBlock ((wr.alloc (.cells #[.int .i64 j] 3)).alloc (.cells (timer CV wr.heap.size) 51)).drew M (.map (ents (j + 1) (fun i => if i = j then wr.heap.size + 1 else tl i)) (j + 1))).heap[wr.heap.size]? = some (.cells #[.int .i64 j] 3 (0, 0)) := by
    simp only [ChangeMaps.setBlock]
    rw [Array.getElem?_setIfInBounds_ne (by omega)]
    exact blk_new _ (blk_last _ _)
  have hT : (ChangeMaps.setBlock ((wr.alloc (.cells #[.int .i64 j] 3)).alloc (.cells (timer CV wr.heap.size) 51)).drew M (.map (ents (j + 1) (fun i => if i = j then wr.heap.size + 1 else tl i)) (j + 1))).heap[wr.heap.size + 1]? = some (.cells (timer CV wr.heap.size) 51 (0, 0)) := by
    simp only [ChangeMaps.setBlock]
    rw [Array.getElem?_setIfInBounds_ne (by omega)]
    have := blk_last (wr.alloc (.cells #[.int .i64 j] 3)) (.cells (timer CV wr.heap.size) 51)
    rw [size_alloc] at this
    exact this
  refine ⟨_, hr, ?_, hM1, ⟨t1.keep h.tm.cv (map_ne h.tm.cv h.m), ?_, ?_, ?_⟩, t1.keep h.a (map_ne h.a h.m), h.geA, h.geM⟩
  · refine h.st.keep t1 (fun b e => ?_)
    subst e
    refine ⟨h.geM, fun e => map_ne h.st.g h.m e.symm, fun i hi => ⟨fun e => map_ne (h.st.ws.wt i hi) h.m e.symm, fun e => ?_⟩⟩
    have h1 := h.st.ws.c i hi
    rw [← e, h.m] at h1; cases h1
  · intro i hi
    by_cases e : i = j
    · subst e; simp only [if_true]; exact hT
    · simp only [e, if_false]; exact t1.keep (h.tm.t i (by omega)) (map_ne (h.tm.t i (by omega)) h.m)
  · intro i hi
    by_cases e : i = j
    · subst e; simp only [if_true]; exact hJ
    · simp only [e, if_false]; exact t1.keep (h.tm.j i (by omega)) (map_ne (h.tm.j i (by omega)) h.m)
  · intro i hi
    by_cases e : i = j
    · subst e; simp only [if_true]; have := blk_lt h.a; omega
    · simp only [e, if_false]; exact h.tm.ne i (by omega)

/-- the world with the round's wait, channel and waiter laid -/
def laidOne (wr : World) (x : Wx) (Pp : Nat) : World := (((wr.alloc (.cells #[.bool x.of, .int .i64 x.want, .string x.subj] 39)).alloc (.chan 1 #[] false 0 0 false)).alloc (.cells (wcells Pp x (wr.heap.size + 1)) 45)).drew

theorem laidOne_facts (wr : World) (x : Wx) (Pp : Nat) : TouchOnly (fun _ => False) wr (laidOne wr x Pp) ∧ (laidOne wr x Pp).heap[wr.heap.size + 1]? = some fresh ∧ (laidOne wr x Pp).heap[wr.heap.size + 1 + 1]? = some (.cells (wcells Pp x (wr.heap.size + 1)) 45 (0, 0)) := by
  refine ⟨((((TouchOnly.refl _ _).alloc _).alloc _).alloc _).drew, ?_, ?_⟩
  · have := blk_last (wr.alloc (.cells #[.bool x.of, .int .i64 x.want, .string x.subj] 39)) (.chan 1 #[] false 0 0 false)
    rw [size_alloc] at this
    exact blk_new _ this
  · have := blk_last ((wr.alloc (.cells #[.bool x.of, .int .i64 x.want, .string x.subj] 39)).alloc (.chan 1 #[] false 0 0 false)) (.cells (wcells Pp x (wr.heap.size + 1)) 45)
    rw [size_alloc, size_alloc] at this
    exact this

/-- the line behind 'moved', the answers drained as far as k -/
def drained (x : Wx) : Obj := if x.of then fresh else .chan 1 #[] false 1 1 false

structure Fin (w wr : World) (len G cap : Nat) (cd : List Value) (tm : Value) (ending : ByteArray) (xs : Nat → Wx) (wl cl : Nat → Nat) (k : Nat) : Prop where
  c : wr.heap[w.heap.size]? = some (.cells circ 62 (0, 0))
  l : wr.heap[w.heap.size + 1]? = some (.cells (line w.heap.size (.slice (some ⟨G, 0, none⟩) (kp xs len).length cap) tm) 31 (0, 0))
  kept : ∀ (j m : Nat), (kp xs len)[j]? = some m → wr.cell? ⟨G, j, none⟩ = some (ptr (wl m))
  gone : ∀ j : Nat, (kp xs len).length ≤ j → j < len → wr.cell? ⟨G, j, none⟩ = some (.pointer none)
  d : wr.heap[w.heap.size + 3]? = some (.cells cd.toArray 40 (0, 0))
  dget : ∀ i : Nat, i < len → cd[i]? = some (ptr (wl i))
  ws : Ws wr len (w.heap.size + 2) xs wl cl (fun i => if i < k then drained (xs i) else settled ending (xs i))
  hi : ∀ i, i < len → w.heap.size + 4 ≤ cl i
  big : w.heap.size + 4 ≤ wr.heap.size
  glt : G < wr.heap.size
  gne : ∀ i, i < len → ¬ cl i = G
  to : Below w.heap.size w wr

structure TmD (w wr : World) (M CV A kt : Nat) (tl : Nat → Nat) : Prop where
  m : wr.heap[M]? = some (.map (ents kt tl) kt)
  cv : wr.heap[CV]? = some (.cells #[.slice (some ⟨A, 0, none⟩) kt kt] 46 (0, 0))
  a : wr.heap[A]? = some (.cells ((List.replicate kt (1 : Int)).map (Value.int .i64)).toArray 3 (0, 0))

theorem TmD.keep {w wr w' : World} {M CV A kt : Nat} {tl : Nat → Nat} {S : Nat → Prop} (h : TmD w wr M CV A kt tl) (ht : TouchOnly S wr w') (h1 : ¬ S M) (h2 : ¬ S CV) (h3 : ¬ S A) : TmD w w' M CV A kt tl :=
  ⟨ht.keep h.m h1, ht.keep h.cv h2, ht.keep h.a h3⟩

theorem settled_of (ending : ByteArray) (x : Wx) : ∃ buf s, settled ending x = .chan 1 buf false s 0 false := settled_chan ending x

theorem Fin.of {w wr w1 w' : World} {len G cap : Nat} {cur cd : List Value} {tm : Value} {ending : ByteArray} {xs : Nat → Wx} {wl cl : Nat → Nat} {S : Nat → Prop} (h : St w wr len G cap cur cd tm xs wl cl)
    (hm : MovedTo wr w1 (w.heap.size + 1) w.heap.size G (w.heap.size + 2) len cap tm ending xs wl cl) (ht : TouchOnly S w1 w')
    (hs : ∀ b, S b → w.heap.size + 4 ≤ b ∧ ¬ b = G ∧ ∀ i, i < len → ¬ b = wl i ∧ ¬ b = cl i) : Fin w w' len G cap cd tm ending xs wl cl 0 := by
  have hbig := h.big
  have hiG := h.hiG
  have hcl : ∀ i, i < len → ¬ cl i = G := fun i hi e => chan_ne h.g (h.ws.c i hi) e.symm
  have low : ∀ (b : Nat) (o : Obj), b < w.heap.size + 4 → ¬ b = w.heap.size + 1 → wr.heap[b]? = some o → w1.heap[b]? = some o := by
    intro b o hb hne ho
    refine hm.to.keep ho ?_
    rintro (e | e | ⟨i, hi, e⟩)
    · exact hne e
    · omega
    · have := (h.hi i hi).2; omega
  have hns : ∀ b, b < w.heap.size + 4 → ¬ S b := fun b hb e => by have := (hs b e).1; omega
  have hGlt : G < w1.heap.size := by have := blk_lt h.g; have := hm.to.size; omega
  have hcell : ∀ j : Nat, w'.cell? ⟨G, j, none⟩ = w1.cell? ⟨G, j, none⟩ := fun j => World.cell?_of_block (w := w1) (ht.block G hGlt (fun e => (hs G e).2.1 rfl))
  refine ⟨ht.keep (low _ _ (by omega) (by omega) h.c) (hns _ (by omega)), ht.keep hm.l (hns _ (by omega)), fun j m hj => by rw [hcell]; exact hm.kept j m hj, fun j h1 h2 => by rw [hcell]; exact hm.gone j h1 h2,
    ht.keep (low _ _ (by omega) (by omega) h.d) (hns _ (by omega)), h.dget, (hm.ws.keep ht (fun i hi e => ((hs _ e).2.2 i hi).1 rfl) (fun i hi e => ((hs _ e).2.2 i hi).2 rfl)).congr (fun i hi => by simp), fun i hi => (h.hi i hi).2, ?_, ?_, hcl, ?_⟩
  · have := hm.to.size; have := ht.size; omega
  · have := ht.size; omega
  · refine (h.to.trans (hm.to.below (by omega) ?_)).trans (ht.below (by have := hm.to.size; omega) (fun b hb => hns b (by omega)))
    rintro b hb (e | e | ⟨i, hi, e⟩)
    · omega
    · omega
    · have := (h.hi i hi).2; omega

theorem kp_mono (xs : Nat → Wx) : ∀ (d k : Nat), ∃ l, kp xs (k + d) = kp xs k ++ l
  | 0, k => ⟨[], by simp⟩
  | d + 1, k => by
    obtain ⟨l, hl⟩ := kp_mono xs d k
    cases h : (xs (k + d)).of with
    | true => exact ⟨l ++ [k + d], by rw [← Nat.add_assoc, kp_yes xs (k + d) h, hl, List.append_assoc]⟩
    | false => exact ⟨l, by rw [← Nat.add_assoc, kp_no xs (k + d) h, hl]⟩

theorem kp_at (xs : Nat → Wx) {k len : Nat} (hk : k < len) (h : (xs k).of = true) : (kp xs k).length < (kp xs len).length ∧ (kp xs len)[(kp xs k).length]? = some k := by
  obtain ⟨l, hl⟩ := kp_mono xs (len - (k + 1)) (k + 1)
  rw [show k + 1 + (len - (k + 1)) = len from by omega, kp_yes xs k h] at hl
  rw [hl]
  refine ⟨by simp, ?_⟩
  rw [List.append_assoc, List.getElem?_append_right (Nat.le_refl _)]
  simp

theorem Fin.keep {w wr w' : World} {len G cap : Nat} {cd : List Value} {tm : Value} {ending : ByteArray} {xs : Nat → Wx} {wl cl : Nat → Nat} {k : Nat} (h : Fin w wr len G cap cd tm ending xs wl cl k) (ht : TouchOnly (fun _ => False) wr w') : Fin w w' len G cap cd tm ending xs wl cl k := by
  have hcell : ∀ j : Nat, w'.cell? ⟨G, j, none⟩ = wr.cell? ⟨G, j, none⟩ := fun j => World.cell?_of_block (w := wr) (ht.block G h.glt (fun e => e))
  exact ⟨ht.keep h.c (fun e => e), ht.keep h.l (fun e => e), fun j m hj => by rw [hcell]; exact h.kept j m hj, fun j h1 h2 => by rw [hcell]; exact h.gone j h1 h2, ht.keep h.d (fun e => e), h.dget,
    h.ws.keep ht (fun _ _ e => e) (fun _ _ e => e), h.hi, by have := ht.size; have := h.big; omega, by have := ht.size; have := h.glt; omega, h.gne, h.to.trans (ht.below (by have := h.big; omega) (fun _ _ e => e))⟩

theorem Fin.next {w wr : World} {len G cap : Nat} {cd : List Value} {tm : Value} {ending : ByteArray} {xs : Nat → Wx} {wl cl : Nat → Nat} {k : Nat} (h : Fin w wr len G cap cd tm ending xs wl cl k) (hof : (xs k).of = true) : Fin w wr len G cap cd tm ending xs wl cl (k + 1) := by
  refine ⟨h.c, h.l, h.kept, h.gone, h.d, h.dget, h.ws.congr (fun i hi => ?_), h.hi, h.big, h.glt, h.gne, h.to⟩
  by_cases e : i = k
  · subst e; simp [settled, drained, hof]
  · by_cases e2 : i < k
    · simp [e2, Nat.lt_succ_of_lt e2]
    · have : ¬ i < k + 1 := by omega
      simp [e2, this]

theorem Fin.drain {w wr : World} {len G cap : Nat} {cd : List Value} {tm : Value} {ending : ByteArray} {xs : Nat → Wx} {wl cl : Nat → Nat} {k : Nat} (h : Fin w wr len G cap cd tm ending xs wl cl k) (hk : k < len) (hof : (xs k).of = false) :
    Fin w (wr.setChan (cl k) 1 (#[reply ending (xs k)].extract 1 #[reply ending (xs k)].size) false 1 (0 + 1) false) len G cap cd tm ending xs wl cl (k + 1) := by
  have hck := h.ws.c k hk
  have hge := h.hi k hk
  have hch : wr.heap[cl k]? = some (.chan 1 #[reply ending (xs k)] false 1 0 false) := by simpa [settled, hof] using hck
  have hne : ∀ i, i < len → ¬ wl i = cl k := fun i hi => chan_ne (h.ws.wt i hi) hch
  have t : TouchOnly (· = cl k) wr (wr.setChan (cl k) 1 (#[reply ending (xs k)].extract 1 #[reply ending (xs k)].size) false 1 (0 + 1) false) := TouchOnly.setChan (S := (· = cl k)) (TouchOnly.refl _ _) (fun _ => rfl) _ _ _ _ _ _
  have hcell : ∀ j : Nat, (wr.setChan (cl k) 1 (#[reply ending (xs k)].extract 1 #[reply ending (xs k)].size) false 1 (0 + 1) false).cell? ⟨G, j, none⟩ = wr.cell? ⟨G, j, none⟩ := fun j => World.cell?_of_block (w := wr) (t.block G h.glt (fun e => h.gne k hk e.symm))
  have hbig := h.big
  refine ⟨t.keep h.c (by omega), t.keep h.l (by omega), fun j m hj => by rw [hcell]; exact h.kept j m hj, fun j h1 h2 => by rw [hcell]; exact h.gone j h1 h2, t.keep h.d (by omega), h.dget, (h.ws.send hk hne 1 _ false 1 (0 + 1) false).congr (fun i hi => ?_), h.hi, by have := t.size; omega, by have := t.size; have := h.glt; omega, h.gne,
    h.to.trans (t.below (by omega) (fun b hb e => by omega))⟩
  by_cases e : i = k
  · subst e; simp [drained, hof]
  · by_cases e2 : i < k
    · simp [e, e2, Nat.lt_succ_of_lt e2]
    · have : ¬ i < k + 1 := by omega
      simp [e, e2, this]

theorem run_len_map (w : World) (M n : Nat) (es : Array MapEntry) (ty : TypeId) (h : w.heap[M]? = some (.map es n)) : (Builtin.len_ #[28] ty #[.map (some M)]).run Ybad.prog w = .ok (.int .i64 es.size) w := by
  simp [Builtin.len_, run_underlying Ybad.underlying28, getObj_map h]
  rfl
theorem ents_size (k : Nat) (tl : Nat → Nat) : (ents k tl).size = k := by simp [ents]
theorem size_five : (⟨#[32, 105, 100, 108, 101]⟩ : ByteArray).size = 5 := rfl
theorem cat5 {P : Program} (s : ByteArray) (h : s.size ≤ 140737488355328) (w : World) : (Op.stringOp .add s ⟨#[32, 105, 100, 108, 101]⟩).run P w = .ok (.string (s ++ ⟨#[32, 105, 100, 108, 101]⟩)) w :=
  run_string_add_sum (P := P) (w := w) s ⟨#[32, 105, 100, 108, 101]⟩ (by rw [size_five]; omega)
theorem text_idle (s : ByteArray) : s ++ ⟨#[32]⟩ ++ idle = s ++ ⟨#[32, 105, 100, 108, 101]⟩ := by
  rw [ByteArray.append_assoc]; rfl
end Go.Proofs.YbulkcangDoor.Law
