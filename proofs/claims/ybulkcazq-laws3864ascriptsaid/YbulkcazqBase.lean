import Derived.Test.YbulkcazqRows
import Derived.Test.YbulkcazqComm
import Derived.WalkKit
import Derived.ProofKit
import Derived.Deep.Cut
import Derived.Laws.CopyOwn
import Derived.ChangeMaps5
import Derived.Deep.Draws
namespace Go.Proofs.Ybulkcazq.Base
open Go.ChangeShapes Go.WideShapes Go.ChangeAt Go.RowKit Go.Conc
open Go.ChangeMaps (setBlock)

theorem hide {p : Prop} (h : p) : Hid p := h
theorem unhide {p : Prop} (h : Hid p) : p := h
theorem blk_set {w : World} {g t : Nat} {cs : Array Value} (i : Nat) (v : Value) (h : w.heap[g]? = some (.cells cs t (0, 0))) : (w.setCell ⟨g, i, none⟩ v).heap[g]? = some (.cells (cs.setIfInBounds i v) t (0, 0)) := heap_setCell_same w g i cs t v h
theorem blk_oth {w : World} {g k : Nat} {o : Obj} (i : Nat) (v : Value) (hne : ¬ k = g) (h : w.heap[k]? = some o) : (w.setCell ⟨g, i, none⟩ v).heap[k]? = some o := by rw [heap_setCell_other w ⟨g, i, none⟩ k v hne]; exact h
theorem blk_new {w : World} {g : Nat} {o : Obj} (x : Obj) (h : w.heap[g]? = some o) : (w.alloc x).heap[g]? = some o := by
  rw [Below.heap_alloc w x g (Array.getElem?_eq_some_iff.1 h).1]; exact h
theorem blk_last (w : World) (x : Obj) : (w.alloc x).heap[w.heap.size]? = some x := heap_alloc_new w x
theorem blk_lt {w : World} {g : Nat} {o : Obj} (h : w.heap[g]? = some o) : g < w.heap.size := (Array.getElem?_eq_some_iff.1 h).1
theorem blk_cell {w : World} {g t : Nat} {cs : Array Value} (h : w.heap[g]? = some (.cells cs t (0, 0))) (i : Nat) : w.cell? ⟨g, i, none⟩ = cs[i]? := cell_of_row w g i cs t (0, 0) h
theorem blk_free {w : World} {g t : Nat} {cs : Array Value} (h : w.heap[g]? = some (.cells cs t (0, 0))) (i : Nat) : w.frozen? ⟨g, i, none⟩ = false := frozen_of_row w g i cs t h
theorem blk_chan {w : World} {g c cap s r : Nat} {buf : Array Value} {cl tm : Bool} {o : Obj} (hne : ¬ g = c) (h : w.heap[g]? = some o) : (w.setChan c cap buf cl s r tm).heap[g]? = some o := by
  simp only [World.setChan]; rw [Array.getElem?_setIfInBounds_ne (by omega)]; exact h
theorem size_alloc (w : World) (x : Obj) : (w.alloc x).heap.size = w.heap.size + 1 := by simp
theorem size_setCell (w : World) (a : Addr) (v : Value) : (w.setCell a v).heap.size = w.heap.size := by simp [World.setCell]

theorem blk_type {w : World} {g t t' : Nat} {c c' : Array Value} {f f' : Nat × Nat} (h : w.heap[g]? = some (.cells c t f)) (h' : w.heap[g]? = some (.cells c' t' f')) : t = t' := by
  rw [h] at h'; simp only [Option.some.injEq, Obj.cells.injEq] at h'; exact h'.2.1
theorem blk_ne {w : World} {g k t t' : Nat} {c c' : Array Value} {f f' : Nat × Nat} (h : w.heap[g]? = some (.cells c t f)) (h' : w.heap[k]? = some (.cells c' t' f')) (ht : ¬ t = t') : ¬ g = k := by
  intro e; subst e; exact ht (blk_type h h')
theorem chan_ne {w : World} {g c t cap s r : Nat} {cs buf : Array Value} {f : Nat × Nat} {b tm : Bool} (h : w.heap[g]? = some (.cells cs t f)) (h' : w.heap[c]? = some (.chan cap buf b s r tm)) : ¬ g = c := by
  intro e; subst e; rw [h] at h'; cases h'
theorem nodup_le : ∀ (k : Nat) (l : List Nat), l.Nodup → (∀ x ∈ l, x < k) → l.length ≤ k
  | 0, l, _, h => by
    cases l with
    | nil => simp
    | cons x xs => have := h x (by simp); omega
  | k + 1, l, hn, h => by
    by_cases hk : k ∈ l
    · have h1 := nodup_le k (l.erase k) (hn.erase k) (fun x hx => by
        have := (hn.mem_erase_iff).1 hx
        have h2 := h x this.2
        have := this.1
        omega)
      rw [List.length_erase_of_mem hk] at h1
      omega
    · have h1 := nodup_le k l hn (fun x hx => by
        have h2 := h x hx
        have : x ≠ k := fun e => hk (e ▸ hx)
        omega)
      omega

/-- WHAT A STEP MAY HAVE TOUCHED: of the blocks that were there those in S alone -/
structure TouchOnly (S : Nat → Prop) (w w' : World) : Prop where
  os : w'.os = w.os
  tape : w'.tape = w.tape
  output : w'.output = w.output
  size : w.heap.size ≤ w'.heap.size
  block : ∀ k, k < w.heap.size → ¬ S k → w'.heap[k]? = w.heap[k]?

theorem TouchOnly.refl (S : Nat → Prop) (w : World) : TouchOnly S w w := ⟨rfl, rfl, rfl, Nat.le_refl _, fun _ _ _ => rfl⟩
theorem TouchOnly.trans {S : Nat → Prop} {a b c : World} (h : TouchOnly S a b) (k : TouchOnly S b c) : TouchOnly S a c :=
  ⟨k.os.trans h.os, k.tape.trans h.tape, k.output.trans h.output, Nat.le_trans h.size k.size, fun i hi hs => (k.block i (Nat.lt_of_lt_of_le hi h.size) hs).trans (h.block i hi hs)⟩
theorem TouchOnly.mono {S T : Nat → Prop} {w w' : World} (h : TouchOnly S w w') (hs : ∀ k, k < w.heap.size → S k → T k) : TouchOnly T w w' := ⟨h.os, h.tape, h.output, h.size, fun k hk ht => h.block k hk (fun x => ht (hs k hk x))⟩
theorem TouchOnly.alloc {S : Nat → Prop} {a w : World} (h : TouchOnly S a w) (o : Obj) : TouchOnly S a (w.alloc o) :=
  ⟨h.os, h.tape, h.output, by rw [size_alloc]; have := h.size; omega, fun k hk hs => by rw [Below.heap_alloc w o k (by have := h.size; omega)]; exact h.block k hk hs⟩
theorem TouchOnly.drew {S : Nat → Prop} {a w : World} (h : TouchOnly S a w) : TouchOnly S a w.drew := ⟨h.os, h.tape, h.output, h.size, h.block⟩
theorem TouchOnly.drewN {S : Nat → Prop} {a w : World} (h : TouchOnly S a w) (n : Nat) : TouchOnly S a (w.drewN n) := ⟨h.os, h.tape, h.output, h.size, h.block⟩
theorem TouchOnly.setCell {S : Nat → Prop} {a w : World} (h : TouchOnly S a w) {p : Addr} (hp : p.block < a.heap.size → S p.block) (u : Value) : TouchOnly S a (w.setCell p u) :=
  ⟨h.os, h.tape, h.output, by rw [size_setCell]; exact h.size, fun k hk hs => by
    rw [Below.heap_setCell w p u k (fun e => hs (e ▸ hp (e ▸ hk)))]; exact h.block k hk hs⟩
theorem TouchOnly.setChan {S : Nat → Prop} {a w : World} (h : TouchOnly S a w) {c : Nat} (hc : c < a.heap.size → S c) (cap : Nat) (buf : Array Value) (cl : Bool) (s r : Nat) (tm : Bool) : TouchOnly S a (w.setChan c cap buf cl s r tm) :=
  ⟨h.os, h.tape, h.output, by rw [size_setChan]; exact h.size, fun k hk hs => by
    have hne : c ≠ k := fun e => by subst e; exact hs (hc hk)
    simp only [World.setChan]; rw [Array.getElem?_setIfInBounds_ne hne]; exact h.block k hk hs⟩
theorem TouchOnly.setRow {S : Nat → Prop} {a w : World} (h : TouchOnly S a w) {g : Nat} (hc : g < a.heap.size → S g) (cs : Array Value) : TouchOnly S a (w.setRow g cs) :=
  ⟨h.os, h.tape, h.output, by simp only [World.setRow, Array.size_modify]; exact h.size, fun k hk hs => by
    rw [setRow_other w g k cs (fun e => hs (e ▸ hc (e ▸ hk)))]; exact h.block k hk hs⟩
theorem TouchOnly.setBlock {S : Nat → Prop} {a w : World} (h : TouchOnly S a w) {g : Nat} (hc : g < a.heap.size → S g) (o : Obj) : TouchOnly S a (setBlock w g o) :=
  ⟨h.os, h.tape, h.output, by simp only [ChangeMaps.setBlock, Array.size_setIfInBounds]; exact h.size, fun k hk hs => by
    have hne : g ≠ k := fun e => by subst e; exact hs (hc hk)
    simp only [ChangeMaps.setBlock]; rw [Array.getElem?_setIfInBounds_ne hne]; exact h.block k hk hs⟩
theorem TouchOnly.grown {S : Nat → Prop} {a w w' : World} {row : Option Nat} (h : TouchOnly S a w) (hg : w.grownBy w' row) (hr : ∀ k, row = some k → k < a.heap.size → S k) : TouchOnly S a w' :=
  ⟨hg.os.trans h.os, hg.tape.trans h.tape, hg.output.trans h.output, Nat.le_trans h.size hg.size, fun k hk hs => by
    rw [hg.block k (by have := h.size; omega) (fun e => hs (hr k e.symm hk))]; exact h.block k hk hs⟩
theorem TouchOnly.keep {S : Nat → Prop} {w w' : World} (h : TouchOnly S w w') {k : Nat} {o : Obj} (hk : w.heap[k]? = some o) (hs : ¬ S k) : w'.heap[k]? = some o := by
  rw [h.block k (blk_lt hk) hs]; exact hk
theorem TouchOnly.below {S : Nat → Prop} {w w' : World} (h : TouchOnly S w w') {B : Nat} (hB : B ≤ w.heap.size) (hs : ∀ k, k < B → ¬ S k) : Below B w w' :=
  ⟨h.os, h.tape, h.output, h.size, fun k hk => h.block k (by omega) (hs k hk)⟩
theorem TouchOnly.of_below {B : Nat} {w w' : World} (h : Below B w w') : TouchOnly (fun k => B ≤ k) w w' := ⟨h.os, h.tape, h.output, h.size, fun k _ hs => h.block k (by omega)⟩
end Go.Proofs.Ybulkcazq.Base
