import Derived.Test.YbulkcangDoorSmall
import Derived.Maps.RangeRun
namespace Go.Proofs.YbulkcangDoor.Timers
set_option linter.unusedVariables false
open Go.ChangeShapes Go.WideShapes Go.ChangeAt Go.RowKit Go.Conc Go.Proofs.YbulkcangDoor.Base Go.Proofs.YbulkcangDoor.Small
open Go.ChangeMaps (setBlock)

def letters : ByteArray := ⟨#[97, 98, 99, 100, 101, 102, 103, 104]⟩
def nm (i : Nat) : ByteArray := letters.extract i (i + 1)
def ent (i t : Nat) : MapEntry := { key := .string (nm i), val := .pointer (some ⟨t, 0, none⟩), born := i }
def ents (k : Nat) (tl : Nat → Nat) : Array MapEntry := ((List.range k).map fun i => ent i (tl i)).toArray

def timer (CV j : Nat) : Array Value := #[.pointer none, .func (.func 5) #[] #[.pointer (some ⟨CV, 0, none⟩), .pointer (some ⟨j, 0, none⟩)]]

/-- the timers as they lie: k of them -/
structure Tm (w : World) (k n : Nat) (CV A : Nat) (tl jl : Nat → Nat) : Prop where
  cv : w.heap[CV]? = some (.cells #[.slice (some ⟨A, 0, none⟩) n n] 46 (0, 0))
  t : ∀ i, i < k → w.heap[tl i]? = some (.cells (timer CV (jl i)) 51 (0, 0))
  j : ∀ i, i < k → w.heap[jl i]? = some (.cells #[.int .i64 i] 3 (0, 0))
  ne : ∀ i, i < k → ¬ jl i = A

theorem Tm.keep {w w' : World} {k n CV A : Nat} {tl jl : Nat → Nat} {S : Nat → Prop} (h : Tm w k n CV A tl jl) (ht : TouchOnly S w w')
    (h1 : ¬ S CV) (h2 : ∀ i, i < k → ¬ S (tl i)) (h3 : ∀ i, i < k → ¬ S (jl i)) : Tm w' k n CV A tl jl :=
  ⟨ht.keep h.cv h1, fun i hi => ht.keep (h.t i hi) (h2 i hi), fun i hi => ht.keep (h.j i hi) (h3 i hi), h.ne⟩

theorem mem_ents {k : Nat} {tl : Nat → Nat} {e : MapEntry} (h : e ∈ (ents k tl).toList) : ∃ i, i < k ∧ e = ent i (tl i) := by
  simp only [ents, List.mem_map, List.mem_range] at h
  obtain ⟨i, hi, rfl⟩ := h
  exact ⟨i, hi, rfl⟩
theorem ents_born (k : Nat) (tl : Nat → Nat) : (ents k tl).toList.map (·.born) = List.range k := by
  simp only [ents, List.map_map]
  apply List.ext_getElem
  · simp
  · intro i h1 h2; simp [ent]

def cnts (k : Nat) (seen : Array Nat) : List Int := (List.range k).map fun i => if seen.contains i then 1 else 0
theorem cnts_len (k : Nat) (seen : Array Nat) : (cnts k seen).length = k := by simp [cnts]
theorem cnts_bd (k : Nat) (seen : Array Nat) : ∀ n ∈ cnts k seen, 0 ≤ n ∧ n ≤ 1 := by
  intro n hn
  simp only [cnts, List.mem_map] at hn
  obtain ⟨i, _, rfl⟩ := hn
  split <;> omega
theorem cnts_push (k i : Nat) (seen : Array Nat) (hi : i < k) (hs : seen.contains i = false) : (cnts k seen).set i ((cnts k seen)[i]?.getD 0 + 1) = cnts k (seen.push i) := by
  apply List.ext_getElem
  · simp [cnts]
  · intro j h1 h2
    simp only [cnts_len, List.length_set] at h1
    rw [List.getElem_set]
    have hs' : ¬ i ∈ seen := by simpa using hs
    split
    · rename_i h; subst h
      simp [cnts, hi, hs']
    · rename_i h
      have hji : ¬ j = i := fun e => h e.symm
      simp [cnts, Array.mem_push, hji]

theorem left_mem {k : Nat} {tl : Nat → Nat} {seen : Array Nat} {e : MapEntry} (h : e ∈ (leftOf (ents k tl) seen).toList) : ∃ i, i < k ∧ e = ent i (tl i) ∧ seen.contains i = false := by
  simp only [leftOf, Array.toList_filter, List.mem_filter] at h
  obtain ⟨i, hi, rfl⟩ := mem_ents h.1
  exact ⟨i, hi, rfl, by simpa [ent] using h.2⟩
theorem left_none {k : Nat} {tl : Nat → Nat} {seen : Array Nat} (h : (leftOf (ents k tl) seen).size = 0) : cnts k seen = List.replicate k 1 := by
  have h0 : leftOf (ents k tl) seen = #[] := Array.eq_empty_of_size_eq_zero h
  apply List.ext_getElem
  · simp [cnts]
  · intro i h1 h2
    simp only [cnts_len] at h1
    simp only [cnts, List.getElem_map, List.getElem_range, List.getElem_replicate]
    by_cases hc : seen.contains i = true
    · rw [if_pos hc]
    · exfalso
      have : ent i (tl i) ∈ leftOf (ents k tl) seen := by
        unfold leftOf
        rw [Array.mem_filter]
        refine ⟨?_, by simpa [ent] using hc⟩
        simp only [ents, List.mem_toArray, List.mem_map, List.mem_range]
        exact ⟨i, h1, rfl⟩
      rw [h0] at this
      simp at this

def leftN (w : World) (r k : Nat) : Nat := match w.heap[r]? with | some (.mapIter _ _ seen _) => k - seen.size | _ => 0
theorem leftN_of {w : World} {r k : Nat} {m : Option Nat} {a c : Nat} {seen : Array Nat} (h : w.heap[r]? = some (.mapIter m a seen c)) : leftN w r k = k - seen.size := by simp [leftN, h]
theorem set_at {w : World} {r : Nat} (o : Obj) (h : r < w.heap.size) : (setBlock w r o).heap[r]? = some o := by simp [setBlock, h]
theorem nodup_size {seen : Array Nat} {k : Nat} (h : seen.toList.Nodup) (hk : ∀ i ∈ seen, i < k) : seen.size ≤ k := by
  have := nodup_le k seen.toList h (fun x hx => hk x (by simpa using hx))
  simpa using this

theorem run_next_none {P : Program} (w : World) (r a c : Nat) (b : Array Nat) (ty : TypeId) (hr : w.heap[r]? = some (.mapIter none a b c)) :
    (Instr.next (.pointer (some ⟨r, 0, none⟩)) false ty).run P w = .ok (.tuple #[.bool false]) w := by
  simp only [Instr.next, getObj, Sem.run_bind, Sem.run, hr, Result.andThen]
  rfl

set_option maxHeartbeats 1000000 in
theorem stop_nil (L : Nat) (ln : Array Value) (w : World) (hL : w.heap[L]? = some (.cells ln 31 (0, 0))) (h5 : ln[5]? = some (.map none)) :
    Calls Ybad.prog 10 #[.pointer (some ⟨L, 0, none⟩)] w fun e w' => e = .returned (.tuple #[]) ∧ TouchOnly (fun _ => False) w w' := by
  have c5 := (blk_cell hL 5).trans h5
  have hr := run_range_nilMap (P := Ybad.prog) w 28 9 47 Ybad.underlying28
  have hn := run_next_none (P := Ybad.prog) (w.alloc (.mapIter none 0 #[] 0)) w.heap.size 0 0 #[] 0 (blk_last _ _)
  clear hL h5
  go_enter Ybad.func10, Ybad.ntmps10
  go_wp2
  refine wp_loop_rounds 1 ?_
  rw [rounds_succ]
  go_wp2
  go_end0
  exact ⟨rfl, (TouchOnly.refl _ _).alloc _⟩

set_option maxHeartbeats 1000000 in
theorem stop_some (L M CV A k : Nat) (tl jl : Nat → Nat) (ln : Array Value) (w : World) (hk7 : k ≤ 7) (hL : w.heap[L]? = some (.cells ln 31 (0, 0))) (h5 : ln[5]? = some (.map (some M)))
    (hM : w.heap[M]? = some (.map (ents k tl) k)) (hT : Tm w k k CV A tl jl) (hA : w.heap[A]? = some (.cells ((List.replicate k (0 : Int)).map (Value.int .i64)).toArray 3 (0, 0))) :
    Calls Ybad.prog 10 #[.pointer (some ⟨L, 0, none⟩)] w fun e w' => e = .returned (.tuple #[]) ∧ w'.heap[A]? = some (.cells ((List.replicate k (1 : Int)).map (Value.int .i64)).toArray 3 (0, 0)) ∧ TouchOnly (· = A) w w' := by
  have c5 := (blk_cell hL 5).trans h5
  have hr := run_range_map (P := Ybad.prog) w 28 9 47 M (ents k tl) k Ybad.underlying28 hM
  have hrlt : M < w.heap.size := blk_lt hM
  have hAlt : A < w.heap.size := blk_lt hA
  have hMA : ¬ M = A := by intro e; subst e; rw [hM] at hA; cases hA
  have HM := hide hM
  have HT := hide hT
  have HA := hide hA
  clear hL h5 hM hT hA
  go_enter Ybad.func10, Ybad.ntmps10
  go_wp2
  go_loopw [] (fun wr => ∃ seen : Array Nat, Hid (wr.heap[w.heap.size]? = some (.mapIter (some M) k seen k)) ∧ seen.size ≤ k ∧ (∀ i ∈ seen, i < k) ∧ Hid (seen.toList.Nodup) ∧
      Hid (wr.heap[A]? = some (.cells ((cnts k seen).map (Value.int .i64)).toArray 3 (0, 0))) ∧ Hid (TouchOnly (· = A) w wr)) (fun wr => leftN wr w.heap.size k)
  case atStart =>
    refine ⟨#[], hide (blk_last _ _), Nat.zero_le _, fun i hi => by simp at hi, hide (by simp), hide ?_, hide ((TouchOnly.refl _ _).alloc _)⟩
    have : cnts k #[] = List.replicate k 0 := by
      apply List.ext_getElem
      · simp [cnts]
      · intro i h1 h2; simp [cnts]
    rw [this]
    exact blk_new _ (unhide HA)
  case round =>
    obtain ⟨seen, HI, hss, hsk, HN, HC, HTo⟩ := hrel
    have hT := unhide HT
    have hto := unhide HTo
    have hM1 : wr.heap[M]? = some (.map (ents k tl) k) := hto.keep (unhide HM) hMA
    have hT1 : Tm wr k k CV A tl jl := hT.keep hto (blk_ne hT.cv (unhide HA) (by decide))
      (by
        intro i hi
        exact blk_ne (hT.t i hi) (unhide HA) (by decide))
      (by
        intro i hi
        exact hT.ne i hi)
    rcases run_next_at (P := Ybad.prog) wr 0 w.heap.size M k k seen (ents k tl) k (unhide HI) hM1 (fun x hx => by obtain ⟨i, hi, rfl⟩ := mem_ents hx; simp only [ent]; omega) (Nat.le_refl _) with ⟨h0, hn⟩ | ⟨e, he, w1, hw1, hn⟩
    · have hcn : cnts k seen = List.replicate k 1 := left_none h0
      have HC1 := hide (hcn ▸ unhide HC)
      clear hM1 hT1 h0 hcn hto hT
      go_wp2
      go_end0
      exact ⟨rfl, unhide HC1, unhide HTo⟩
    · obtain ⟨i, hik, rfl, hsi⟩ := left_mem he
      have hrlt' : w.heap.size < w1.heap.size := by rcases hw1 with rfl | rfl <;> exact blk_lt (unhide HI)
      have hto1 : TouchOnly (· = A) w w1 := by
        rcases hw1 with rfl | rfl
        · exact hto
        · exact hto.drew
      have hin : ∀ j : Nat, w1.heap[j]? = wr.heap[j]? := by intro j; rcases hw1 with rfl | rfl <;> rfl
      have hto2 : TouchOnly (· = A) w (setBlock w1 w.heap.size (.mapIter (some M) k (seen.push i) k)) := hto1.setBlock (fun h => absurd h (Nat.lt_irrefl _)) _
      have hI2 := set_at (w := w1) (r := w.heap.size) (.mapIter (some M) k (seen.push i) k) hrlt'
      have hA2 : (setBlock w1 w.heap.size (.mapIter (some M) k (seen.push i) k)).heap[A]? = some (.cells ((cnts k seen).map (Value.int .i64)).toArray 3 (0, 0)) := by
        simp only [setBlock]
        rw [Array.getElem?_setIfInBounds_ne (by omega), hin]
        exact unhide HC
      simp only [ent] at hn
      revert hto2 hI2 hA2 hn
      generalize setBlock w1 w.heap.size (.mapIter (some M) k (seen.push i) k) = w2
      intro hn hto2 hI2 hA2
      have hM2 : w2.heap[M]? = some (.map (ents k tl) k) := hto2.keep (unhide HM) hMA
      have hT2 : Tm w2 k k CV A tl jl := hT.keep hto2 (blk_ne hT.cv (unhide HA) (by decide))
        (by
          intro i hi
          exact blk_ne (hT.t i hi) (unhide HA) (by decide))
        (by
          intro i hi
          exact hT.ne i hi)
      have hent := run_entry_at (P := Ybad.prog) w2 w.heap.size M k seen (ents k tl) k (ent i (tl i)) hI2 hM2 (by simp only [ents, List.mem_map, List.mem_range]; exact ⟨i, hik, rfl⟩) (by rw [ents_born]; exact List.nodup_range)
      simp only [ent] at hent
      have ct := blk_cell (hT2.t i hik) 1
      have hcl := holds_any CV (jl i) A k i (cnts k seen) w2 (by omega) hik (cnts_len _ _) (cnts_bd _ _) hT2.cv (hT2.j i hik) hA2
      rw [cnts_push k i seen hik hsi] at hcl
      simp only [timer, List.getElem?_toArray, List.getElem?_cons_zero, List.getElem?_cons_succ] at ct
      generalize jl i = J at ct hcl
      generalize tl i = Tb at ct hn hent
      have HCL := hide hcl
      have HTo2 := hide hto2
      have HI2 := hide hI2
      have hsi' : ¬ i ∈ seen := by simpa using hsi
      have HN2 := hide (show (seen.push i).toList.Nodup by
        rw [Array.toList_push, List.nodup_append]
        exact ⟨unhide HN, by simp, by intro a ha b hb; simp at hb; subst hb; intro e; subst e; exact hsi' (by simpa using ha)⟩)
      have hsz : (seen.push i).size ≤ k := nodup_size (unhide HN2) (by
        intro x hx
        rcases Array.mem_push.1 hx with h | h
        · exact hsk x h
        · omega)
      have hm2 : seen.size + 1 ≤ k := by simpa using hsz
      clear hcl hto2 hI2 hM2 hT2 hA2 hM1 hT1 he hto hT hw1 hto1 hin hrlt' HTo HN
      go_wp2_with fail
      refine (unhide HCL).mono ?_
      rintro e w3 ⟨rfl, hA3, ht3⟩
      have HA3 := hide hA3
      have HT3 := hide ht3
      clear hA3 ht3 HCL hent hn ct
      go_wp2
      go_roundw
      case rel =>
        refine ⟨seen.push i, hide ((unhide HT3).keep (unhide HI2) (by omega)), hsz, ?_, HN2, HA3, hide ((unhide HTo2).trans (unhide HT3))⟩
        intro x hx
        rcases Array.mem_push.1 hx with h | h
        · exact hsk x h
        · omega
      case measure =>
        rw [leftN_of ((unhide HT3).keep (unhide HI2) (by omega)), leftN_of (unhide HI)]
        simp
        omega
end Go.Proofs.YbulkcangDoor.Timers
