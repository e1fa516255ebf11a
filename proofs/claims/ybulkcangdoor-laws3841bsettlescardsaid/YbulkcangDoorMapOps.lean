import Derived.Test.YbulkcangDoorTimers
import Derived.MapKept
namespace Go.Proofs.YbulkcangDoor.Timers
set_option linter.unusedVariables false
open Go.RowKit Go.Proofs.YbulkcangDoor.Base
open Go.ChangeMaps (setBlock)

theorem nm_fin : ∀ i : Fin 8, ∀ j : Fin 8, nm i.1 = nm j.1 → i = j := by decide +kernel
theorem nm_inj {i j : Nat} (hi : i < 8) (hj : j < 8) (h : nm i = nm j) : i = j := by
  have := nm_fin ⟨i, hi⟩ ⟨j, hj⟩ h
  simpa using congrArg Fin.val this

theorem bytes_beq (a b : ByteArray) : (a == b) = decide (a = b) := by
  rw [beq_toListBytes]
  rw [ByteArray.toList_eq, ByteArray.toList_eq]
  by_cases h : a = b
  · subst h; simp
  · have h2 : ¬ a.data.toList = b.data.toList := fun e => h (by cases a; cases b; simp at e; subst e; rfl)
    simp [h]
    intro e
    exact h2 (by rw [e])
theorem beq_ne {a b : ByteArray} (h : ¬ a = b) : (a == b) = false := by rw [bytes_beq]; simpa using h
theorem beq_self' (a : ByteArray) : (a == a) = true := by rw [bytes_beq]; simp
theorem findNow_none (k : ByteArray) : ∀ (l : List MapEntry) (i : Nat), (∀ e ∈ l, ∃ s, e.key = .string s ∧ ¬ k = s) → Instr.findNow .string (.string k) l i = some none
  | [], _, _ => rfl
  | e :: l, i, h => by
    obtain ⟨s, hs, hne⟩ := h e (by simp)
    have hb : (k == s) = false := beq_ne hne
    simp only [Instr.findNow, Instr.sameNow, hs, hb]
    exact findNow_none k l (i + 1) (fun e' he' => h e' (by simp [he']))

theorem findNow_some (k : ByteArray) (v : Value) : ∀ (l1 : List MapEntry) (e : MapEntry) (l2 : List MapEntry) (i : Nat), (∀ e' ∈ l1, ∃ s, e'.key = .string s ∧ ¬ k = s) → e.key = .string k → e.val = v →
    Instr.findNow .string (.string k) (l1 ++ e :: l2) i = some (some (i + l1.length, v))
  | [], e, l2, i, _, hk, hv => by simp [Instr.findNow, Instr.sameNow, hk, hv, beq_self']
  | e' :: l1, e, l2, i, h, hk, hv => by
    obtain ⟨s, hs, hne⟩ := h e' (by simp)
    have hb : (k == s) = false := beq_ne hne
    simp only [List.cons_append, Instr.findNow, Instr.sameNow, hs, hb]
    rw [findNow_some k v l1 e l2 (i + 1) (fun x hx => h x (by simp [hx])) hk hv]
    simp; omega

theorem ents_keys {k : Nat} {tl : Nat → Nat} (j : Nat) (hk : k ≤ 8) (hj : j < 8) (hne : ∀ i, i < k → ¬ j = i) : ∀ e ∈ (ents k tl).toList, ∃ s, e.key = .string s ∧ ¬ nm j = s := by
  intro e he
  obtain ⟨i, hi, rfl⟩ := mem_ents he
  exact ⟨nm i, rfl, fun h => hne i hi (nm_inj hj (by omega) h)⟩

theorem getObj_map {P : Program} {w : World} {M c : Nat} {es : Array MapEntry} (h : w.heap[M]? = some (.map es c)) : (getObj M).run P w = .ok (.map es c) w := by
  simp [getObj, Sem.run, h]
theorem setObj_map {P : Program} {w : World} {M c : Nat} {es : Array MapEntry} (o : Obj) (h : w.heap[M]? = some (.map es c)) : (setObj M o).run P w = .ok () (setBlock w M o) := by
  simp [setObj, Sem.run, h, setBlock]

theorem checkKey_string (w : World) (s : ByteArray) (b : Bool) : (Instr.checkKey b 10000 9 (.string s)).run Ybad.prog w = .ok () w := by
  have h : ∀ d : Nat, (Instr.checkKey b (d + 1) 9 (.string s)).run Ybad.prog w = .ok () w := fun d => by
    simp [Instr.checkKey, run_underlying Ybad.underlying9]
  exact h 9999

theorem run_upd (w : World) (M j : Nat) (tl : Nat → Nat) (v : Value) (hj : j < 8) (h : w.heap[M]? = some (.map (ents j tl) j)) :
    (Instr.mapUpdate 28 (.map (some M)) (.string (nm j)) v).run Ybad.prog w = .ok () (setBlock w M (.map ((ents j tl).push { key := .string (nm j), val := v, born := j }) (j + 1))) := by
  have hf := findNow_none (nm j) (ents j tl).toList 0 (ents_keys j (by omega) hj (fun i hi e => by omega))
  simp only [Instr.mapUpdate, Sem.run_bind, run_underlying Ybad.underlying28, Result.andThen, getObj_map h, checkKey_string, Instr.findKey, run_underlying Ybad.underlying9, hf]
  simp [setObj_map _ h]

theorem ents_push (j t : Nat) (tl : Nat → Nat) : (ents j tl).push { key := .string (nm j), val := .pointer (some ⟨t, 0, none⟩), born := j } = ents (j + 1) (fun i => if i = j then t else tl i) := by
  unfold ents
  apply Array.toList_inj.1
  simp only [Array.toList_push, List.range_succ, List.map_append, List.map_cons, List.map_nil, if_true]
  congr 1
  apply List.map_congr_left
  intro i hi
  have : ¬ i = j := by simp at hi; omega
  simp [this]

theorem run_look (w : World) (M k i : Nat) (tl : Nat → Nat) (hk : k ≤ 8) (hi : i < k) (h : w.heap[M]? = some (.map (ents k tl) k)) :
    (Instr.lookup 28 (.map (some M)) (.string (nm i)) true).run Ybad.prog w = .ok (.tuple #[.pointer (some ⟨tl i, 0, none⟩), .bool true]) w := by
  have hsplit : (ents k tl).toList = (List.range i).map (fun t => ent t (tl t)) ++ ent i (tl i) :: ((List.range' (i + 1) (k - (i + 1))).map fun t => ent t (tl t)) := by
    have : List.range k = List.range i ++ i :: List.range' (i + 1) (k - (i + 1)) := by
      have h1 := List.range'_append (s := 0) (m := i) (n := k - i) (step := 1)
      simp only [Nat.zero_add, Nat.one_mul] at h1
      have h2 : List.range' i (k - i) = i :: List.range' (i + 1) (k - (i + 1)) := by
        rw [show k - i = (k - (i + 1)) + 1 from by omega, List.range'_succ]
      rw [h2, show i + (k - i) = k from by omega] at h1
      rw [List.range_eq_range', List.range_eq_range', ← h1]
    simp only [ents]
    rw [this, List.map_append, List.map_cons]
  have hf := findNow_some (nm i) (.pointer (some ⟨tl i, 0, none⟩)) ((List.range i).map (fun t => ent t (tl t))) (ent i (tl i)) ((List.range' (i + 1) (k - (i + 1))).map fun t => ent t (tl t)) 0 (by
    intro e he
    simp only [List.mem_map, List.mem_range] at he
    obtain ⟨t, ht, rfl⟩ := he
    exact ⟨nm t, rfl, fun e => by have := nm_inj (by omega) (by omega) e; omega⟩) rfl rfl
  rw [← hsplit] at hf
  simp only [Instr.lookup, Sem.run_bind, run_underlying Ybad.underlying28, Result.andThen, getObj_map h, checkKey_string, Instr.findKey, run_underlying Ybad.underlying9]
  simp [hf]

theorem run_cut (w : World) (j : Nat) (hj : j < 8) : (Instr.slice 9 (.string ⟨#[97, 98, 99, 100, 101, 102, 103, 104]⟩) (some (.int .i64 j)) (some (.int .i64 ((j : Int) + 1))) none).run Ybad.prog w = .ok (.string (nm j)) w := by
  have hs : (⟨#[97, 98, 99, 100, 101, 102, 103, 104]⟩ : ByteArray).size = 8 := rfl
  have h1 : (0 : Int) ≤ (j : Int) + 1 ∧ (j : Int) + 1 ≤ 8 := by omega
  have h2 : (0 : Int) ≤ (j : Int) ∧ (j : Int) ≤ ((j + 1 : Nat) : Int) := by omega
  have h3 : ((j : Int) + 1).toNat = j + 1 := by omega
  simp only [Instr.slice, Sem.run_bind, run_underlying Ybad.underlying9, Result.andThen, Instr.sliceBounds, Instr.sliceBound, asIntOf, hs]
  simp [h1, h2, h3]
  rfl
end Go.Proofs.YbulkcangDoor.Timers
