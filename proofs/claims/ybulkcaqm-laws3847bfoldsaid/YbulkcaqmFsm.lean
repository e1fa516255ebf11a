import Derived.Test.YbulkcaqmNext
namespace Go.Proofs.Ybulkcaqm.Fsm
open Go.Proofs.Ybulkcaqm.Next

def pairAt : List Int → Bool
  | c :: r => c == 10 || (c == 13 && r.head? == some 10)
  | [] => false
def headEndsIn : List Int → Bool
  | [] => false
  | c :: r => (c == 10 && pairAt r) || headEndsIn r
def leadOff : List Int → List Int
  | [] => []
  | c :: r => if c = 13 ∨ c = 10 then leadOff r else c :: r
def foldNext : Int → List Int → Int
  | s, [] => s
  | s, c :: r => if s = 4 then 4 else foldNext (nxt s c) r

theorem run_four (r : List Int) : foldNext 4 r = 4 := by cases r <;> simp [foldNext]

theorem run_scan (r : List Int) : (foldNext 1 r == 4) = headEndsIn r ∧ (foldNext 2 r == 4) = (pairAt r || headEndsIn r) ∧ (foldNext 3 r == 4) = (r.head? == some 10 || headEndsIn r) := by
  induction r with
  | nil => simp [foldNext, headEndsIn, pairAt]
  | cons c r ih =>
    obtain ⟨h1, h2, h3⟩ := ih
    by_cases e10 : c = 10
    · subst e10
      simp [foldNext, nxt, headEndsIn, pairAt, h2, run_four]
    · by_cases e13 : c = 13
      · subst e13
        simp [foldNext, nxt, headEndsIn, pairAt, h1, h3]
      · have b10 : (c == 10) = false := by simp [e10]
        have b13 : (c == 13) = false := by simp [e13]
        simp [foldNext, nxt, headEndsIn, pairAt, h1, e10, e13, b10, b13]

theorem run_skip (r : List Int) : (foldNext 0 r == 4) = headEndsIn (leadOff r) := by
  induction r with
  | nil => simp [foldNext, leadOff, headEndsIn]
  | cons c r ih =>
    by_cases e : c = 13 ∨ c = 10
    · simp [foldNext, nxt, leadOff, e, ih]
    · have e10 : ¬ c = 10 := fun h => e (.inr h)
      have e13 : ¬ c = 13 := fun h => e (.inl h)
      have b10 : (c == 10) = false := by simp [e10]
      simp [foldNext, nxt, leadOff, headEndsIn, e10, e13, b10, (run_scan r).1]

theorem drop_cons (l : List Int) (k : Nat) (h : k < l.length) : l.drop k = l[k] :: l.drop (k + 1) := List.drop_eq_getElem_cons h

theorem run_step (s : Int) (l : List Int) (k : Nat) (h : k < l.length) (hs : ¬ s = 4) : foldNext s (l.drop k) = foldNext (nxt s l[k]) (l.drop (k + 1)) := by
  rw [drop_cons l k h, foldNext, if_neg hs]

theorem skip_step (l : List Int) (k : Nat) (h : k < l.length) (hs : l[k] = 13 ∨ l[k] = 10) : leadOff (l.drop k) = leadOff (l.drop (k + 1)) := by
  rw [drop_cons l k h, leadOff, if_pos hs]
theorem skip_stop (l : List Int) (k : Nat) (h : k < l.length) (hs : ¬ (l[k] = 13 ∨ l[k] = 10)) : leadOff (l.drop k) = l.drop k := by
  rw [drop_cons l k h, leadOff, if_neg hs]
theorem skip_end (l : List Int) (k : Nat) (h : l.length ≤ k) : leadOff (l.drop k) = l.drop k := by
  rw [List.drop_of_length_le h]; rfl

theorem two_at (l : List Int) (k : Nat) : pairAt (l.drop k) = ((l[k]? == some 10) || (l[k]? == some 13 && l[k + 1]? == some 10)) := by
  by_cases h : k < l.length
  · rw [drop_cons l k h, pairAt]; simp [h, List.head?_drop]
  · rw [List.drop_of_length_le (by omega)]; simp [pairAt, List.getElem?_eq_none (Nat.le_of_not_lt h)]

theorem scan_step (l : List Int) (k : Nat) (h : k < l.length) : headEndsIn (l.drop k) = ((l[k] == 10 && pairAt (l.drop (k + 1))) || headEndsIn (l.drop (k + 1))) := by
  rw [drop_cons l k h, headEndsIn]
theorem scan_end (l : List Int) (k : Nat) (h : l.length ≤ k) : headEndsIn (l.drop k) = false := by
  rw [List.drop_of_length_le h]; rfl
theorem scan_miss0 (l : List Int) (k j : Nat) (h : k + j < l.length) (h0 : (l[k + j]?.getD 0 != 10) = true) : headEndsIn (l.drop (k + (j + 1))) = headEndsIn (l.drop (k + j)) := by
  rw [scan_step l (k + j) h]
  have : (l[k + j] == 10) = false := by simpa [h] using h0
  simp [this, Nat.add_assoc]
theorem scan_miss (l : List Int) (k j : Nat) (h : k + j < l.length) (h1 : k + (j + 1) < l.length → (l[k + (j + 1)]?.getD 0 == 10) = false)
    (h2 : k + (j + 2) < l.length → l[k + (j + 1)]?.getD 0 = 13 → (l[k + (j + 2)]?.getD 0 == 10) = false) : headEndsIn (l.drop (k + (j + 1))) = headEndsIn (l.drop (k + j)) := by
  rw [scan_step l (k + j) h]
  have ht : pairAt (l.drop (k + j + 1)) = false := by
    rw [two_at]
    by_cases a1 : k + (j + 1) < l.length
    · have e1 : k + j + 1 < l.length := by omega
      have b1 : (l[k + j + 1] == 10) = false := by have := h1 a1; simpa [Nat.add_assoc, a1] using this
      by_cases a2 : k + (j + 2) < l.length
      · have e2 : k + j + 1 + 1 < l.length := by omega
        by_cases c : l[k + j + 1] = 13
        · have b2 : (l[k + j + 1 + 1] == 10) = false := by
            have := h2 a2 (by simpa [Nat.add_assoc, a1] using c)
            simpa [Nat.add_assoc, a2] using this
          simp [e1, e2] at b1 b2 ⊢
          exact ⟨b1, fun _ => b2⟩
        · simp [e1, e2] at b1 ⊢
          exact ⟨b1, fun h => absurd h c⟩
      · have e2 : ¬ k + j + 1 + 1 < l.length := by omega
        simp [e1, List.getElem?_eq_none (Nat.le_of_not_lt e2)] at b1 ⊢
        exact b1
    · have e1 : ¬ k + j + 1 < l.length := by omega
      simp [List.getElem?_eq_none (Nat.le_of_not_lt e1)]
  rw [ht]; simp [Nat.add_assoc]
theorem scan_hit1 (l : List Int) (k j : Nat) (h : k + (j + 1) < l.length) (h0 : (l[k + j]?.getD 0 != 10) = false) (h1 : (l[k + (j + 1)]?.getD 0 == 10) = true) : headEndsIn (l.drop (k + j)) = true := by
  have e0 : k + j < l.length := by omega
  have e1 : k + j + 1 < l.length := by omega
  rw [scan_step l (k + j) e0, two_at]
  have b0 : l[k + j] = 10 := by simpa [e0] using h0
  have b1 : l[k + j + 1] = 10 := by simpa [Nat.add_assoc, h] using h1
  simp [e1, b0, b1]
theorem scan_hit2 (l : List Int) (k j : Nat) (h : k + (j + 2) < l.length) (h0 : (l[k + j]?.getD 0 != 10) = false) (h1 : l[k + (j + 1)]?.getD 0 = 13) (h2 : (l[k + (j + 2)]?.getD 0 == 10) = true) : headEndsIn (l.drop (k + j)) = true := by
  have e0 : k + j < l.length := by omega
  have e1' : k + (j + 1) < l.length := by omega
  have e1 : k + j + 1 < l.length := by omega
  have e2 : k + j + 1 + 1 < l.length := by omega
  rw [scan_step l (k + j) e0, two_at]
  have b0 : l[k + j] = 10 := by simpa [e0] using h0
  have b1 : l[k + j + 1] = 13 := by simpa [Nat.add_assoc, e1'] using h1
  have b2 : l[k + j + 1 + 1] = 10 := by simpa [Nat.add_assoc, h] using h2
  simp [e1, e2, b0, b1, b2]
end Go.Proofs.Ybulkcaqm.Fsm
