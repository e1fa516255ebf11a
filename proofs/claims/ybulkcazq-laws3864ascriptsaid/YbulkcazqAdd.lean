import Derived.Test.YbulkcazqPark
import Derived.Test.YbulkcazqCheck
namespace Go.Proofs.Ybulkcazq.Script
set_option linter.unusedVariables false
open Go.ChangeShapes Go.WideShapes Go.ChangeAt Go.RowKit Go.Conc Go.Proofs.Ybulkcazq.Base Go.Proofs.Ybulkcazq.Loud Go.Proofs.Ybulkcazq.Comm
open Go.ChangeMaps (setBlock)

theorem Lk.next {nx : Nat → Option Nat} : ∀ {l : List Nat} {j k : Nat}, Lk nx l → j ∈ l → nx j = some k → k ∈ l
  | i :: r, j, k, h, hj, hk => by
    rcases List.mem_cons.1 hj with rfl | hj'
    · have h1 := h.1
      rw [hk] at h1
      cases r with
      | nil => cases h1
      | cons a r => simp at h1; subst h1; simp
    · exact List.mem_cons_of_mem _ (Lk.next h.2 hj' hk)

theorem pr_add {ch : Nat → List Nat} {i h : Nat} (hh : i % 3 = h) (j : Nat) : Pr (fset ch h (i :: ch h)) j ↔ Pr ch j ∨ j = i := by
  unfold Pr
  by_cases e : j % 3 = h
  · rw [e, fset_same]; simp; constructor
    · rintro (h1 | h1)
      · exact .inr h1
      · exact .inl h1
    · rintro (h1 | h1)
      · exact .inr h1
      · exact .inl h1
  · rw [fset_other _ _ e]
    exact ⟨fun hj => .inl hj, fun hj => hj.elim (fun x => x) (fun e2 => absurd (by rw [e2]; exact hh) e)⟩

theorem Pl.add {ch : Nat → List Nat} {nx : Nat → Option Nat} {d I : Nat → Nat} {n i h : Nat} (hp : Pl ch nx d I n) (hh : i % 3 = h) (hi12 : i < 12) (hno : ¬ Pr ch i) :
    Pl (fset ch h (i :: ch h)) (fset nx i (ch h).head?) (fset d i 0) I n := by
  have hpr := pr_add (ch := ch) hh
  have hnch : ∀ k, ¬ i ∈ ch k := fun k hk => hno (by show i ∈ ch (i % 3); rw [(hp.rng k i hk).2]; exact hk)
  refine ⟨hp.n8, fun k j hj => ?_, fun k => ?_, fun k => ?_, fun p hpn => ?_, fun j hj => ?_⟩
  · by_cases e : k = h
    · subst e
      rw [fset_same] at hj
      rcases List.mem_cons.1 hj with rfl | hj
      · exact ⟨hi12, hh⟩
      · exact hp.rng k j hj
    · rw [fset_other _ _ e] at hj; exact hp.rng k j hj
  · by_cases e : k = h
    · subst e; rw [fset_same, List.nodup_cons]; exact ⟨hnch k, hp.nd k⟩
    · rw [fset_other _ _ e]; exact hp.nd k
  · have hc : ∀ k, Lk (fset nx i (ch h).head?) (ch k) := fun k => (hp.lk k).congr (fun x hx => fset_other _ _ (fun e => hnch k (by rw [← e]; exact hx)))
    by_cases e : k = h
    · subst e; rw [fset_same]; exact ⟨fset_same _ _ _, hc k⟩
    · rw [fset_other _ _ e]; exact hc k
  · have h1 := hp.ia p hpn
    have hne : ¬ I p = i := fun e => hno (by rw [← e]; exact h1.1)
    exact ⟨(hpr _).2 (.inl h1.1), by rw [fset_other _ _ hne]; exact h1.2⟩
  · by_cases e : j = i
    · subst e; rw [fset_same]; exact ⟨by omega, fun h => by omega⟩
    · rw [fset_other _ _ e]
      exact hp.ib j (((hpr j).1 hj).resolve_right e)

theorem Wd.add {w w' : World} {lo S M : Nat} {ch : Nat → List Nat} {X : Nat → Nat} {nx : Nat → Option Nat} {d I : Nat → Nat} {n i h Y : Nat} (hw : Wd w lo S M ch X nx d I n) (hp : Pl ch nx d I n) (hh : i % 3 = h) (hno : ¬ Pr ch i)
    (hY : ∀ j, Pr ch j → ¬ X j = Y) (hlo : lo ≤ Y) (ht : TouchOnly (fun b => b = Y ∨ b = M) w w') (hYS : ¬ S = Y) (hYb : w'.heap[Y]? = some (.cells (lc i (((ch h).head?).map X) S 0) 62 (0, 0)))
    (hmp : ∃ es c, w'.heap[M]? = some (.map es c) ∧ MapIs es.toList (fset (fun k => ((ch k).head?).map X) h (some Y))) :
    Wd w' lo S M (fset ch h (i :: ch h)) (fset X i Y) (fset nx i (ch h).head?) (fset d i 0) I n := by
  have hpr := pr_add (ch := ch) hh
  have hnch : ∀ k, ¬ i ∈ ch k := fun k hk => hno (by show i ∈ ch (i % 3); rw [(hp.rng k i hk).2]; exact hk)
  have hmapX : ∀ (o : Option Nat), (∀ k, o = some k → ¬ k = i) → o.map (fset X i Y) = o.map X := fun o ho => by
    cases o with
    | none => rfl
    | some k => simp [fset_other X Y (ho k rfl)]
  have hhead : ∀ k, ((ch k).head?).map (fset X i Y) = ((ch k).head?).map X := fun k => hmapX _ (fun a ha e => hnch k (by rw [← e]; exact List.mem_of_mem_head? ha))
  obtain ⟨cs, hS, hsc⟩ := hw.sh
  obtain ⟨es0, c0, hM0, _⟩ := hw.mp
  have hSM : ¬ S = M := fun e => by rw [e, hM0] at hS; cases hS
  have hne : ∀ j, Pr ch j → ¬ j = i := fun j hj e => hno (by rw [← e]; exact hj)
  refine ⟨fun j hj => ?_, fun a b ha hb => ?_, fun j hj => ?_, ⟨cs, ht.keep hS ?_, ⟨hsc.size, hsc.m, fun p hpn hp8 => ?_, hsc.no, hsc.n⟩⟩, hw.los, ?_, hw.lom⟩
  · rcases (hpr j).1 hj with hj' | rfl
    · have e := hne j hj'
      rw [fset_other _ _ e, fset_other _ _ e, fset_other _ _ e]
      have hnx : (nx j).map (fset X i Y) = (nx j).map X := hmapX _ (fun k hk e2 => hnch (j % 3) (by rw [← e2]; exact (hp.lk (j % 3)).next hj' hk))
      rw [hnx]
      refine ht.keep (hw.st j hj') ?_
      rintro (h1 | h1)
      · exact hY j hj' h1
      · have := hw.st j hj'
        rw [h1, hM0] at this; cases this
    · rw [fset_same, fset_same, fset_same, hhead]; exact hYb
  · rcases (hpr a).1 ha with ha' | rfl
    · rcases (hpr b).1 hb with hb' | rfl
      · rw [fset_other _ _ (hne a ha'), fset_other _ _ (hne b hb')]; exact hw.inj a b ha' hb'
      · rw [fset_other _ _ (hne a ha'), fset_same]; exact fun e => absurd e (hY a ha')
    · rcases (hpr b).1 hb with hb' | rfl
      · rw [fset_other _ _ (hne b hb'), fset_same]; exact fun e => absurd e.symm (hY b hb')
      · exact fun _ => rfl
  · rcases (hpr j).1 hj with hj' | rfl
    · rw [fset_other _ _ (hne j hj')]; exact hw.lox j hj'
    · rw [fset_same]; exact hlo
  · rintro (h1 | h1)
    · exact hYS h1
    · exact hSM h1
  · rw [fset_other _ _ (hne _ (hp.ia p hpn).1)]; exact hsc.ip p hpn hp8
  · obtain ⟨es, c, h3, h4⟩ := hmp
    refine ⟨es, c, h3, ?_⟩
    have : (fun k => ((fset ch h (i :: ch h) k).head?).map (fset X i Y)) = fset (fun k => ((ch k).head?).map X) h (some Y) := by
      funext k
      by_cases e : k = h
      · subst e; rw [fset_same, fset_same]; simp [fset_same]
      · rw [fset_other _ _ e, fset_other _ _ e, hhead]
    rw [this]
    exact h4

theorem tot_fset {ch : Nat → List Nat} {h : Nat} (l : List Nat) (hh : h < 3) : tot (fset ch h l) 3 + (ch h).length = tot ch 3 + l.length := by
  rcases (show h = 0 ∨ h = 1 ∨ h = 2 by omega) with rfl | rfl | rfl <;> simp [tot, fset] <;> omega

/-- what state says -/
def Told (ch ch' : Nat → List Nat) (X X' d I : Nat → Nat) (n n' i h : Nat) : Prop :=
  (Pr ch i ∧ X' i = X i ∧ tot ch' 3 = tot ch 3 ∧ n' = if 0 < d i then n - 1 else n) ∨
  (¬ Pr ch i ∧ n = 8 ∧ X' i = X (I 0) ∧ tot ch' 3 = tot ch 3 ∧ n' = 7 ∧ (ch' h).head? = some i) ∨
  (¬ Pr ch i ∧ n < 8 ∧ tot ch' 3 = tot ch 3 + 1 ∧ n' = n ∧ (ch' h).head? = some i)

def StatePost (w : World) (lo S M : Nat) (ch : Nat → List Nat) (X d I : Nat → Nat) (n i h : Nat) (e : Ending) (w' : World) : Prop :=
  ∃ ch' X' nx' d' I' n', e = .returned (ptr (X' i)) ∧ Wd w' lo S M ch' X' nx' d' I' n' ∧ Pl ch' nx' d' I' n' ∧ Pr ch' i ∧ d' i = 0 ∧ Told ch ch' X X' d I n n' i h ∧ TouchOnly (Ts S M ch X) w w'
end Go.Proofs.Ybulkcazq.Script
