import Derived.Test.YbulkcazqForget
namespace Go.Proofs.Ybulkcazq.Script
set_option linter.unusedVariables false
open Go.ChangeShapes Go.WideShapes Go.ChangeAt Go.RowKit Go.Conc Go.Proofs.Ybulkcazq.Base Go.Proofs.Ybulkcazq.Loud Go.Proofs.Ybulkcazq.Comm
open Go.ChangeMaps (setBlock)

theorem optr_ptr (o : Option Nat) : ∃ ov, optr o = .pointer ov := by cases o <;> exact ⟨_, rfl⟩

set_option maxRecDepth 100000 in
set_option maxHeartbeats 1000000 in
theorem forget_mid (w : World) (lo S M : Nat) (ch : Nat → List Nat) (X : Nat → Nat) (nx : Nat → Option Nat) (d I : Nat → Nat) (n h i a : Nat) (l0 l2 : List Nat) (hw : Wd w lo S M ch X nx d I n) (hp : Pl ch nx d I n) (hch : ch h = (l0 ++ [a]) ++ i :: l2) (hd : d i = 0) :
    Calls Yba.prog 11 #[ptr S, ptr (X i)] w (ForgetPost w lo S M ch X d I n h i (l0 ++ [a]) l2) := by
  have hih := hp.rng h i (by rw [hch]; simp)
  have hi : Pr ch i := by show i ∈ ch (i % 3); rw [hih.2, hch]; simp
  have hh3 : h < 3 := by omega
  have hPr : ∀ x, x ∈ ch h → Pr ch x := fun x hx => by show x ∈ ch (x % 3); rw [(hp.rng h x hx).2]; exact hx
  obtain ⟨cs, hS, hsc⟩ := hw.sh
  obtain ⟨es, c, hM, hm⟩ := hw.mp
  have c3 := blk_cell hS 3
  rw [hsc.m] at c3
  have hXi := hw.st i hi
  have hnx : nx i = l2.head? := Lk.mid (l0 ++ [a]) (by rw [← hch]; exact hp.lk h)
  rw [hd] at hXi
  obtain ⟨_, _, _, _, _, _, c6, c7, _, _⟩ := st_cells hXi
  rw [hih.2] at c6
  obtain ⟨b0, r0, hl⟩ : ∃ b0 r0, l0 ++ [a] = b0 :: r0 := by cases l0 <;> exact ⟨_, _, rfl⟩
  have hlk := fun m => (run_look (w.drewN m) M c h es _ hh3 hM hm).1
  have hhd : (ch h).head? = some b0 := by rw [hch, hl]; rfl
  simp only [hhd, Option.map_some, optr_some] at hlk
  have hnd := hp.nd h
  have hne : ∀ x, x ∈ l0 ++ [a] → ¬ x = i := fun x hx e => by
    rw [hch, List.nodup_append] at hnd
    exact hnd.2.2 x hx i (by simp) e
  have hb0 : b0 ∈ l0 ++ [a] := by rw [hl]; simp
  have hb0c : Pr ch b0 := hPr b0 (by rw [hch]; exact List.mem_append.2 (.inl hb0))
  have heq := fun m => eql32_other (w := w.drewN m) (fun e => hne b0 hb0 (hw.inj b0 i hb0c hi e)) (hw.st b0 hb0c) hXi
  have HW := hide hw
  have HP := hide hp
  have HC := hide hch
  have aSi := hw.apartS hi
  have HXi := hide hXi
  have HN := hide hnx
  have HPr := hide hPr
  have HNe := hide hne
  have HL := hide hl
  clear hw hp hsc hM hm hS hXi hnx hch hPr hne hl hhd hnd hb0 c7
  go_enter Yba.func11, Yba.ntmps11
  go_upto_region 0 with fail
  go_quiet (fail)
  clear hlk
  go_wp2_with fail
  clear heq c3 c6
  go_loopg [4] r0.length (fun gk s4 wr => ∃ (m1 : List Nat) (b : Nat) (m2 : List Nat), l0 ++ [a] = m1 ++ b :: m2 ∧ gk = m2.length ∧ s4 = ptr (X b) ∧ Hid (TouchOnly none' w wr))
  case atStart => exact ⟨[], b0, r0, unhide HL, rfl, rfl, (TouchOnly.refl _ w).drewN _⟩
  case round =>
    obtain ⟨m1, b, m2, hmm, rfl, rfl, HI⟩ := hrel
    have hbl : b ∈ l0 ++ [a] := by rw [hmm]; simp
    have hbc : b ∈ ch h := by rw [unhide HC]; exact List.mem_append.2 (.inl hbl)
    have hpb := unhide HPr b hbc
    have hXb := (unhide HI).keep ((unhide HW).st b hpb) (fun e => e)
    have hXi := (unhide HI).keep (unhide HXi) (fun e => e)
    have hnb : nx b = (m2 ++ i :: l2).head? := Lk.mid m1 (by have := (unhide HP).lk h; rw [unhide HC, hmm] at this; simpa using this)
    rw [hnb] at hXb
    cases m2 with
    | nil =>
      simp only [List.nil_append, List.head?_cons, Option.map_some] at hXb
      have c7b : wr.cell? ⟨X b, 7, none⟩ = some (ptr (X i)) := by rw [blk_cell hXb]; simp [lc, lcR, optr]
      obtain ⟨ov, hov⟩ := optr_ptr ((nx i).map X)
      have c7 : wr.cell? ⟨X i, 7, none⟩ = some (.pointer ov) := by rw [blk_cell hXi]; simp [lc, lcR, hov]
      have f7b := blk_free hXb 7
      have hq := neq32_same ⟨X i, 0, none⟩
      have HXb := hide hXb
      have HXi2 := hide hXi
      have HO := hide hov
      clear hXb hXi hov hnb hbl hbc
      go_upto_region 8 with fail
      have hab : m1 = l0 ∧ b = a := by
        have := congrArg List.reverse hmm
        simp at this
        exact ⟨this.2.symm, this.1.symm⟩
      obtain ⟨rfl, rfl⟩ := hab
      have hib : ¬ X i = X b := fun e => unhide HNe b (by simp) ((unhide HW).inj b i hpb hi e.symm)
      have hXb2 := blk_set 7 (.pointer ov) (unhide HXb)
      rw [← unhide HO, lc_next, unhide HO] at hXb2
      have hXi2 := blk_oth 7 (.pointer ov) hib (unhide HXi2)
      have ht2 : TouchOnly (fun x => x = X b ∨ x = X i) w _ := ((unhide HI).mono (fun _ _ e => e.elim)).setCell (p := ⟨X b, 7, none⟩) (fun _ => .inl rfl) (.pointer ov)
      clear c7b c7 f7b
      revert hXb2 hXi2 ht2
      generalize wr.setCell ⟨X b, 7, none⟩ (.pointer ov) = w2
      intro hXb2 hXi2 ht2
      have c7 : w2.cell? ⟨X i, 7, none⟩ = some (.pointer ov) := by rw [blk_cell hXi2]; simp [lc, lcR, unhide HO]
      have f7 := blk_free hXi2 7
      go_wp2_with fail
      go_end0
      have hXi3 := blk_set 7 (.pointer none) hXi2
      rw [show (Value.pointer none) = optr none from rfl, lc_next] at hXi3
      have ht3 := ht2.setCell (p := ⟨X i, 7, none⟩) (fun _ => .inr rfl) (.pointer none)
      have hXb3 := blk_oth 7 (.pointer none) (fun e => hib e.symm) hXb2
      have hndc := (unhide HP).nd h
      have hlkc := (unhide HP).lk h
      rw [unhide HC] at hndc hlkc
      have hlk' : Lk (fset nx b (nx i)) ((m1 ++ [b]) ++ l2) := by
        have := Lk.cut (nx := nx) (l0 := m1) (a := b) (i := i) (l2 := l2) (by simpa using hlkc) (by simpa using hndc)
        simpa using this
      refine ⟨fset nx b (nx i), rfl, (unhide HW).forgot (unhide HP) (unhide HC) ht3 ?_ ?_ ?_, (unhide HP).forget (unhide HC) hd hlk' (fun j hj => fset_other _ _ (fun e => hj (by rw [e, unhide HC]; simp))), by rw [hd]; exact hXi3, ht3.mono ?_⟩
      · rintro (h1 | h1)
        · exact (unhide HW).apartS hpb h1.symm
        · exact aSi h1.symm
      · intro j hj hji
        by_cases e : j = b
        · subst e; rw [fset_same]; exact hXb3
        · rw [fset_other _ _ e]
          refine ht3.keep ((unhide HW).st j hj) ?_
          rintro (h1 | h1)
          · exact e ((unhide HW).inj j b hj hpb h1)
          · exact hji ((unhide HW).inj j i hj hi h1)
      · obtain ⟨es, c, hM, hm⟩ := (unhide HW).mp
        refine ⟨es, c, ht3.keep hM ?_, ?_⟩
        · rintro (h1 | h1)
          · rw [h1, (unhide HW).st b hpb] at hM; cases hM
          · rw [h1, (unhide HW).st i hi] at hM; cases hM
        · have : fset (fun k => ((ch k).head?).map X) h ((((m1 ++ [b]) ++ l2).head?).map X) = (fun k => ((ch k).head?).map X) := by
            funext k
            by_cases e : k = h
            · subst e
              rw [fset_same, unhide HC]
              cases m1 <;> rfl
            · rw [fset_other _ _ e]
          rw [this]
          exact hm
      · rintro x _ (rfl | rfl)
        · exact .inr (.inr ⟨b, hpb, rfl⟩)
        · exact .inr (.inr ⟨i, hi, rfl⟩)
    | cons b2 m2 =>
      have hb2 : b2 ∈ l0 ++ [a] := by rw [hmm]; simp
      have hpb2 := unhide HPr b2 (by rw [unhide HC]; exact List.mem_append.2 (.inl hb2))
      simp only [List.cons_append, List.head?_cons, Option.map_some] at hXb
      have c7b : wr.cell? ⟨X b, 7, none⟩ = some (ptr (X b2)) := by rw [blk_cell hXb]; simp [lc, lcR, optr]
      have hq := neq32_other (w := wr) (fun e => unhide HNe b2 hb2 ((unhide HW).inj b2 i hpb2 hi e)) ((unhide HI).keep ((unhide HW).st b2 hpb2) (fun e => e)) hXi
      clear hXb hXi hnb hbl hbc
      go_wp2_with fail
      go_roundg m2.length
      case measure => simp
      case rel => exact ⟨m1 ++ [b], b2, m2, by rw [hmm]; simp, rfl, rfl, HI⟩

theorem forget (w : World) (lo S M : Nat) (ch : Nat → List Nat) (X : Nat → Nat) (nx : Nat → Option Nat) (d I : Nat → Nat) (n h i : Nat) (l1 l2 : List Nat) (hw : Wd w lo S M ch X nx d I n) (hp : Pl ch nx d I n) (hch : ch h = l1 ++ i :: l2) (hd : d i = 0) :
    Calls Yba.prog 11 #[ptr S, ptr (X i)] w (ForgetPost w lo S M ch X d I n h i l1 l2) := by
  rcases List.eq_nil_or_concat l1 with rfl | ⟨l0, a, rfl⟩
  · cases l2 with
    | nil => exact forget_only w lo S M ch X nx d I n h i hw hp hch hd
    | cons k l2 => exact forget_head w lo S M ch X nx d I n h i k l2 hw hp hch hd
  · simp only [List.concat_eq_append] at *
    exact forget_mid w lo S M ch X nx d I n h i a l0 l2 hw hp hch hd
end Go.Proofs.Ybulkcazq.Script
