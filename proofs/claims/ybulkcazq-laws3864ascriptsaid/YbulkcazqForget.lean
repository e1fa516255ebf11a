import Derived.Test.YbulkcazqWake
namespace Go.Proofs.Ybulkcazq.Script
set_option linter.unusedVariables false
open Go.ChangeShapes Go.WideShapes Go.ChangeAt Go.RowKit Go.Conc Go.Proofs.Ybulkcazq.Base Go.Proofs.Ybulkcazq.Loud Go.Proofs.Ybulkcazq.Comm
open Go.ChangeMaps (setBlock)

theorem pr_cut {ch : Nat → List Nat} {l1 l2 : List Nat} {i h : Nat} (hch : ch h = l1 ++ i :: l2) (hnd : (ch h).Nodup) (hh : i % 3 = h) (j : Nat) : Pr (fset ch h (l1 ++ l2)) j ↔ Pr ch j ∧ ¬ j = i := by
  unfold Pr
  by_cases e : j % 3 = h
  · rw [e, fset_same, hch]
    rw [hch, List.nodup_append, List.nodup_cons] at hnd
    constructor
    · intro hj
      refine ⟨by simp at hj ⊢; rcases hj with h1 | h1 <;> simp [h1], fun e2 => ?_⟩
      subst e2
      rcases List.mem_append.1 hj with h1 | h1
      · exact hnd.2.2 j h1 j (by simp) rfl
      · exact hnd.2.1.1 h1
    · rintro ⟨hj, hne⟩
      simp at hj ⊢
      rcases hj with h1 | h1 | h1
      · exact .inl h1
      · exact absurd h1 hne
      · exact .inr h1
  · rw [fset_other _ _ e]
    exact ⟨fun hj => ⟨hj, fun e2 => e (by rw [e2]; exact hh)⟩, fun hj => hj.1⟩

theorem Lk.congr {nx nx' : Nat → Option Nat} : ∀ {l : List Nat}, Lk nx l → (∀ x ∈ l, nx' x = nx x) → Lk nx' l
  | [], _, _ => trivial
  | i :: r, h, hc => ⟨by rw [hc i (by simp)]; exact h.1, Lk.congr h.2 (fun x hx => hc x (by simp [hx]))⟩

theorem Lk.cut {nx : Nat → Option Nat} : ∀ {l0 : List Nat} {a i : Nat} {l2 : List Nat}, Lk nx (l0 ++ a :: i :: l2) → (l0 ++ a :: i :: l2).Nodup → Lk (fset nx a (nx i)) (l0 ++ a :: l2)
  | [], a, i, l2, h, hnd => by
    simp only [List.nil_append, List.nodup_cons] at hnd
    have h' : nx a = some i ∧ nx i = l2.head? ∧ Lk nx l2 := h
    refine ⟨by rw [fset_same]; exact h'.2.1, Lk.congr h'.2.2 (fun x hx => fset_other _ _ (fun e => ?_))⟩
    subst e
    exact hnd.1 (by simp [hx])
  | b :: l0, a, i, l2, h, hnd => by
    simp only [List.cons_append, List.nodup_cons] at hnd
    refine ⟨?_, Lk.cut h.2 hnd.2⟩
    have hba : ¬ b = a := fun e => hnd.1 (by rw [e]; simp)
    rw [fset_other _ _ hba]
    have h1 : nx b = (l0 ++ a :: i :: l2).head? := h.1
    rw [h1]
    cases l0 <;> rfl

theorem Lk.tail {nx : Nat → Option Nat} {i : Nat} {l : List Nat} (h : Lk nx (i :: l)) : Lk nx l := h.2

theorem nodup_cut {l1 l2 : List Nat} {i : Nat} (h : (l1 ++ i :: l2).Nodup) : (l1 ++ l2).Nodup := by
  rw [List.nodup_append, List.nodup_cons] at h
  rw [List.nodup_append]
  exact ⟨h.1, h.2.1.2, fun a ha b hb => h.2.2 a ha b (by simp [hb])⟩

theorem Pl.forget {ch : Nat → List Nat} {nx nx' : Nat → Option Nat} {d I : Nat → Nat} {n i h : Nat} {l1 l2 : List Nat} (hp : Pl ch nx d I n) (hch : ch h = l1 ++ i :: l2) (hd : d i = 0) (hlk : Lk nx' (l1 ++ l2)) (hnx : ∀ j, ¬ j ∈ ch h → nx' j = nx j) :
    Pl (fset ch h (l1 ++ l2)) nx' d I n := by
  have hih := hp.rng h i (by rw [hch]; simp)
  have hpr := pr_cut hch (hp.nd h) hih.2
  refine ⟨hp.n8, fun k j hj => ?_, fun k => ?_, fun k => ?_, fun p hpn => ?_, fun j hj => hp.ib j ((hpr j).1 hj).1⟩
  · by_cases e : k = h
    · subst e
      rw [fset_same] at hj
      exact hp.rng k j (by rw [hch]; simp at hj ⊢; rcases hj with h1 | h1 <;> simp [h1])
    · rw [fset_other _ _ e] at hj; exact hp.rng k j hj
  · by_cases e : k = h
    · subst e; rw [fset_same]; exact nodup_cut (by rw [← hch]; exact hp.nd k)
    · rw [fset_other _ _ e]; exact hp.nd k
  · by_cases e : k = h
    · subst e; rw [fset_same]; exact hlk
    · rw [fset_other _ _ e]
      refine (hp.lk k).congr (fun x hx => hnx x (fun hx2 => ?_))
      have h1 := (hp.rng k x hx).2
      have h2 := (hp.rng h x hx2).2
      exact e (by rw [← h1, h2])
  · have h1 := hp.ia p hpn
    exact ⟨(hpr _).2 ⟨h1.1, fun e => by rw [e, hd] at h1; omega⟩, h1.2⟩

theorem eql32_same (a : Addr) (w : World) : (binOp .eql 32 (.pointer (some a)) (.pointer (some a))).run Yba.prog w = .ok (.bool true) w := by
  have h : (Yba.prog.info? 62).map (·.size) = some 21 := by kernel_rfl
  cases hq : Yba.prog.info? 62 with
  | none => rw [hq] at h; simp at h
  | some j => exact run_eql_ptr_same w a Yba.underlying32 hq
theorem neq32_same (a : Addr) (w : World) : (binOp .neq 32 (.pointer (some a)) (.pointer (some a))).run Yba.prog w = .ok (.bool false) w := by
  have h : (Yba.prog.info? 62).map (·.size) = some 21 := by kernel_rfl
  cases hq : Yba.prog.info? 62 with
  | none => rw [hq] at h; simp at h
  | some j => exact run_neq_ptr_same w a Yba.underlying32 hq
theorem eql32_other {a b : Nat} {ca cb : Array Value} {ta tb : TypeId} {w : World} (hne : ¬ a = b) (ha : w.heap[a]? = some (.cells ca ta (0, 0))) (hb : w.heap[b]? = some (.cells cb tb (0, 0))) : (binOp .eql 32 (ptr a) (ptr b)).run Yba.prog w = .ok (.bool false) w := by
  have h : (Yba.prog.info? 62).map (·.size) = some 21 := by kernel_rfl
  cases hq : Yba.prog.info? 62 with
  | none => rw [hq] at h; simp at h
  | some j =>
    rw [hq] at h
    simp at h
    exact run_eql_ptr_other w Yba.underlying32 hq (by omega) (fun e => hne (congrArg Addr.block e)) ha hb
theorem neq32_other {a b : Nat} {ca cb : Array Value} {ta tb : TypeId} {w : World} (hne : ¬ a = b) (ha : w.heap[a]? = some (.cells ca ta (0, 0))) (hb : w.heap[b]? = some (.cells cb tb (0, 0))) : (binOp .neq 32 (ptr a) (ptr b)).run Yba.prog w = .ok (.bool true) w := by
  have h : (Yba.prog.info? 62).map (·.size) = some 21 := by kernel_rfl
  cases hq : Yba.prog.info? 62 with
  | none => rw [hq] at h; simp at h
  | some j =>
    rw [hq] at h
    simp at h
    exact run_neq_ptr_other w Yba.underlying32 hq (by omega) (fun e => hne (congrArg Addr.block e)) ha hb

def ForgetPost (w : World) (lo S M : Nat) (ch : Nat → List Nat) (X : Nat → Nat) (d I : Nat → Nat) (n h i : Nat) (l1 l2 : List Nat) (e : Ending) (w' : World) : Prop :=
  ∃ nx', e = .returned (.tuple #[]) ∧ Wd w' lo S M (fset ch h (l1 ++ l2)) X nx' d I n ∧ Pl (fset ch h (l1 ++ l2)) nx' d I n ∧ w'.heap[X i]? = some (.cells (lc i none S (d i)) 62 (0, 0)) ∧ TouchOnly (Ts S M ch X) w w'

/-- the shard behind a step that has turned lock states and the map alone -/
theorem Wd.forgot {w w' : World} {lo S M : Nat} {ch : Nat → List Nat} {X : Nat → Nat} {nx nx' : Nat → Option Nat} {d I : Nat → Nat} {n h i : Nat} {l1 l2 : List Nat} (hw : Wd w lo S M ch X nx d I n) (hp : Pl ch nx d I n) (hch : ch h = l1 ++ i :: l2)
    {T : Nat → Prop} (ht : TouchOnly T w w') (hT : ¬ T S) (hst : ∀ j, Pr ch j → ¬ j = i → w'.heap[X j]? = some (.cells (lc j ((nx' j).map X) S (d j)) 62 (0, 0)))
    (hmp : ∃ es c, w'.heap[M]? = some (.map es c) ∧ MapIs es.toList (fset (fun k => ((ch k).head?).map X) h (((l1 ++ l2).head?).map X))) : Wd w' lo S M (fset ch h (l1 ++ l2)) X nx' d I n := by
  have hih := hp.rng h i (by rw [hch]; simp)
  have hpr := pr_cut hch (hp.nd h) hih.2
  obtain ⟨cs, h1, h2⟩ := hw.sh
  refine ⟨fun j hj => hst j ((hpr j).1 hj).1 ((hpr j).1 hj).2, fun a b ha hb => hw.inj a b ((hpr a).1 ha).1 ((hpr b).1 hb).1, fun j hj => hw.lox j ((hpr j).1 hj).1, ⟨cs, ht.keep h1 hT, h2⟩, hw.los, ?_, hw.lom⟩
  obtain ⟨es, c, h3, h4⟩ := hmp
  refine ⟨es, c, h3, ?_⟩
  have : (fun k => ((fset ch h (l1 ++ l2) k).head?).map X) = fset (fun k => ((ch k).head?).map X) h (((l1 ++ l2).head?).map X) := by
    funext k
    by_cases e : k = h
    · subst e; rw [fset_same, fset_same]
    · rw [fset_other _ _ e, fset_other _ _ e]
  rw [this]
  exact h4

theorem sb_same {w : World} {M : Nat} {x : Obj} (o : Obj) (h : w.heap[M]? = some x) : (setBlock w M o).heap[M]? = some o := by
  simp only [setBlock]; rw [Array.getElem?_setIfInBounds_self_of_lt (blk_lt h)]
theorem sb_oth {w : World} {M k : Nat} {x : Obj} (o : Obj) (hne : ¬ k = M) (h : w.heap[k]? = some x) : (setBlock w M o).heap[k]? = some x := by
  simp only [setBlock]; rw [Array.getElem?_setIfInBounds_ne (fun e => hne e.symm)]; exact h

set_option maxRecDepth 100000 in
set_option maxHeartbeats 1000000 in
theorem forget_only (w : World) (lo S M : Nat) (ch : Nat → List Nat) (X : Nat → Nat) (nx : Nat → Option Nat) (d I : Nat → Nat) (n h i : Nat) (hw : Wd w lo S M ch X nx d I n) (hp : Pl ch nx d I n) (hch : ch h = [i]) (hd : d i = 0) :
    Calls Yba.prog 11 #[ptr S, ptr (X i)] w (ForgetPost w lo S M ch X d I n h i [] []) := by
  have hih := hp.rng h i (by rw [hch]; simp)
  have hi : Pr ch i := by show i ∈ ch (i % 3); rw [hih.2, hch]; simp
  have hh3 : h < 3 := by omega
  obtain ⟨cs, hS, hsc⟩ := hw.sh
  obtain ⟨es, c, hM, hm⟩ := hw.mp
  have c3 := blk_cell hS 3
  rw [hsc.m] at c3
  have hXi := hw.st i hi
  have hnx : nx i = none := Lk.mid (l2 := []) [] (by rw [List.nil_append, ← hch]; exact hp.lk h)
  rw [hnx, hd] at hXi
  obtain ⟨_, _, _, _, _, _, c6, c7, _, _⟩ := st_cells hXi
  rw [hih.2] at c6
  have f7 := blk_free hXi 7
  have hlk := fun m => (run_look (w.drewN m) M c h es _ hh3 hM hm).1
  simp only [hch, List.head?_cons, Option.map_some, optr_some] at hlk
  have hlk0 := hlk 0
  have heq := fun w' => eql32_same ⟨X i, 0, none⟩ w'
  have HW := hide hw
  have HP := hide hp
  have HM := hide (And.intro hM hm)
  have aSi := hw.apartS hi
  have aMi : ¬ X i = M := fun e => by rw [e, hM] at hXi; cases hXi
  have aMS : ¬ S = M := fun e => by rw [e, hM] at hS; cases hS
  have HXi := hide hXi
  simp only [Option.map_none, optr_none] at c7
  clear hw hp hsc hM hm hS hXi hnx
  go_enter Yba.func11, Yba.ntmps11
  go_upto_region 0 with fail
  go_quiet (fail)
  go_upto_region 5 with fail
  refine wp_region_loud 8 _ (by kernel_rfl) (by decide) rfl (by kernel_rfl) (by kernel_rfl) (by kernel_rfl) (by kernel_rfl) (fun ops0 => ?_)
  simp only [List.take, List.drop]
  repeat (quiet_step (fail))
  refine wpQuiet_nil ?_
  intro m
  obtain ⟨es', c', hdel, hm'⟩ := run_del (w.drewN (nq + m)) M c h (X i) 0 es _ hh3 (unhide HM).1 (unhide HM).2 (by simp [hch])
  have HM' := hide hm'
  clear hm'
  go_wp2_with fail
  intro ops1
  refine wpQuiet_nil ?_
  intro m2
  have hM2 : ((setBlock (w.drewN (nq + m)) M (.map es' c')).drewN m2).heap[M]? = some (.map es' c') := sb_same (w := w.drewN (nq + m)) _ (unhide HM).1
  have hXi2 : ((setBlock (w.drewN (nq + m)) M (.map es' c')).drewN m2).heap[X i]? = _ := sb_oth (w := w.drewN (nq + m)) (.map es' c') aMi (unhide HXi)
  have ht2 : TouchOnly (fun b => b = M ∨ b = X i) w ((setBlock (w.drewN (nq + m)) M (.map es' c')).drewN m2) := (((TouchOnly.refl _ w).drewN (nq + m)).setBlock (g := M) (fun _ => .inl rfl) _).drewN m2
  clear hdel hlk hlk0 c3 c6 c7 f7
  revert hM2 hXi2 ht2
  generalize (setBlock (w.drewN (nq + m)) M (.map es' c')).drewN m2 = w2
  intro hM2 hXi2 ht2
  have c7 : w2.cell? ⟨X i, 7, none⟩ = some (.pointer none) := by rw [blk_cell hXi2]; simp [lc, lcR, optr]
  have f7 := blk_free hXi2 7
  go_wp2_with fail
  go_end0
  have hXi3 := blk_set 7 (.pointer none) hXi2
  rw [show (Value.pointer none) = optr none from rfl, lc_next] at hXi3
  have ht3 := ht2.setCell (p := ⟨X i, 7, none⟩) (fun _ => .inr rfl) (.pointer none)
  have hM3 := blk_oth 7 (.pointer none) (fun e => aMi e.symm) hM2
  refine ⟨nx, rfl, (unhide HW).forgot (unhide HP) (l1 := []) (l2 := []) hch ht3 ?_ ?_ ⟨es', c', hM3, unhide HM'⟩, (unhide HP).forget (l1 := []) (l2 := []) hch hd trivial (fun _ _ => rfl), by rw [hd]; exact hXi3, ht3.mono ?_⟩
  · rintro (h1 | h1)
    · exact aMS h1
    · exact aSi h1.symm
  · intro j hj hji
    refine ht3.keep ((unhide HW).st j hj) ?_
    rintro (h1 | h1)
    · have := (unhide HW).st j hj
      rw [h1, (unhide HM).1] at this; cases this
    · exact hji ((unhide HW).inj j i hj hi h1)
  · rintro b _ (rfl | rfl)
    · exact .inr (.inl rfl)
    · exact .inr (.inr ⟨i, hi, rfl⟩)
set_option maxRecDepth 100000 in
set_option maxHeartbeats 1000000 in
theorem forget_head (w : World) (lo S M : Nat) (ch : Nat → List Nat) (X : Nat → Nat) (nx : Nat → Option Nat) (d I : Nat → Nat) (n h i k : Nat) (l2 : List Nat) (hw : Wd w lo S M ch X nx d I n) (hp : Pl ch nx d I n) (hch : ch h = i :: k :: l2) (hd : d i = 0) :
    Calls Yba.prog 11 #[ptr S, ptr (X i)] w (ForgetPost w lo S M ch X d I n h i [] (k :: l2)) := by
  have hih := hp.rng h i (by rw [hch]; simp)
  have hi : Pr ch i := by show i ∈ ch (i % 3); rw [hih.2, hch]; simp
  have hh3 : h < 3 := by omega
  obtain ⟨cs, hS, hsc⟩ := hw.sh
  obtain ⟨es, c, hM, hm⟩ := hw.mp
  have c3 := blk_cell hS 3
  rw [hsc.m] at c3
  have hXi := hw.st i hi
  have hnx : nx i = some k := Lk.mid (l2 := k :: l2) [] (by rw [List.nil_append, ← hch]; exact hp.lk h)
  rw [hnx, hd] at hXi
  obtain ⟨_, _, _, _, _, _, c6, c7, _, _⟩ := st_cells hXi
  rw [hih.2] at c6
  have f7 := blk_free hXi 7
  have hlk := fun m => (run_look (w.drewN m) M c h es _ hh3 hM hm).1
  simp only [hch, List.head?_cons, Option.map_some, optr_some] at hlk
  have hlk0 := hlk 0
  have heq := fun w' => eql32_same ⟨X i, 0, none⟩ w'
  have HW := hide hw
  have HP := hide hp
  have HM := hide (And.intro hM hm)
  have aSi := hw.apartS hi
  have aMi : ¬ X i = M := fun e => by rw [e, hM] at hXi; cases hXi
  have aMS : ¬ S = M := fun e => by rw [e, hM] at hS; cases hS
  have HXi := hide hXi
  simp only [Option.map_some, optr_some] at c7
  clear hw hp hsc hM hm hS hXi hnx
  go_enter Yba.func11, Yba.ntmps11
  go_upto_region 0 with fail
  go_quiet (fail)
  go_upto_region 7 with fail
  refine wp_region_loud 12 _ (by kernel_rfl) (by decide) rfl (by kernel_rfl) (by kernel_rfl) (by kernel_rfl) (by kernel_rfl) (fun ops0 => ?_)
  simp only [List.take, List.drop]
  repeat (quiet_step (fail))
  refine wpQuiet_nil ?_
  intro m
  obtain ⟨es', c', hdel, hm'⟩ := run_upd (w.drewN (nq + m)) M c h (X k) es _ hh3 (unhide HM).1 (unhide HM).2
  have HM' := hide hm'
  clear hm'
  go_wp2_with fail
  intro ops1
  refine wpQuiet_nil ?_
  intro m2
  have hM2 : ((setBlock (w.drewN (nq + m)) M (.map es' c')).drewN m2).heap[M]? = some (.map es' c') := sb_same (w := w.drewN (nq + m)) _ (unhide HM).1
  have hXi2 : ((setBlock (w.drewN (nq + m)) M (.map es' c')).drewN m2).heap[X i]? = _ := sb_oth (w := w.drewN (nq + m)) (.map es' c') aMi (unhide HXi)
  have ht2 : TouchOnly (fun b => b = M ∨ b = X i) w ((setBlock (w.drewN (nq + m)) M (.map es' c')).drewN m2) := (((TouchOnly.refl _ w).drewN (nq + m)).setBlock (g := M) (fun _ => .inl rfl) _).drewN m2
  clear hdel hlk hlk0 c3 c6 c7 f7
  revert hM2 hXi2 ht2
  generalize (setBlock (w.drewN (nq + m)) M (.map es' c')).drewN m2 = w2
  intro hM2 hXi2 ht2
  have c7 : w2.cell? ⟨X i, 7, none⟩ = some (ptr (X k)) := by rw [blk_cell hXi2]; simp [lc, lcR, optr]
  have f7 := blk_free hXi2 7
  go_wp2_with fail
  go_end0
  have hXi3 := blk_set 7 (.pointer none) hXi2
  rw [show (Value.pointer none) = optr none from rfl, lc_next] at hXi3
  have ht3 := ht2.setCell (p := ⟨X i, 7, none⟩) (fun _ => .inr rfl) (.pointer none)
  have hM3 := blk_oth 7 (.pointer none) (fun e => aMi e.symm) hM2
  refine ⟨nx, rfl, (unhide HW).forgot (unhide HP) (l1 := []) (l2 := k :: l2) hch ht3 ?_ ?_ ⟨es', c', hM3, unhide HM'⟩, (unhide HP).forget (l1 := []) (l2 := k :: l2) hch hd (by have := (unhide HP).lk h; rw [hch] at this; exact this.2) (fun _ _ => rfl), by rw [hd]; exact hXi3, ht3.mono ?_⟩
  · rintro (h1 | h1)
    · exact aMS h1
    · exact aSi h1.symm
  · intro j hj hji
    refine ht3.keep ((unhide HW).st j hj) ?_
    rintro (h1 | h1)
    · have := (unhide HW).st j hj
      rw [h1, (unhide HM).1] at this; cases this
    · exact hji ((unhide HW).inj j i hj hi h1)
  · rintro b _ (rfl | rfl)
    · exact .inr (.inl rfl)
    · exact .inr (.inr ⟨i, hi, rfl⟩)
end Go.Proofs.Ybulkcazq.Script
