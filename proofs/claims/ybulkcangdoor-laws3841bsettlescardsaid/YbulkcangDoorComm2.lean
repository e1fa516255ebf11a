import Derived.Test.YbulkcangDoorComm
import Derived.Deep.Quiet
namespace Go.Proofs.YbulkcangDoor.Comm
open Go.Conc Go.RowKit

section
variable {P : Program} {C : World → Prop} {Q : Exit → Act → World → Prop}

/-- the operations, the last one made idle -/
def idled (l : List Oper) (n : Nat) (o : Oper) : List Oper := l.take n ++ [{ o with op := .move (.const undef) }]

def edgesB (l : List Oper) (n : Nat) : Bool :=
  ((List.range n).all fun j => (List.range (n + 1)).any fun k => decide (j < k) && ((l[k]?).map fun o => o.after.any fun e => Region.binds .any e && e.on == j).getD false) &&
  ((List.range (n + 1)).all fun k => ((l[k]?).map fun o => o.after.all fun e => decide (e.on < k)).getD true) && l.all (·.guard.isNone)

theorem idled_get {l : List Oper} {n : Nat} {o : Oper} (hl : l.length = n + 1) (hn : l[n]? = some o) (i : Nat) :
    (idled l n o)[i]? = if i = n then some { o with op := .move (.const undef) } else l[i]? := by
  unfold idled
  have hlen : (l.take n).length = n := by simp; omega
  by_cases h : i = n
  · subst h
    rw [List.getElem?_append_right (by omega), if_pos rfl, hlen]; simp
  · rw [if_neg h]
    by_cases h' : i < n
    · rw [List.getElem?_append_left (by omega), List.getElem?_take, if_pos h']
    · rw [List.getElem?_append_right (by omega), hlen, List.getElem?_eq_none (l := l) (by omega), List.getElem?_eq_none (by simp; omega)]

theorem idled_size {l : List Oper} {n : Nat} {o : Oper} (hl : l.length = n + 1) : (idled l n o).length = l.length := by simp [idled]; omega

theorem idled_ready {l : List Oper} {n : Nat} {o : Oper} (hl : l.length = n + 1) (hn : l[n]? = some o) (listed : Array Bool) :
    Region.ready .any (idled l n o).toArray listed = Region.ready .any l.toArray listed := by
  unfold Region.ready
  simp only [List.size_toArray, idled_size hl]
  congr 1
  funext i
  congr 1
  simp only [List.getElem?_toArray]
  rw [idled_get hl hn]
  split
  · rename_i h; subst h; rw [hn]; rfl
  · rfl

def Closed (l : List Oper) (listed : Array Bool) : Prop :=
  ∀ k o, l[k]? = some o → listed.getD k false = true → ∀ e ∈ o.after, Region.binds .any e = true → listed.getD e.on false = true

theorem edges_up {l : List Oper} {n : Nat} (h : edgesB l n = true) (j : Nat) (hj : j < n) : ∃ k o, j < k ∧ k ≤ n ∧ l[k]? = some o ∧ ∃ e ∈ o.after, Region.binds .any e = true ∧ e.on = j := by
  simp only [edgesB, Bool.and_eq_true, List.all_eq_true, List.mem_range, List.any_eq_true] at h
  obtain ⟨k, hk, hjk, he⟩ := h.1.1 j hj
  have hjk' : j < k := by simpa using hjk
  cases ho : l[k]? with
  | none => rw [ho] at he; simp at he
  | some o =>
    rw [ho] at he
    simp only [Option.map_some, Option.getD_some, Array.any_eq_true] at he
    obtain ⟨i, hi, h1⟩ := he
    simp only [Bool.and_eq_true, beq_iff_eq] at h1
    exact ⟨k, o, hjk', by omega, ho, o.after[i], Array.getElem_mem hi, h1.1, h1.2⟩

theorem edges_down {l : List Oper} {n : Nat} (h : edgesB l n = true) (k : Nat) (hk : k ≤ n) (o : Oper) (ho : l[k]? = some o) (e : Edge) (he : e ∈ o.after) : e.on < k := by
  simp only [edgesB, Bool.and_eq_true, List.all_eq_true, List.mem_range] at h
  have := h.1.2 k (by omega)
  rw [ho] at this
  simp only [Option.map_some, Option.getD_some, Array.all_eq_true, decide_eq_true_eq] at this
  obtain ⟨i, hi, rfl⟩ := Array.mem_iff_getElem.1 he
  exact this i hi

theorem edges_guard {l : List Oper} {n : Nat} (h : edgesB l n = true) (k : Nat) (o : Oper) (ho : l[k]? = some o) : o.guard = none := by
  simp only [edgesB, Bool.and_eq_true, List.all_eq_true] at h
  have := h.2 o (List.mem_of_getElem? ho)
  simpa using this

theorem all_listed {l : List Oper} {n : Nat} (h : edgesB l n = true) {listed : Array Bool} (hc : Closed l listed) {o : Oper} (ho : l[n]? = some o)
    (hr : ∀ e ∈ o.after, Region.binds .any e = true → listed.getD e.on false = true) : ∀ d j, n - j ≤ d → j < n → listed.getD j false = true := by
  intro d
  induction d with
  | zero => intro j h1 h2; omega
  | succ d ih =>
    intro j h1 h2
    obtain ⟨k, ok, hjk, hkn, hok, e, he, hb, rfl⟩ := edges_up h j h2
    by_cases hk : k = n
    · subst hk; rw [ho] at hok; cases hok; exact hr e he hb
    · exact hc k ok hok (ih k (by omega) (by omega)) e he hb

theorem getD_of {listed : Array Bool} {k : Nat} (h : k < listed.size) : listed.getD k true = listed.getD k false := by
  simp [Array.getD, h]

theorem ready_some {l : List Oper} {n : Nat} (h : edgesB l n = true) (hl : l.length = n + 1) {listed : Array Bool} (hs : listed.size = n + 1) (hr : Region.ready .any l.toArray listed = []) :
    ∀ k, k ≤ n → listed.getD k false = true := by
  intro k
  induction k using Nat.strongRecOn with
  | _ k ih =>
    intro hk
    by_cases hf : listed.getD k false = true
    · exact hf
    · exfalso
      have hlt : k < l.length := by omega
      have hm : k ∈ Region.ready .any l.toArray listed := by
        rw [mem_ready]
        refine ⟨by rw [getD_of (by omega)]; simpa using hf, l[k], by simp [hlt], fun e he _ => ?_⟩
        have hd := edges_down h k hk l[k] (by simp [hlt]) e he
        exact ih e.on hd (by omega)
      rw [hr] at hm
      cases hm

theorem go_ready (l : List Oper) (fuel t : Nat) (listed : Array Bool) :
    Region.linearise.go .any l.toArray (fuel + 1) t listed [] = match (Region.ready .any l.toArray listed)[t % (Region.ready .any l.toArray listed).length]? with
      | some i => i :: Region.linearise.go .any l.toArray fuel (t / (Region.ready .any l.toArray listed).length) (listed.setIfInBounds i true) []
      | none => [] := by
  show (match (Region.ready .any l.toArray listed)[t % (Region.ready .any l.toArray listed).length]? with
      | some i => Region.linearise.go .any l.toArray fuel (t / (Region.ready .any l.toArray listed).length) (listed.setIfInBounds i true) [i]
      | none => [].reverse) = _
  split
  · rw [linearise_go_acc]; rfl
  · rfl

theorem go_empty (l : List Oper) (fuel t : Nat) (listed : Array Bool) (h : Region.ready .any l.toArray listed = []) : Region.linearise.go .any l.toArray fuel t listed [] = [] := by
  cases fuel with
  | zero => rfl
  | succ fuel => rw [go_ready, h]; rfl

/-- what is asked of the last operation: in every world of the class -/
def CommAt (P : Program) (C : World → Prop) (Q : Exit → Act → World → Prop) (o : Oper) (a : Act) : Prop :=
  ∀ w, C w → ∃ v w', IsComm P a o w ∧ CommTo P a o w v w' ∧ Q .normal (a.put o.dst v) w'

theorem inReg_any {l : List Oper} {n : Nat} {o : Oper} (he : edgesB l n = true) (hl : l.length = n + 1) (hn : l[n]? = some o) (hd : o.dst = none) :
    ∀ (fuel t : Nat) (listed : Array Bool) (a : Act) (w : World), listed.size = n + 1 → listed.getD n false = false → Closed l listed → C w →
      wpAnyQ P .any (idled l n o).toArray C (CommAt P C Q o) fuel listed a → InReg P l.toArray Q (Region.linearise.go .any l.toArray fuel t listed []) a w := by
  intro fuel
  induction fuel with
  | zero =>
    intro t listed a w hs hu hc hC h
    have hr : Region.ready .any l.toArray listed = [] := by rw [← idled_ready hl hn]; exact h.1
    have := ready_some he hl hs hr n (Nat.le_refl _)
    rw [hu] at this; cases this
  | succ fuel ih =>
    intro t listed a w hs hu hc hC h
    obtain ⟨_, h1⟩ := h
    rw [idled_ready hl hn] at h1
    rw [go_ready]
    cases hi : (Region.ready .any l.toArray listed)[t % (Region.ready .any l.toArray listed).length]? with
    | none =>
      exfalso
      have hnil : Region.ready .any l.toArray listed = [] := by
        cases hr : Region.ready .any l.toArray listed with
        | nil => rfl
        | cons x xs =>
          rw [hr] at hi
          have hlt : t % (x :: xs).length < (x :: xs).length := Nat.mod_lt _ (by simp)
          rw [List.getElem?_eq_getElem hlt] at hi
          cases hi
      have := ready_some he hl hs hnil n (Nat.le_refl _)
      rw [hu] at this; cases this
    | some i =>
      have hm := List.mem_of_getElem? hi
      have hq := h1 i hm
      obtain ⟨hun, oi, hoi, hall⟩ := mem_ready.1 hm
      rw [List.getElem?_toArray] at hoi
      simp only []
      by_cases hin : i = n
      · subst hin
        rw [hn] at hoi
        cases hoi
        have hal := all_listed he hc hn hall i
        have hr' : Region.ready .any l.toArray (listed.setIfInBounds i true) = [] := by
          rw [List.eq_nil_iff_forall_not_mem]
          intro j hj
          obtain ⟨hj1, oj, hj2, _⟩ := mem_ready.1 hj
          rw [List.getElem?_toArray] at hj2
          have hjl : j < l.length := by
            rcases Nat.lt_or_ge j l.length with h | h
            · exact h
            · rw [List.getElem?_eq_none h] at hj2; cases hj2
          by_cases hji : j = i
          · subst hji
            rw [Array.getD_eq_getD_getElem?, Array.getElem?_setIfInBounds_self_of_lt (by omega)] at hj1
            cases hj1
          · rw [getD_set_ne true (fun e => hji e.symm), getD_of (by omega), hal j (by omega) (by omega)] at hj1
            cases hj1
        rw [go_empty _ _ _ _ hr']
        have hQ : CommAt P C Q o a := by
          unfold qOp at hq
          rw [List.getElem?_toArray, idled_get hl hn, if_pos rfl] at hq
          have hg := edges_guard he i o hn
          simp only [Region.wanted, hg, if_true] at hq
          obtain ⟨v, _, hk⟩ := hq
          simp only [hd, Act.put] at hk
          cases fuel with
          | zero => exact hk.2
          | succ fuel => exact hk.1 (by rw [idled_ready hl hn]; exact hr')
        obtain ⟨v, w', hic, hct, hq'⟩ := hQ w hC
        refine inReg_comm (by rw [List.getElem?_toArray]; exact hn) (edges_guard he i o hn) hic hct ?_
        intro b k cs
        exact ⟨.normal, _, _, hq', .one step_region_end⟩
      · have hq' : qOp P l.toArray C i (wpAnyQ P .any (idled l n o).toArray C (CommAt P C Q o) fuel (listed.setIfInBounds i true)) a := by
          unfold qOp at hq ⊢
          rw [List.getElem?_toArray, idled_get hl hn, if_neg hin, hoi] at hq
          rw [List.getElem?_toArray, hoi]
          have hg := edges_guard he i oi hoi
          simp only [Region.wanted, hg] at hq ⊢
          exact hq
        have hw : wpOps P l.toArray (Exit.then (fun a w => C w ∧ wpAnyQ P .any (idled l n o).toArray C (CommAt P C Q o) fuel (listed.setIfInBounds i true) a) (fun _ _ _ => False)) [i] a w := by
          rw [wpOps_cons]
          exact wpOp_of_qOp hC (fun a' w' hw' hk => ⟨hw', hk⟩) hq'
        intro b k cs
        obtain ⟨a', w', ⟨hC', hk⟩, hst⟩ := pre_ops (Region.linearise.go .any l.toArray fuel (t / (Region.ready .any l.toArray listed).length) (listed.setIfInBounds i true) []) [i] a w hw b k cs
        have hc' : Closed l (listed.setIfInBounds i true) := by
          intro k' o' ho' hk' e he' hb
          by_cases hki : k' = i
          · subst hki
            rw [hoi] at ho'; cases ho'
            exact getD_set_true (hall e he' hb)
          · rw [getD_set_ne false (fun e => hki e.symm)] at hk'
            exact getD_set_true (hc k' o' ho' hk' e he' hb)
        obtain ⟨e, a₂, w₂, hq2, harr⟩ := ih _ _ a' w' (by simpa using hs) (by rw [getD_set_ne false hin]; exact hu) hc' hC' hk b k cs
        exact ⟨e, a₂, w₂, hq2, .of_steps hst harr⟩

/-- A REGION THAT DRAWS ITS ORDER, ITS LAST OPERATION (behind all others by the edges) A COMMUNICATION, ALL OTHERS QUIET -/
theorem wp_region_quiet_comm {id : Nat} {a : Act} {w : World} {l : List Oper} (n : Nat) (o : Oper) (hm : P.follows .mixedOrders = true) (hl : l.length = n + 1) (hn : l[n]? = some o) (hd : o.dst = none)
    (he : edgesB l n = true) (hB : Region.lexB .any (idled l n o).toArray = true)
    (h : ∀ ops0 : Array Oper, wpQuiet P ops0 (fun w' => ∃ m, w' = w.drewN m) (CommAt P (fun w' => ∃ m, w' = w.drewN m) Q o) (l.take n) a) :
    (Code.region id l.toArray true).wp P Q a w := by
  intro b k cs
  have hany : wpAnyQ P .any (idled l n o).toArray (fun w' => ∃ m, w' = w.drewN m) (CommAt P (fun w' => ∃ m, w' = w.drewN m) Q o) (idled l n o).length (Array.replicate (n + 1) false) a := by
    simp only [Region.lexB, Bool.and_eq_true] at hB
    refine wpAnyQ_lex (md := .any) hB.1 (idled l n o) 0 (Array.replicate (n + 1) false) a (by simp) (by simpa [idled_size hl, hl] using hB.2) ?_
    have hq := h (idled l n o).toArray
    have happ : ∀ (l1 : List Oper) (a : Act) (Q' : Act → Prop) (o' : Oper), wpQuiet P (idled l n o).toArray (fun w' => ∃ m, w' = w.drewN m) (fun a => wpQuiet P (idled l n o).toArray (fun w' => ∃ m, w' = w.drewN m) Q' [o'] a) l1 a →
        wpQuiet P (idled l n o).toArray (fun w' => ∃ m, w' = w.drewN m) Q' (l1 ++ [o']) a := by
      intro l1
      induction l1 with
      | nil => intro a Q' o' h; exact h
      | cons x xs ih =>
        intro a Q' o' h
        simp only [List.cons_append]
        unfold wpQuiet at h ⊢
        split
        · rename_i hw; rw [if_pos hw] at h; exact Oper.quiet_mono (fun a => ih a Q' o') h
        · rename_i hw; rw [if_neg hw] at h; exact ih _ Q' o' h
    have hmono : ∀ (l1 : List Oper) (a : Act) (Q1 Q2 : Act → Prop), (∀ a, Q1 a → Q2 a) → wpQuiet P (idled l n o).toArray (fun w' => ∃ m, w' = w.drewN m) Q1 l1 a → wpQuiet P (idled l n o).toArray (fun w' => ∃ m, w' = w.drewN m) Q2 l1 a := by
      intro l1
      induction l1 with
      | nil => intro a Q1 Q2 h h1; exact h _ h1
      | cons x xs ih =>
        intro a Q1 Q2 hh h
        unfold wpQuiet at h ⊢
        split
        · rename_i hw; rw [if_pos hw] at h; exact Oper.quiet_mono (fun a => ih a Q1 Q2 hh) h
        · rename_i hw; rw [if_neg hw] at h; exact ih _ Q1 Q2 hh h
    refine happ (l.take n) a _ _ (hmono _ _ _ _ ?_ hq)
    intro a' ha'
    have hg := edges_guard he n o hn
    simp only [wpQuiet, Region.wanted, hg, if_true]
    refine ⟨undef, fun w' _ => ?_, by simpa [hd, Act.put] using ha'⟩
    simp [Oper.quietAt, Oper.quietUpon, execOp, Act.eval]
  rw [idled_size hl, hl] at hany
  have hin := inReg_any (P := P) (Q := Q) (C := fun w' => ∃ m, w' = w.drewN m) he hl hn hd (n + 1) (w.tape w.drawn (.order b.fn id)) (Array.replicate (n + 1) false) a { w with drawn := w.drawn + 1 } (by simp) (by simp) (by intro k' o' _ hk'; simp [Array.getD] at hk') ⟨1, rfl⟩ hany b k cs
  obtain ⟨e, a', w', hq, harr⟩ := hin
  refine ⟨e, a', w', hq, .of_steps (.one step_region_draw) ?_⟩
  have hsch : Region.schedule (P.follows .mixedOrders) l.toArray (w.tape w.drawn (.order b.fn id)) = Region.linearise.go .any l.toArray (n + 1) (w.tape w.drawn (.order b.fn id)) (Array.replicate (n + 1) false) [] := by
    simp only [Region.schedule, hm, Bool.true_or, if_true, Region.linearise, List.size_toArray, hl]
  rw [hsch]
  exact harr
end
end Go.Proofs.YbulkcangDoor.Comm
