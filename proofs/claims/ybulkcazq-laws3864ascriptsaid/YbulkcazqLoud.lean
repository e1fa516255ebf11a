import Derived.Deep.Quiet
namespace Go.Proofs.Ybulkcazq.Loud
open Go

section
variable {P : Program} {C : World → Prop} {Q : Exit → Act → World → Prop}

/-- the operations up to the loud one, that one made idle -/
def idled (l : List Oper) (n : Nat) (o : Oper) : List Oper := l.take n ++ [{ o with op := .move (.const undef), dst := none }]

def edgesB (l : List Oper) (n : Nat) : Bool :=
  ((List.range n).all fun j => (List.range (n + 1)).any fun k => decide (j < k) && ((l[k]?).map fun o => o.after.any fun e => Region.binds .any e && e.on == j).getD false) &&
  ((List.range (n + 1)).all fun k => ((l[k]?).map fun o => o.after.all fun e => decide (e.on < k)).getD true) && l.all (·.guard.isNone) &&
  ((List.range l.length).all fun k => decide (k ≤ n) || ((l[k]?).map fun o => o.after.any fun e => Region.binds .any e && decide (n ≤ e.on)).getD false)

def listedAt (l : List Oper) (n : Nat) : Array Bool := (List.replicate (n + 1) true ++ List.replicate (l.length - (n + 1)) false).toArray

theorem idled_get {l : List Oper} {n : Nat} {o : Oper} (hl : n < l.length) (i : Nat) :
    (idled l n o)[i]? = if i = n then some { o with op := .move (.const undef), dst := none } else if i < n then l[i]? else none := by
  unfold idled
  have hlen : (l.take n).length = n := by simp; omega
  by_cases h : i = n
  · subst h
    rw [List.getElem?_append_right (by omega), if_pos rfl, hlen]; simp
  · rw [if_neg h]
    by_cases h' : i < n
    · rw [List.getElem?_append_left (by omega), List.getElem?_take, if_pos h']
    · rw [List.getElem?_append_right (by omega), hlen, if_neg h', List.getElem?_eq_none (by simp; omega)]

theorem idled_size {l : List Oper} {n : Nat} {o : Oper} (hl : n < l.length) : (idled l n o).length = n + 1 := by simp [idled]; omega

def Closed (l : List Oper) (n : Nat) (listed : Array Bool) : Prop :=
  ∀ k o, k ≤ n → l[k]? = some o → listed.getD k false = true → ∀ e ∈ o.after, Region.binds .any e = true → listed.getD e.on false = true

theorem edges_up {l : List Oper} {n : Nat} (h : edgesB l n = true) (j : Nat) (hj : j < n) : ∃ k o, j < k ∧ k ≤ n ∧ l[k]? = some o ∧ ∃ e ∈ o.after, Region.binds .any e = true ∧ e.on = j := by
  simp only [edgesB, Bool.and_eq_true, List.all_eq_true, List.mem_range, List.any_eq_true] at h
  obtain ⟨k, hk, hjk, he⟩ := h.1.1.1 j hj
  have hjk' : j < k := by simpa using hjk
  cases ho : l[k]? with
  | none => rw [ho] at he; simp at he
  | some o =>
    rw [ho] at he
    simp only [Option.map_some, Option.getD_some, Array.any_eq_true] at he
    obtain ⟨i, hi, h1⟩ := he
    simp only [Bool.and_eq_true, beq_iff_eq] at h1
    exact ⟨k, o, hjk', by omega, ho, o.after[i], Array.getElem_mem hi, h1.1, h1.2⟩

theorem edges_down {l : List Oper} {n : Nat} (h : edgesB l n = true) (k : Nat) (hk : k ≤ n) (o : Oper) (ho : l[k]? = some o) (e : Edge) (he : e ∈ o.after) : e.on < k := by
  simp only [edgesB, Bool.and_eq_true, List.all_eq_true, List.mem_range] at h
  have := h.1.1.2 k (by omega)
  rw [ho] at this
  simp only [Option.map_some, Option.getD_some, Array.all_eq_true, decide_eq_true_eq] at this
  obtain ⟨i, hi, rfl⟩ := Array.mem_iff_getElem.1 he
  exact this i hi

theorem edges_guard {l : List Oper} {n : Nat} (h : edgesB l n = true) (k : Nat) (o : Oper) (ho : l[k]? = some o) : o.guard = none := by
  simp only [edgesB, Bool.and_eq_true, List.all_eq_true] at h
  have := h.1.2 o (List.mem_of_getElem? ho)
  simpa using this

theorem edges_behind {l : List Oper} {n : Nat} (h : edgesB l n = true) (k : Nat) (o : Oper) (hk : n < k) (ho : l[k]? = some o) : ∃ e ∈ o.after, Region.binds .any e = true ∧ n ≤ e.on := by
  simp only [edgesB, Bool.and_eq_true, List.all_eq_true, List.mem_range] at h
  have hlt : k < l.length := by
    rcases Nat.lt_or_ge k l.length with h | h
    · exact h
    · rw [List.getElem?_eq_none h] at ho; cases ho
  have := h.2 k hlt
  rw [ho] at this
  simp only [Option.map_some, Option.getD_some, Bool.or_eq_true, decide_eq_true_eq, Array.any_eq_true] at this
  rcases this with h1 | ⟨i, hi, h1⟩
  · omega
  · simp only [Bool.and_eq_true, decide_eq_true_eq] at h1
    exact ⟨o.after[i], Array.getElem_mem hi, h1.1, h1.2⟩

theorem all_listed {l : List Oper} {n : Nat} (h : edgesB l n = true) {listed : Array Bool} (hc : Closed l n listed) {o : Oper} (ho : l[n]? = some o)
    (hr : ∀ e ∈ o.after, Region.binds .any e = true → listed.getD e.on false = true) : ∀ d j, n - j ≤ d → j < n → listed.getD j false = true := by
  intro d
  induction d with
  | zero => intro j h1 h2; omega
  | succ d ih =>
    intro j h1 h2
    obtain ⟨k, ok, hjk, hkn, hok, e, he, hb, rfl⟩ := edges_up h j h2
    by_cases hk : k = n
    · subst hk; rw [ho] at hok; cases hok; exact hr e he hb
    · exact hc k ok hkn hok (ih k (by omega) (by omega)) e he hb

theorem getD_of {listed : Array Bool} {k : Nat} (h : k < listed.size) : listed.getD k true = listed.getD k false := by
  simp [Array.getD, h]

theorem wpAnyQ_more {md : Region.Mode} {ops : Array Oper} {Q : Act → Prop} : ∀ (fuel : Nat) (listed : Array Bool) (a : Act), wpAnyQ P md ops C Q fuel listed a → wpAnyQ P md ops C Q (fuel + 1) listed a
  | 0, listed, a, h => ⟨fun _ => h.2, fun i hi => by rw [h.1] at hi; cases hi⟩
  | fuel + 1, listed, a, h => ⟨h.1, fun i hi => qOp_mono (fun a' h' => wpAnyQ_more fuel _ a' h') (h.2 i hi)⟩

theorem wpAnyQ_add {md : Region.Mode} {ops : Array Oper} {Q : Act → Prop} (listed : Array Bool) (a : Act) (f : Nat) (h : wpAnyQ P md ops C Q f listed a) : ∀ d, wpAnyQ P md ops C Q (d + f) listed a
  | 0 => by rw [Nat.zero_add]; exact h
  | d + 1 => by rw [Nat.add_right_comm]; exact wpAnyQ_more _ _ _ (wpAnyQ_add listed a f h d)

theorem wanted_none {o : Oper} (h : o.guard = none) (f : Nat → Option Bool) : Region.wanted o f = true := by simp [Region.wanted, h]

theorem phase1 {l : List Oper} {n : Nat} {o : Oper} (he : edgesB l n = true) (hl : n < l.length) (hn : l[n]? = some o) (f2 : Nat) :
    ∀ (fuel : Nat) (listed listed1 : Array Bool) (a : Act) (w : World), listed.size = l.length → listed1.size = n + 1 → (∀ i, i ≤ n → listed.getD i false = listed1.getD i false) → (∀ i, n ≤ i → listed.getD i false = false) → Closed l n listed → C w →
      wpAnyQ P .any (idled l n o).toArray C (fun a' => ∀ w', C w' → o.wp P a' w' (fun a2 w2 => ∀ d, wpAny P .any l.toArray Q (d + f2) (listedAt l n) a2 w2) Q) fuel listed1 a →
      wpAny P .any l.toArray Q (fuel + f2) listed a w := by
  intro fuel
  induction fuel with
  | zero =>
    intro listed listed1 a w hs hs1 hag hun hc hC h
    exfalso
    have hno : ∀ k, k ≤ n → listed1.getD k false = true := by
      intro k
      induction k using Nat.strongRecOn with
      | _ k ih =>
        intro hk
        by_cases hf : listed1.getD k false = true
        · exact hf
        · exfalso
          have hm : k ∈ Region.ready .any (idled l n o).toArray listed1 := by
            rw [mem_ready]
            refine ⟨by rw [getD_of (by omega)]; simpa using hf, ?_⟩
            rw [List.getElem?_toArray, idled_get hl]
            by_cases hkn : k = n
            · subst hkn
              rw [if_pos rfl]
              refine ⟨_, rfl, fun e he' _ => ?_⟩
              have hd := edges_down he k (Nat.le_refl _) o hn e he'
              exact ih e.on hd (by omega)
            · rw [if_neg hkn, if_pos (by omega)]
              refine ⟨l[k], by simp [show k < l.length by omega], fun e he' _ => ?_⟩
              have hd := edges_down he k hk l[k] (by simp [show k < l.length by omega]) e he'
              exact ih e.on hd (by omega)
          rw [h.1] at hm
          cases hm
    have h1 := hno n (Nat.le_refl _)
    rw [← hag n (Nat.le_refl _), hun n (Nat.le_refl _)] at h1
    cases h1
  | succ fuel ih =>
    intro listed listed1 a w hs hs1 hag hun hc hC h
    obtain ⟨hz, h1⟩ := h
    -- who is ready: one of the first, or the loud one
    have hrd : ∀ i, i ∈ Region.ready .any l.toArray listed → i ≤ n := by
      intro i hi
      obtain ⟨_, oi, hoi, hall⟩ := mem_ready.1 hi
      rw [List.getElem?_toArray] at hoi
      rcases Nat.lt_or_ge n i with hlt | hge
      · obtain ⟨e, he', hb, hne⟩ := edges_behind he i oi hlt hoi
        have := hall e he' hb
        rw [hun _ hne] at this
        cases this
      · exact hge
    have hrd1 : ∀ i, i ∈ Region.ready .any l.toArray listed → i ∈ Region.ready .any (idled l n o).toArray listed1 := by
      intro i hi
      have hin := hrd i hi
      obtain ⟨hu, oi, hoi, hall⟩ := mem_ready.1 hi
      rw [List.getElem?_toArray] at hoi
      rw [getD_of (by omega), hag i hin] at hu
      refine mem_ready.2 ⟨by rw [getD_of (by omega)]; exact hu, ?_⟩
      rw [List.getElem?_toArray, idled_get hl]
      have hdn : ∀ e ∈ oi.after, e.on ≤ n := fun e he' => by have := edges_down he i hin oi hoi e he'; omega
      by_cases hkn : i = n
      · subst hkn
        rw [hn] at hoi
        cases hoi
        rw [if_pos rfl]
        exact ⟨_, rfl, fun e he' hb => by rw [← hag _ (hdn e he')]; exact hall e he' hb⟩
      · rw [if_neg hkn, if_pos (by omega)]
        exact ⟨oi, hoi, fun e he' hb => by rw [← hag _ (hdn e he')]; exact hall e he' hb⟩
    rw [Nat.add_right_comm]
    refine ⟨fun hnil => ?_, fun i hi => ?_⟩
    · exfalso
      have hno : ∀ k, k ≤ n → listed.getD k false = true := by
        intro k
        induction k using Nat.strongRecOn with
        | _ k ih =>
          intro hk
          by_cases hf : listed.getD k false = true
          · exact hf
          · exfalso
            have hlt : k < l.length := by omega
            have hm : k ∈ Region.ready .any l.toArray listed := by
              rw [mem_ready]
              refine ⟨by rw [getD_of (by omega)]; simpa using hf, l[k], by simp [hlt], fun e he' _ => ?_⟩
              have hd := edges_down he k hk l[k] (by simp [hlt]) e he'
              exact ih e.on hd (by omega)
            rw [hnil] at hm
            cases hm
      have h2 := hno n (Nat.le_refl _)
      rw [hun n (Nat.le_refl _)] at h2
      cases h2
    · have hin := hrd i hi
      have hq := h1 i (hrd1 i hi)
      obtain ⟨hu, oi, hoi, hall⟩ := mem_ready.1 hi
      rw [List.getElem?_toArray] at hoi
      have hg := edges_guard he i oi hoi
      by_cases hkn : i = n
      · subst hkn
        rw [hn] at hoi
        cases hoi
        have hal := all_listed he hc hn hall i
        have hset : listed.setIfInBounds i true = listedAt l i := by
          apply Array.ext_getElem?
          intro j
          by_cases hj : j < listed.size
          · rw [Array.getElem?_eq_getElem (by simpa using hj), Array.getElem?_eq_getElem (by simp [listedAt]; omega)]
            have hgD : ∀ (x : Array Bool) (hx : j < x.size), x[j] = x.getD j false := fun x hx => by simp [Array.getD, hx]
            rw [hgD, hgD]
            congr 1
            by_cases hji : j = i
            · subst hji
              rw [Array.getD_eq_getD_getElem?, Array.getElem?_setIfInBounds_self_of_lt hj]
              simp [listedAt, Array.getD_eq_getD_getElem?, List.getElem?_append_left]
            · rw [getD_set_ne false (fun e => hji e.symm)]
              rcases Nat.lt_or_ge j i with hlt | hge
              · rw [hal j (by omega) hlt]
                simp [listedAt, Array.getD_eq_getD_getElem?, List.getElem?_append_left, show j < i + 1 by omega]
              · rw [hun j hge]
                simp only [listedAt, Array.getD_eq_getD_getElem?, List.getElem?_toArray]
                rw [List.getElem?_append_right (by simp; omega), List.getElem?_replicate]
                split <;> rfl
          · rw [Array.getElem?_eq_none (by simpa using hj), Array.getElem?_eq_none (by simp [listedAt]; omega)]
        have hloud : ∀ w', C w' → o.wp P a w' (fun a2 w2 => ∀ d, wpAny P .any l.toArray Q (d + f2) (listedAt l i) a2 w2) Q := by
          unfold qOp at hq
          rw [List.getElem?_toArray, idled_get hl, if_pos rfl] at hq
          simp only [Region.wanted, hg, if_true] at hq
          obtain ⟨v, _, hk⟩ := hq
          simp only [Act.put] at hk
          cases fuel with
          | zero => exact hk.2
          | succ fuel =>
            refine hk.1 ?_
            rw [List.eq_nil_iff_forall_not_mem]
            intro j hj
            obtain ⟨hj1, oj, hj2, _⟩ := mem_ready.1 hj
            rw [List.getElem?_toArray, idled_get hl] at hj2
            by_cases hji : j = i
            · subst hji
              rw [Array.getD_eq_getD_getElem?, Array.getElem?_setIfInBounds_self_of_lt (by omega)] at hj1
              cases hj1
            · rw [if_neg hji] at hj2
              split at hj2
              · rename_i hlt
                rw [getD_set_ne true (fun e => hji e.symm), getD_of (by omega), ← hag j (by omega), hal j (by omega) hlt] at hj1
                cases hj1
              · cases hj2
        unfold wpOp
        rw [List.getElem?_toArray, hn]
        simp only [Region.wanted, hg, if_true]
        left
        refine Oper.wp_mono (fun a2 w2 h2 => ?_) (hloud w hC)
        rw [hset]
        exact h2 fuel
      · have hilt : i < n := by omega
        have hq' : qOp P l.toArray C i (wpAnyQ P .any (idled l n o).toArray C (fun a' => ∀ w', C w' → o.wp P a' w' (fun a2 w2 => ∀ d, wpAny P .any l.toArray Q (d + f2) (listedAt l n) a2 w2) Q) fuel (listed1.setIfInBounds i true)) a := by
          unfold qOp at hq ⊢
          rw [List.getElem?_toArray, idled_get hl, if_neg hkn, if_pos hilt, hoi] at hq
          rw [List.getElem?_toArray, hoi]
          simp only [Region.wanted, hg] at hq ⊢
          exact hq
        refine wpOp_of_qOp hC (fun a' w' hw' hk => ?_) hq'
        refine ih _ _ a' w' (by simpa using hs) (by simpa using hs1) (fun j hj => ?_) (fun j hj => ?_) ?_ hw' hk
        · by_cases hji : i = j
          · subst hji
            rw [Array.getD_eq_getD_getElem?, Array.getD_eq_getD_getElem?, Array.getElem?_setIfInBounds_self_of_lt (by omega), Array.getElem?_setIfInBounds_self_of_lt (by omega)]
          · rw [getD_set_ne false hji, getD_set_ne false hji]; exact hag j hj
        · rw [getD_set_ne false (by omega)]; exact hun j hj
        · intro k' o' hkn' ho' hk' e he' hb
          by_cases hki : k' = i
          · subst hki
            rw [hoi] at ho'; cases ho'
            exact getD_set_true (hall e he' hb)
          · rw [getD_set_ne false (fun e => hki e.symm)] at hk'
            exact getD_set_true (hc k' o' hkn' ho' hk' e he' hb)

/-- A REGION THAT DRAWS ITS ORDER: ONE OPERATION (number n) IS LOUD (a call that writes, a copy ..), ALL AHEAD OF IT ARE ITS FORERUNNERS BY THE EDGES, ALL BEHIND IT WAIT FOR IT; ALL OTHERS QUIET. -/
theorem wp_region_loud {id : Nat} {a : Act} {w : World} {l : List Oper} (n : Nat) (o : Oper) (hm : P.follows .mixedOrders = true) (hl : n < l.length) (hn : l[n]? = some o)
    (he : edgesB l n = true) (hB : Region.lexB .any (idled l n o).toArray = true) (hS : Region.noSelect l.toArray = true) (hB2 : Region.lexFrom .any l.toArray (l.drop (n + 1)).length (n + 1) (listedAt l n) = true)
    (h : ∀ ops0 : Array Oper, wpQuiet P ops0 (fun w' => ∃ m, w' = w.drewN m) (fun a' => ∀ m, o.wp P a' (w.drewN m) (fun a2 w2 => ∀ ops1 : Array Oper, wpQuiet P ops1 (fun w' => ∃ m, w' = w2.drewN m) (fun a3 => ∀ m, Q .normal a3 (w2.drewN m)) (l.drop (n + 1)) a2) Q) (l.take n) a) :
    (Code.region id l.toArray true).wp P Q a w := by
  refine wp_region_any hm ?_
  have hq := h (idled l n o).toArray
  have happ : ∀ (l1 : List Oper) (a : Act) (Q' : Act → Prop) (o' : Oper), wpQuiet P (idled l n o).toArray (fun w' => ∃ m, w' = w.drewN m) (fun a => wpQuiet P (idled l n o).toArray (fun w' => ∃ m, w' = w.drewN m) Q' [o'] a) l1 a →
      wpQuiet P (idled l n o).toArray (fun w' => ∃ m, w' = w.drewN m) Q' (l1 ++ [o']) a := by
    intro l1
    induction l1 with
    | nil => intro a Q' o' h; exact h
    | cons x xs ih =>
      intro a Q' o' h
      simp only [List.cons_append]
      unfold wpQuiet at h ⊢
      split
      · rename_i hw; rw [if_pos hw] at h; exact Oper.quiet_mono (fun a => ih a Q' o') h
      · rename_i hw; rw [if_neg hw] at h; exact ih _ Q' o' h
  have hmono : ∀ (l1 : List Oper) (a : Act) (Q1 Q2 : Act → Prop), (∀ a, Q1 a → Q2 a) → wpQuiet P (idled l n o).toArray (fun w' => ∃ m, w' = w.drewN m) Q1 l1 a → wpQuiet P (idled l n o).toArray (fun w' => ∃ m, w' = w.drewN m) Q2 l1 a := by
    intro l1
    induction l1 with
    | nil => intro a Q1 Q2 h h1; exact h _ h1
    | cons x xs ih =>
      intro a Q1 Q2 hh h
      unfold wpQuiet at h ⊢
      split
      · rename_i hw; rw [if_pos hw] at h; exact Oper.quiet_mono (fun a => ih a Q1 Q2 hh) h
      · rename_i hw; rw [if_neg hw] at h; exact ih _ Q1 Q2 hh h
  have hg := edges_guard he n o hn
  have hany : wpAnyQ P .any (idled l n o).toArray (fun w' => ∃ m, w' = w.drewN m) (fun a' => ∀ w', (∃ m, w' = w.drewN m) → o.wp P a' w' (fun a2 w2 => ∀ d, wpAny P .any l.toArray Q (d + (l.drop (n + 1)).length) (listedAt l n) a2 w2) Q) (idled l n o).length (Array.replicate (n + 1) false) a := by
    simp only [Region.lexB, Bool.and_eq_true] at hB
    refine wpAnyQ_lex (md := .any) hB.1 (idled l n o) 0 (Array.replicate (n + 1) false) a (by simp) (by simpa [idled_size hl] using hB.2) ?_
    refine happ (l.take n) a _ _ (hmono _ _ _ _ ?_ hq)
    intro a' ha'
    simp only [wpQuiet, Region.wanted, hg, if_true]
    refine ⟨undef, fun w' _ => ?_, ?_⟩
    · simp [Oper.quietAt, Oper.quietUpon, execOp, Act.eval]
    · simp only [Act.put]
      rintro w' ⟨m, rfl⟩
      refine Oper.wp_mono (fun a2 w2 h2 d => ?_) (ha' m)
      refine wpAny_of_quiet (C := fun w' => ∃ m, w' = w2.drewN m) (Q := fun a3 => ∀ m, Q .normal a3 (w2.drewN m)) ?_ _ _ _ _ ⟨0, rfl⟩ (wpAnyQ_add _ _ _ (wpAnyQ_lex (md := .any) hS (l.drop (n + 1)) (n + 1) (listedAt l n) a2 (fun j => by simp) hB2 (h2 l.toArray)) d)
      rintro a3 w3 ⟨m, rfl⟩ h3
      exact h3 m
  rw [idled_size hl] at hany
  have := phase1 (P := P) (Q := Q) (C := fun w' => ∃ m, w' = w.drewN m) he hl hn (l.drop (n + 1)).length (n + 1) (Array.replicate l.length false) (Array.replicate (n + 1) false) a { w with drawn := w.drawn + 1 } (by simp) (by simp)
    (fun i hi => by simp [Array.getD_eq_getD_getElem?, Array.getElem?_replicate]; split <;> split <;> rfl) (fun i hi => by simp [Array.getD_eq_getD_getElem?, Array.getElem?_replicate]; split <;> rfl)
    (fun k' o' _ _ hk' => by exfalso; simp [Array.getD_eq_getD_getElem?, Array.getElem?_replicate] at hk'; split at hk' <;> cases hk') ⟨1, rfl⟩ hany
  have hsz : n + 1 + (l.drop (n + 1)).length = l.toArray.size := by simp; omega
  rw [hsz] at this
  simpa using this
end
end Go.Proofs.Ybulkcazq.Loud
