import Derived.Conc.LoneCalls
import Derived.Conc.LoneSelect
import Derived.Conc.LoneSelectN
import Derived.Tactics
import Derived.LaidEql
namespace Go.Proofs.Ybulkcazq.Comm
open Go.Conc Go.RowKit

section
variable {P : Program} {ops : Array Oper} {Q : Exit → Act → World → Prop} {a : Act} {w : World} {o : Oper} {i : Nat} {rest : List Nat}

def InReg (P : Program) (ops : Array Oper) (Q : Exit → Act → World → Prop) (l : List Nat) (a : Act) (w : World) : Prop :=
  ∀ (b : Frame) (k : List Item) (cs : List Frame), ∃ e a' w', Q e a' w' ∧ Arrives P (lone (b.at a (.inRegion ops l :: k)) cs w) b k cs e a' w'

theorem wp_region_in {id : Nat} (h : InReg P ops Q (List.range ops.size) a w) : (Code.region id ops false).wp P Q a w :=
  fun b k cs => let ⟨e, a', w', q, r⟩ := h b k cs; ⟨e, a', w', q, .of_steps (.one step_region) r⟩

theorem fin_at (b : Frame) (k : List Item) (ho : ops[i]? = some o) (v : Value) :
    (b.at a (.inRegion ops (i :: rest) :: k)).finish v = b.at (a.put o.dst v) (.inRegion ops rest :: k) := by
  rw [Frame.finish_at, ho]; rfl

theorem pre_ops {K : Act → World → Prop} (r : List Nat) (l : List Nat) : ∀ (a : Act) (w : World), wpOps P ops (Exit.then K (fun _ _ _ => False)) l a w →
    ∀ (b : Frame) (k : List Item) (cs : List Frame), ∃ a' w', K a' w' ∧
      Steps P (lone (b.at a (.inRegion ops (l ++ r) :: k)) cs w) (lone (b.at a' (.inRegion ops r :: k)) cs w') := by
  induction l with
  | nil => exact fun a w h b k cs => ⟨a, w, h, Steps.refl _ _⟩
  | cons i l ih =>
    intro a w h b k cs
    simp only [wpOps] at h
    cases ho : ops[i]? with
    | none =>
      simp only [ho] at h
      obtain ⟨a', w', hk, hs⟩ := ih a w h b k cs
      have h1 := step_op_skip (P := P) (b := b) (a := a) (k := k) (cs := cs) (w := w) (ops := ops) (i := i) (rest := l ++ r) (by simp [ho])
      simp only [ho, Option.bind_none, Act.put] at h1
      exact ⟨a', w', hk, Steps.head h1 hs⟩
    | some o =>
      simp only [ho] at h
      by_cases hw : Region.wanted o (yielded ops a.tmps) = true
      · simp only [hw, if_true] at h
        rcases h with h | ⟨_, _, _, h⟩
        case inr => exact h.elim
        have hg := stepG_op (P := P) (b := b) (k := k) (cs := cs) (w := w) (rest := l ++ r) ho hw
        have hfin : ∀ v, (b.at a (.inRegion ops (i :: (l ++ r)) :: k)).finish v = b.at (a.put o.dst v) (.inRegion ops (l ++ r) :: k) := fin_at b k ho
        simp only [Oper.wp] at h
        cases hr : (execOp a.eval o).run P w with
        | halt x w' =>
          rw [hr] at h
          cases x <;> simp only [Oper.upon] at h <;> exact h.elim
        | ok x w' =>
          rw [hr] at h
          cases x <;> simp only [Oper.upon] at h
          case value v =>
            obtain ⟨a', w'', hk, hs⟩ := ih _ _ h b k cs
            exact ⟨a', w'', hk, Steps.head (step_lone_go (by rw [List.cons_append, hg, ← hfin]; simp [stepG.apply, hr])) hs⟩
          case skip =>
            obtain ⟨a', w'', hk, hs⟩ := ih _ _ h b k cs
            exact ⟨a', w'', hk, Steps.head (step_lone_go (by rw [List.cons_append, hg, ← hfin]; simp [stepG.apply, hr])) hs⟩
          case enter f args =>
            obtain ⟨e, w'', fr, hR, hsteps, _, hleave⟩ := h (b.at a (.inRegion ops (i :: (l ++ r)) :: k) :: cs)
            have henter : step P (lone (b.at a (.inRegion ops (i :: (l ++ r)) :: k)) cs w) =
                .next (lone (Frame.enter P f args .normal) (b.at a (.inRegion ops (i :: (l ++ r)) :: k) :: cs) w') :=
              step_lone_go (by rw [hg]; simp [stepG.apply, hr, Frame.at])
            cases e with
            | returned v =>
              obtain ⟨a', w₃, hk, hs⟩ := ih _ _ hR b k cs
              refine ⟨a', w₃, hk, Steps.head henter (hsteps.trans (Steps.head ?_ hs))⟩
              rw [← hfin]; exact step_leave_returned hleave
            | panicked chain => exact hR.elim
            | outgrown => obtain ⟨_, _, hq⟩ := hR; exact hq.elim
          case row row args =>
            obtain ⟨v, w'', hR, hsteps⟩ := h (b.at a (.inRegion ops (i :: (l ++ r)) :: k)) cs
            have henter : step P (lone (b.at a (.inRegion ops (i :: (l ++ r)) :: k)) cs w) =
                .next (lone (Frame.ofRow P row args .normal) (b.at a (.inRegion ops (i :: (l ++ r)) :: k) :: cs) w') :=
              step_lone_go (by rw [hg]; simp [stepG.apply, hr, Frame.at])
            obtain ⟨a', w₃, hk, hs⟩ := ih _ _ hR b k cs
            refine ⟨a', w₃, hk, Steps.head henter (Steps.trans ?_ hs)⟩
            rw [← hfin]; exact hsteps
          case defer d =>
            obtain ⟨a', w'', hk, hs⟩ := ih _ _ h b k cs
            refine ⟨a', w'', hk, Steps.head (step_lone_go ?_) hs⟩
            have he : ({ b.at a (.inRegion ops (i :: (l ++ r)) :: k) with defers := d :: a.defers } : Frame).finish undef =
                b.at ({ a with defers := d :: a.defers }.put o.dst undef) (.inRegion ops (l ++ r) :: k) := fin_at (a := { a with defers := d :: a.defers }) b k ho undef
            rw [List.cons_append, hg]; simp only [stepG.apply, Sem.runT_eq, hr, GStep.bare_after]
            exact congrArg (fun fr => GStep.go { frame := fr, callers := cs, status := .running, dying := none } w') he
          all_goals exact h.elim
      · simp only [hw, if_false, Bool.false_eq_true] at h
        obtain ⟨a', w', hk, hs⟩ := ih _ _ h b k cs
        have h1 := step_op_skip (P := P) (b := b) (a := a) (k := k) (cs := cs) (w := w) (ops := ops) (i := i) (rest := l ++ r) (by simp [ho]; simpa using hw)
        simp only [ho, Option.bind_some] at h1
        exact ⟨a', w', hk, Steps.head h1 hs⟩

theorem stepG_comm_any {b : Frame} {k : List Item} {cs : List Frame} {cases : Array CommCase} {blocking : Bool} {shape : CommShape} {w' : World} (ho : ops[i]? = some o) (hg : o.guard = none)
    (hr : (execOp a.eval o).run P w = .ok (.comm cases blocking shape) w') :
    ∃ es, stepG P true (G (b.at a (.inRegion ops (i :: rest) :: k)) cs) w = .comm (G (b.at a (.inRegion ops (i :: rest) :: k)) cs) cases blocking shape w' es := by
  have hw : Region.wanted o (yielded ops a.tmps) = true := by simp [Region.wanted, hg]
  have h := stepG_op (P := P) (b := b) (k := k) (cs := cs) (w := w) (rest := rest) ho hw
  rw [G, h]
  simp only [stepG.apply, Sem.runT_eq, hr, if_true, GStep.after]
  exact ⟨_, rfl⟩

def CommTo (P : Program) (a : Act) (o : Oper) (w : World) (v : Value) (w' : World) : Prop :=
  ∀ (fr : Frame) (cs : List Frame) (cases : Array CommCase) (blocking : Bool) (shape : CommShape) (w₁ : World) (es : Array Event),
    (execOp a.eval o).run P w = .ok (.comm cases blocking shape) w₁ → stepG P true (G fr cs) w = .comm (G fr cs) cases blocking shape w₁ es →
    step P (solo (G fr cs) w) = .next (solo (G (fr.finish v) cs) w')

def IsComm (P : Program) (a : Act) (o : Oper) (w : World) : Prop := ∃ cases blocking shape w₁, (execOp a.eval o).run P w = .ok (.comm cases blocking shape) w₁

theorem inReg_comm {v : Value} {w' : World} (ho : ops[i]? = some o) (hg : o.guard = none) (hi : IsComm P a o w) (hc : CommTo P a o w v w') (h : InReg P ops Q rest (a.put o.dst v) w') : InReg P ops Q (i :: rest) a w := by
  intro b k cs
  obtain ⟨cases, blocking, shape, w₁, hr⟩ := hi
  obtain ⟨es, hs⟩ := stepG_comm_any (b := b) (k := k) (cs := cs) (rest := rest) ho hg hr
  have h1 := hc _ _ _ _ _ _ _ hr hs
  rw [fin_at b k ho] at h1
  obtain ⟨e, a', w'', hq, harr⟩ := h b k cs
  exact ⟨e, a', w'', hq, .of_steps (.one h1) harr⟩

theorem range_split (n m : Nat) : List.range (n + m) = List.range n ++ List.range' n m := by
  have h := List.range'_append (s := 0) (m := n) (n := m) (step := 1)
  simp only [Nat.zero_add, Nat.one_mul] at h
  rw [List.range_eq_range', List.range_eq_range', ← h]

theorem wpOps_pre {Q' : Exit → Act → World → Prop} (l : List Oper) : ∀ k, (∀ j, j < l.length → l[j]? = ops[k + j]?) → wpOps P ops Q' (List.range' k l.length) = wpList P ops Q' l := by
  induction l with
  | nil => intro k _; funext a w; simp [wpOps, wpList]
  | cons o l ih =>
    intro k h
    have h0 : ops[k]? = some o := by simpa using (h 0 (by simp)).symm
    have ih' := ih (k + 1) (fun j hj => by have := h (j + 1) (by simpa using hj); simpa [Nat.add_assoc, Nat.add_comm 1 j] using this)
    funext a w
    simp only [List.length_cons, List.range'_succ, wpOps, h0, wpList, ih']

/-- the region is walked as far as operation n; that one communicates; the rest of the region -/
theorem wp_region_comm {id : Nat} {l : List Oper} (n : Nat) (o : Oper) (hn : l[n]? = some o) (hg : o.guard = none)
    (h : wpList P l.toArray (Exit.then (fun a w => ∃ v w', IsComm P a o w ∧ CommTo P a o w v w' ∧ wpList P l.toArray Q (l.drop (n + 1)) (a.put o.dst v) w') (fun _ _ _ => False)) (l.take n) a w) :
    (Code.region id l.toArray false).wp P Q a w := by
  apply wp_region_in
  have hlt : n < l.length := by
    rcases Nat.lt_or_ge n l.length with h | h
    · exact h
    · rw [List.getElem?_eq_none h] at hn; cases hn
  have e1 : List.range l.toArray.size = List.range n ++ (n :: List.range' (n + 1) (l.length - (n + 1))) := by
    have : l.toArray.size = n + (1 + (l.length - (n + 1))) := by simp; omega
    rw [this, range_split, Nat.add_comm 1, List.range'_succ]
  rw [e1]
  intro b k cs
  have hpre : wpOps P l.toArray (Exit.then (fun a w => ∃ v w', IsComm P a o w ∧ CommTo P a o w v w' ∧ wpList P l.toArray Q (l.drop (n + 1)) (a.put o.dst v) w') (fun _ _ _ => False)) (List.range n) a w := by
    have hl : (l.take n).length = n := by simp; omega
    have hp := wpOps_pre (P := P) (ops := l.toArray) (Q' := (Exit.then (fun a w => ∃ v w', IsComm P a o w ∧ CommTo P a o w v w' ∧ wpList P l.toArray Q (l.drop (n + 1)) (a.put o.dst v) w') (fun _ _ _ => False)))
      (l.take n) 0 (fun j hj => by rw [hl] at hj; simp [hj])
    rw [hl] at hp
    rw [List.range_eq_range', hp]; exact h
  obtain ⟨a', w', ⟨v, w'', hi, hc, hrest⟩, hs⟩ := pre_ops _ _ a w hpre b k cs
  have hsuf : InReg P l.toArray Q (List.range' (n + 1) (l.length - (n + 1))) (a'.put o.dst v) w'' := by
    intro b k cs
    refine wp_ops _ _ _ ?_ b k cs
    have := wpOps_eq_wpList (P := P) (ops := l.toArray) (Q := Q) (l.drop (n + 1)) (n + 1) (by intro j; simp [List.getElem?_drop])
    rw [List.length_drop] at this
    rw [this]; exact hrest
  obtain ⟨e, a₂, w₂, hq, harr⟩ := inReg_comm (ops := l.toArray) (i := n) (rest := List.range' (n + 1) (l.length - (n + 1))) (by simpa using hn) hg hi hc hsuf b k cs
  exact ⟨e, a₂, w₂, hq, .of_steps hs harr⟩

/-- the same, the continuation under a letter -/
theorem wp_region_comm_k {id : Nat} {l : List Oper} (n : Nat) (o : Oper) (hn : l[n]? = some o) (hg : o.guard = none)
    (h : ∀ K : Act → World → Prop, (∀ a w, (∃ v w', IsComm P a o w ∧ CommTo P a o w v w' ∧ wpList P l.toArray Q (l.drop (n + 1)) (a.put o.dst v) w') → K a w) →
      wpList P l.toArray (Exit.then K (fun _ _ _ => False)) (l.take n) a w) :
    (Code.region id l.toArray false).wp P Q a w := wp_region_comm n o hn hg (h _ (fun _ _ h => h))

variable {ch cap s r : Nat} {buf : Array Value} {z v : Value} {tm closed ok : Bool} {w' : World}

theorem comm_send {N : Act → World → Prop} (hr : (execOp a.eval o).run P w = .ok (.comm #[scase ch v z] true .send) w) (hc : w.heap[ch]? = some (.chan cap buf false s r tm)) (hroom : buf.size < cap)
    (h : N (a.put o.dst undef) (w.setChan ch cap (buf.push v) false (s + 1) r tm)) : ∃ v w', IsComm P a o w ∧ CommTo P a o w v w' ∧ N (a.put o.dst v) w' := by
  refine ⟨undef, _, ⟨_, _, _, _, hr⟩, ?_, h⟩
  intro fr cs cases blocking shape w₁ es hr' hs
  rw [hr] at hr'
  simp only [Result.ok.injEq, Next.comm.injEq] at hr'
  obtain ⟨⟨rfl, rfl, rfl⟩, rfl⟩ := hr'
  exact step_lone_send_room hs hc hroom

theorem comm_recv_buf {N : Act → World → Prop} (hr : (execOp a.eval o).run P w = .ok (.comm #[rcase ch z] true (.recv ok)) w) (hc : w.heap[ch]? = some (.chan cap buf closed s r tm)) (hsome : 0 < buf.size)
    (h : N (a.put o.dst (got ok (buf.getD 0 undef) true)) (w.setChan ch cap (buf.extract 1 buf.size) closed s (r + 1) tm)) : ∃ v w', IsComm P a o w ∧ CommTo P a o w v w' ∧ N (a.put o.dst v) w' := by
  refine ⟨_, _, ⟨_, _, _, _, hr⟩, ?_, h⟩
  intro fr cs cases blocking shape w₁ es hr' hs
  rw [hr] at hr'
  simp only [Result.ok.injEq, Next.comm.injEq] at hr'
  obtain ⟨⟨rfl, rfl, rfl⟩, rfl⟩ := hr'
  exact step_lone_recv_buf ok hs hc hsome

theorem comm_recv_shut {N : Act → World → Prop} (hr : (execOp a.eval o).run P w = .ok (.comm #[rcase ch z] true (.recv ok)) w) (hc : w.heap[ch]? = some (.chan cap #[] true s r tm))
    (h : N (a.put o.dst (got ok z false)) w) : ∃ v w', IsComm P a o w ∧ CommTo P a o w v w' ∧ N (a.put o.dst v) w' := by
  refine ⟨_, _, ⟨_, _, _, _, hr⟩, ?_, h⟩
  intro fr cs cases blocking shape w₁ es hr' hs
  rw [hr] at hr'
  simp only [Result.ok.injEq, Next.comm.injEq] at hr'
  obtain ⟨⟨rfl, rfl, rfl⟩, rfl⟩ := hr'
  exact step_lone_recv_shut ok hs hc

theorem comm_select_buf {N : Act → World → Prop} (hr : (execOp a.eval o).run P w = .ok (.comm #[rcase ch z] false .select) w) (hc : w.heap[ch]? = some (.chan cap buf closed s r tm)) (hsome : 0 < buf.size)
    (h : N (a.put o.dst (.tuple #[goInt 0, .bool true, buf.getD 0 undef])) (w.setChan ch cap (buf.extract 1 buf.size) closed s (r + 1) tm)) : ∃ v w', IsComm P a o w ∧ CommTo P a o w v w' ∧ N (a.put o.dst v) w' := by
  refine ⟨_, _, ⟨_, _, _, _, hr⟩, ?_, h⟩
  intro fr cs cases blocking shape w₁ es hr' hs
  rw [hr] at hr'
  simp only [Result.ok.injEq, Next.comm.injEq] at hr'
  obtain ⟨⟨rfl, rfl, rfl⟩, rfl⟩ := hr'
  exact step_lone_select_recv_buf hs hc hsome

theorem comm_select_default {N : Act → World → Prop} (hr : (execOp a.eval o).run P w = .ok (.comm #[rcase ch z] false .select) w) (hc : w.heap[ch]? = some (.chan cap #[] false s r tm))
    (h : N (a.put o.dst (.tuple #[goInt (-1), .bool false, z])) w) : ∃ v w', IsComm P a o w ∧ CommTo P a o w v w' ∧ N (a.put o.dst v) w' := by
  refine ⟨_, _, ⟨_, _, _, _, hr⟩, ?_, h⟩
  intro fr cs cases blocking shape w₁ es hr' hs
  rw [hr] at hr'
  simp only [Result.ok.injEq, Next.comm.injEq] at hr'
  obtain ⟨⟨rfl, rfl, rfl⟩, rfl⟩ := hr'
  exact step_lone_select_default hs hc

theorem comm_select_nil {N : Act → World → Prop} (hr : (execOp a.eval o).run P w = .ok (.comm #[rcaseNil z] false .select) w)
    (h : N (a.put o.dst (.tuple #[goInt (-1), .bool false, z])) w) : ∃ v w', IsComm P a o w ∧ CommTo P a o w v w' ∧ N (a.put o.dst v) w' := by
  refine ⟨_, _, ⟨_, _, _, _, hr⟩, ?_, h⟩
  intro fr cs cases blocking shape w₁ es hr' hs
  rw [hr] at hr'
  simp only [Result.ok.injEq, Next.comm.injEq] at hr'
  obtain ⟨⟨rfl, rfl, rfl⟩, rfl⟩ := hr'
  exact step_lone_select_recv_nil hs
end
section
variable {P : Program} (w : World)
theorem run_equalIn_chan (d : Nat) (t : TypeId) {dir : ChanDir} {e : TypeId} (h : P.underlying t = some (.chan dir e)) (x y : Option Nat) : (Op.equalIn (d + 1) t (.chan x) (.chan y)).run P w = .ok (x == y) w := by
  simp [Op.equalIn, run_underlying h]
theorem run_equal_chan (t : TypeId) {dir : ChanDir} {e : TypeId} (h : P.underlying t = some (.chan dir e)) (x y : Option Nat) : (Op.equal t (.chan x) (.chan y)).run P w = .ok (x == y) w :=
  run_equalIn_chan w 9999 t h x y
theorem run_eql_chan (t : TypeId) {dir : ChanDir} {e : TypeId} (h : P.underlying t = some (.chan dir e)) (x y : Option Nat) : (binOp .eql t (.chan x) (.chan y)).run P w = .ok (.bool (x == y)) w := by
  simp only [binOp]
  simp [run_equal_chan w t h]
theorem run_neq_chan (t : TypeId) {dir : ChanDir} {e : TypeId} (h : P.underlying t = some (.chan dir e)) (x y : Option Nat) : (binOp .neq t (.chan x) (.chan y)).run P w = .ok (.bool (!(x == y))) w := by
  simp only [binOp]
  simp [run_equal_chan w t h]
theorem run_equalIn_ptr_same (d : Nat) {tp te : TypeId} {j : TypeInfo} (a : Addr) (hp : P.underlying tp = some (.pointer te)) (hte : P.info? te = some j) :
    (Op.equalIn (d + 1) tp (.pointer (some a)) (.pointer (some a))).run P w = .ok true w := by
  simp [Op.equalIn, run_underlying hp, typeInfo, sizeOf, run_sameAddr_same, hte]
theorem run_equalIn_ptr_other (d : Nat) {tp te : TypeId} {j : TypeInfo} {a b : Addr} {ca cb : Array Value} {ta tb : TypeId} (hp : P.underlying tp = some (.pointer te)) (hte : P.info? te = some j) (hsz : j.size ≠ 0)
    (hne : a ≠ b) (ha : w.heap[a.block]? = some (.cells ca ta (0, 0))) (hb : w.heap[b.block]? = some (.cells cb tb (0, 0))) :
    (Op.equalIn (d + 1) tp (.pointer (some a)) (.pointer (some b))).run P w = .ok false w := by
  simp [Op.equalIn, run_underlying hp, typeInfo, sizeOf, hte, hsz, run_sameAddr_other w hne ha hb]
theorem run_eql_ptr_same {tp te : TypeId} {j : TypeInfo} (a : Addr) (hp : P.underlying tp = some (.pointer te)) (hte : P.info? te = some j) :
    (binOp .eql tp (.pointer (some a)) (.pointer (some a))).run P w = .ok (.bool true) w := by
  simp only [binOp]
  simp [Op.equal, Op.maxDepth, run_equalIn_ptr_same w 9999 a hp hte]
theorem run_neq_ptr_same {tp te : TypeId} {j : TypeInfo} (a : Addr) (hp : P.underlying tp = some (.pointer te)) (hte : P.info? te = some j) :
    (binOp .neq tp (.pointer (some a)) (.pointer (some a))).run P w = .ok (.bool false) w := by
  simp only [binOp]
  simp [Op.equal, Op.maxDepth, run_equalIn_ptr_same w 9999 a hp hte]
theorem run_eql_ptr_other {tp te : TypeId} {j : TypeInfo} {a b : Addr} {ca cb : Array Value} {ta tb : TypeId} (hp : P.underlying tp = some (.pointer te)) (hte : P.info? te = some j) (hsz : j.size ≠ 0)
    (hne : a ≠ b) (ha : w.heap[a.block]? = some (.cells ca ta (0, 0))) (hb : w.heap[b.block]? = some (.cells cb tb (0, 0))) :
    (binOp .eql tp (.pointer (some a)) (.pointer (some b))).run P w = .ok (.bool false) w := by
  simp only [binOp]
  simp [Op.equal, Op.maxDepth, run_equalIn_ptr_other w 9999 hp hte hsz hne ha hb]
theorem run_neq_ptr_other {tp te : TypeId} {j : TypeInfo} {a b : Addr} {ca cb : Array Value} {ta tb : TypeId} (hp : P.underlying tp = some (.pointer te)) (hte : P.info? te = some j) (hsz : j.size ≠ 0)
    (hne : a ≠ b) (ha : w.heap[a.block]? = some (.cells ca ta (0, 0))) (hb : w.heap[b.block]? = some (.cells cb tb (0, 0))) :
    (binOp .neq tp (.pointer (some a)) (.pointer (some b))).run P w = .ok (.bool true) w := by
  simp only [binOp]
  simp [Op.equal, Op.maxDepth, run_equalIn_ptr_other w 9999 hp hte hsz hne ha hb]
end
end Go.Proofs.Ybulkcazq.Comm
