import Derived.Test.YbulkcangDoorSmall
import Derived.Test.YbulkcangDoorComm2
import Derived.Lib.SliceRun
namespace Go.Proofs.YbulkcangDoor.Waits
set_option linter.unusedVariables false
open Go.ChangeShapes Go.WideShapes Go.ChangeAt Go.RowKit Go.Conc Go.Proofs.YbulkcangDoor.Base Go.Proofs.YbulkcangDoor.Small Go.Proofs.YbulkcangDoor.Comm

structure Wx where
  of : Bool
  want : Int
  subj : ByteArray

def sp : ByteArray := ⟨#[32]⟩
def ptr (b : Nat) : Value := .pointer (some ⟨b, 0, none⟩)
def wcells (Pp : Nat) (x : Wx) (c : Nat) : Array Value := #[.string x.subj, .int .i64 x.want, .pointer (if x.of then some ⟨Pp, 0, none⟩ else none), .int .i64 0, .int .i64 0, .chan (some c)]
def reply (ending : ByteArray) (x : Wx) : Value := if x.want = 0 then .agg #[.int .i64 0, .string (x.subj ++ sp ++ idle)] else .agg #[.int .i64 1, .string (x.subj ++ sp ++ ending)]
def fresh : Obj := .chan 1 #[] false 0 0 false
def settled (ending : ByteArray) (x : Wx) : Obj := if x.of then fresh else .chan 1 #[reply ending x] false 1 0 false
def kp (xs : Nat → Wx) (k : Nat) : List Nat := (List.range k).filter fun i => (xs i).of

theorem kp_yes (xs : Nat → Wx) (k : Nat) (h : (xs k).of = true) : kp xs (k + 1) = kp xs k ++ [k] := by simp [kp, List.range_succ, List.filter_append, h]
theorem kp_no (xs : Nat → Wx) (k : Nat) (h : (xs k).of = false) : kp xs (k + 1) = kp xs k := by simp [kp, List.range_succ, List.filter_append, h]
theorem kp_le (xs : Nat → Wx) (k : Nat) : (kp xs k).length ≤ k := by have := List.length_filter_le (fun i => (xs i).of) (List.range k); simpa [kp] using this

structure Ws (w : World) (len Pp : Nat) (xs : Nat → Wx) (wl cl : Nat → Nat) (st : Nat → Obj) : Prop where
  wt : ∀ i, i < len → w.heap[wl i]? = some (.cells (wcells Pp (xs i) (cl i)) 45 (0, 0))
  c : ∀ i, i < len → w.heap[cl i]? = some (st i)
  inj : ∀ i j, i < len → j < len → cl i = cl j → i = j

theorem Ws.keep {w w' : World} {len Pp : Nat} {xs : Nat → Wx} {wl cl : Nat → Nat} {st : Nat → Obj} {S : Nat → Prop} (h : Ws w len Pp xs wl cl st) (ht : TouchOnly S w w')
    (h1 : ∀ i, i < len → ¬ S (wl i)) (h2 : ∀ i, i < len → ¬ S (cl i)) : Ws w' len Pp xs wl cl st :=
  ⟨fun i hi => ht.keep (h.wt i hi) (h1 i hi), fun i hi => ht.keep (h.c i hi) (h2 i hi), h.inj⟩

theorem Ws.send {w : World} {len Pp : Nat} {xs : Nat → Wx} {wl cl : Nat → Nat} {st : Nat → Obj} (h : Ws w len Pp xs wl cl st) {k : Nat} (hk : k < len) (hne : ∀ i, i < len → ¬ wl i = cl k)
    (cap : Nat) (buf : Array Value) (b : Bool) (s r : Nat) (tm : Bool) : Ws (w.setChan (cl k) cap buf b s r tm) len Pp xs wl cl (fun i => if i = k then .chan cap buf b s r tm else st i) := by
  refine ⟨fun i hi => blk_chan (hne i hi) (h.wt i hi), fun i hi => ?_, h.inj⟩
  by_cases e : i = k
  · subst e; simp only [if_true]; exact heap_setChan w _ _ _ _ _ _ _ (blk_lt (h.c i hi))
  · simp only [e, if_false]; exact blk_chan (fun x => e (h.inj i k hi hk x)) (h.c i hi)

theorem Ws.congr {w : World} {len Pp : Nat} {xs : Nat → Wx} {wl cl : Nat → Nat} {st st' : Nat → Obj} (h : Ws w len Pp xs wl cl st) (he : ∀ i, i < len → st i = st' i) : Ws w len Pp xs wl cl st' :=
  ⟨h.wt, fun i hi => by rw [← he i hi]; exact h.c i hi, h.inj⟩

theorem settled_chan (ending : ByteArray) (x : Wx) : ∃ buf s, settled ending x = .chan 1 buf false s 0 false := by
  unfold settled fresh
  split
  · exact ⟨_, _, rfl⟩
  · exact ⟨_, _, rfl⟩

theorem Ws.chan {w : World} {len Pp : Nat} {ending : ByteArray} {xs : Nat → Wx} {wl cl : Nat → Nat} {k : Nat} (h : Ws w len Pp xs wl cl (fun i => if i < k then settled ending (xs i) else fresh)) {i : Nat} (hi : i < len) :
    ∃ buf s, w.heap[cl i]? = some (.chan 1 buf false s 0 false) := by
  have := h.c i hi
  split at this
  · obtain ⟨b, s, e⟩ := settled_chan ending (xs i); rw [e] at this; exact ⟨b, s, this⟩
  · exact ⟨_, _, this⟩

theorem size_blank : (⟨#[32]⟩ : ByteArray).size = 1 := rfl
theorem cat1 {P : Program} (s : ByteArray) (h : s.size ≤ 140737488355328) (w : World) : (Op.stringOp .add s ⟨#[32]⟩).run P w = .ok (.string (s ++ ⟨#[32]⟩)) w :=
  run_string_add_sum (P := P) (w := w) s ⟨#[32]⟩ (by rw [size_blank]; omega)
theorem cat2 {P : Program} (s t : ByteArray) (h : s.size ≤ 140737488355328) (ht : t.size ≤ 140737488355328) (w : World) : (Op.stringOp .add (s ++ ⟨#[32]⟩) t).run P w = .ok (.string (s ++ ⟨#[32]⟩ ++ t)) w :=
  run_string_add_sum (P := P) (w := w) (s ++ ⟨#[32]⟩) t (by rw [ByteArray.size_append, size_blank]; omega)
theorem size_idle : idle.size ≤ 140737488355328 := by decide
/-- an append of one element where there is room: the row's very cells -/
theorem wpList_append_room1 {P : Program} (w : World) {ops : Array Oper} {rest : List Oper} {o : Oper} {a : Act} {Q : Exit → Act → World → Prop}
    (hg : o.guard = none) (s x : Operand) (t : TypeId) (hop : o.op = Op.call { callee := Callee.builtin Builtin.append, args := #[s, x], argTypes := #[t, t] })
    (e : TypeId) (i : TypeInfo) (h1 : P.underlying t = some (.slice e)) (h2 : P.info? e = some i) (h4 : i.size = 1)
    (g k cap : Nat) (cur : List Value) (hs : a.eval s = .slice (some ⟨g, 0, none⟩) k cap) (hG : w.heap[g]? = some (.cells cur.toArray e (0, 0))) (ad : Addr) (v : Value) (hx : a.eval x = .slice (some ad) 1 1)
    (hc : w.cell? (ad.add 0) = some v) (h1c : v.oneCell' = true) (hroom : k + 1 ≤ cap) (hlen : cur.length = cap)
    (hK : ∀ w', w'.heap[g]? = some (.cells (cur.set k v).toArray e (0, 0)) → TouchOnly (· = g) w w' → wpList P ops Q rest (a.put o.dst (.slice (some ⟨g, 0, none⟩) (k + 1) cap)) w') :
    wpList P ops Q (o :: rest) a w := by
  refine wpList_plain hg fun K hK' => ?_
  have hr := run_append_room (P := P) w t o.type e i h1 h2 g k cap cur.toArray hG ad 1 1 [v] (by simp [h4]) (by
    intro j u hu
    cases j with
    | zero => simp at hu; subst hu; exact hc
    | succ j => simp at hu) (by intro u hu; simp at hu; subst hu; exact h1c) hroom (by simp [h4]; omega)
  rw [h4] at hr
  have he : (cur.toArray.toList.take (k * 1) ++ [v] ++ cur.toArray.toList.drop (k * 1 + [v].length)) = cur.set k v := by
    rw [List.set_eq_take_append_cons_drop, if_pos (by omega)]; simp
  rw [he] at hr
  unfold Oper.wp
  simp [execOp, hop, resolve, invoke, builtin, hs, hx, hr, Result.andThen]
  exact hK' _ _ (hK _ (setRow_heap w g _ _ e _ hG) ((TouchOnly.refl (· = g) w).setRow (g := g) (fun _ => rfl) _))
end Go.Proofs.YbulkcangDoor.Waits
