import Derived.Test.YbulkcazqSmall
import Derived.MapKept
namespace Go.Proofs.Ybulkcazq.Script
set_option linter.unusedVariables false
open Go.ChangeShapes Go.WideShapes Go.ChangeAt Go.RowKit Go.Conc Go.Proofs.Ybulkcazq.Base
open Go.ChangeMaps (setBlock)

abbrev ptr (b : Nat) : Value := .pointer (some ⟨b, 0, none⟩)
def optr : Option Nat → Value
  | none => .pointer none
  | some b => ptr b

def fset {α : Type} (f : Nat → α) (k : Nat) (v : α) : Nat → α := fun i => if i = k then v else f i
theorem fset_same {α : Type} (f : Nat → α) (k : Nat) (v : α) : fset f k v k = v := by simp [fset]
theorem fset_other {α : Type} (f : Nat → α) {k i : Nat} (v : α) (h : ¬ i = k) : fset f k v i = f i := by simp [fset, h]

def one (f : Nat → Option Nat) (h : Nat) : Nat := if (f h).isSome = true then 1 else 0
def cnt (f : Nat → Option Nat) : Nat := one f 0 + one f 1 + one f 2

theorem cnt_add (f : Nat → Option Nat) (h b : Nat) (hh : h < 3) (hn : f h = none) : cnt (fset f h (some b)) = cnt f + 1 := by
  rcases (show h = 0 ∨ h = 1 ∨ h = 2 by omega) with rfl | rfl | rfl <;> simp [cnt, one, fset, hn] <;> omega
theorem cnt_same (f : Nat → Option Nat) (h b c : Nat) (hh : h < 3) (hn : f h = some c) : cnt (fset f h (some b)) = cnt f := by
  rcases (show h = 0 ∨ h = 1 ∨ h = 2 by omega) with rfl | rfl | rfl <;> simp [cnt, one, fset, hn]
theorem cnt_sub (f : Nat → Option Nat) (h c : Nat) (hh : h < 3) (hn : f h = some c) : cnt (fset f h none) + 1 = cnt f := by
  rcases (show h = 0 ∨ h = 1 ∨ h = 2 by omega) with rfl | rfl | rfl <;> simp [cnt, one, fset, hn] <;> omega

/-- the map's entries -/
structure MapIs (l : List MapEntry) (f : Nat → Option Nat) : Prop where
  ent : ∀ e ∈ l, ∃ h b, h < 3 ∧ e.key = .int .u64 ((h : Nat) : Int) ∧ e.val = ptr b ∧ f h = some b
  has : ∀ h b, h < 3 → f h = some b → ∃ e ∈ l, e.key = .int .u64 ((h : Nat) : Int)
  nd : l.Pairwise (fun a b => ¬ a.key = b.key)
  len : l.length = cnt f

theorem mapIs_nil : MapIs [] (fun _ => none) := ⟨fun e h => by simp at h, fun h b _ hb => by simp at hb, by simp, by simp [cnt, one]⟩

theorem find_cases (h : Nat) : ∀ (l : List MapEntry) (i : Nat), (∀ e ∈ l, ∃ k : Nat, e.key = .int .u64 (k : Int)) →
    (Instr.findNow (.int .u64) (.int .u64 (h : Int)) l i = some none ∧ ∀ e ∈ l, ¬ e.key = .int .u64 (h : Int)) ∨
    ∃ l1 e l2, l = l1 ++ e :: l2 ∧ e.key = .int .u64 (h : Int) ∧ Instr.findNow (.int .u64) (.int .u64 (h : Int)) l i = some (some (i + l1.length, e.val))
  | [], i, _ => .inl ⟨rfl, fun e he => by simp at he⟩
  | e :: l, i, hk => by
    obtain ⟨k, hek⟩ := hk e (by simp)
    by_cases hkh : h = k
    · subst hkh
      right
      refine ⟨[], e, l, rfl, hek, ?_⟩
      simp [Instr.findNow, Instr.sameNow, hek]
    · have hb : ((h : Int) == (k : Int)) = false := by simp; omega
      rcases find_cases h l (i + 1) (fun e' he' => hk e' (by simp [he'])) with ⟨h1, h2⟩ | ⟨l1, e1, l2, h1, h2, h3⟩
      · left
        refine ⟨by simp only [Instr.findNow, Instr.sameNow, hek, if_true, hb]; exact h1, ?_⟩
        intro e' he'
        rcases List.mem_cons.1 he' with rfl | he''
        · rw [hek]; simp; omega
        · exact h2 e' he''
      · right
        refine ⟨e :: l1, e1, l2, by simp [h1], h2, ?_⟩
        simp only [Instr.findNow, Instr.sameNow, hek, if_true, hb]
        rw [h3]
        simp
        omega

theorem MapIs.find {l : List MapEntry} {f : Nat → Option Nat} (hm : MapIs l f) {h : Nat} (hh : h < 3) :
    (f h = none ∧ Instr.findNow (.int .u64) (.int .u64 (h : Int)) l 0 = some none) ∨
    ∃ b l1 e l2, f h = some b ∧ l = l1 ++ e :: l2 ∧ e.key = .int .u64 (h : Int) ∧ Instr.findNow (.int .u64) (.int .u64 (h : Int)) l 0 = some (some (l1.length, ptr b)) := by
  rcases find_cases h l 0 (fun e he => by obtain ⟨k, b, _, h1, _⟩ := hm.ent e he; exact ⟨k, h1⟩) with ⟨h1, h2⟩ | ⟨l1, e, l2, h1, h2, h3⟩
  · left
    refine ⟨?_, h1⟩
    cases hf : f h with
    | none => rfl
    | some b =>
      obtain ⟨e, he, hk⟩ := hm.has h b hh hf
      exact absurd hk (h2 e he)
  · right
    obtain ⟨k, b, hk3, hk, hv, hf⟩ := hm.ent e (by rw [h1]; simp)
    have hkh : k = h := by rw [h2] at hk; simp at hk; omega
    subst hkh
    refine ⟨b, l1, e, l2, hf, h1, h2, ?_⟩
    rw [h3, hv]
    simp

theorem getObj_map {P : Program} {w : World} {M c : Nat} {es : Array MapEntry} (h : w.heap[M]? = some (.map es c)) : (getObj M).run P w = .ok (.map es c) w := by
  simp [getObj, Sem.run, h]
theorem setObj_map {P : Program} {w : World} {M c : Nat} {es : Array MapEntry} (o : Obj) (h : w.heap[M]? = some (.map es c)) : (setObj M o).run P w = .ok () (setBlock w M o) := by
  simp [setObj, Sem.run, h, setBlock]
theorem checkKey_u64 (w : World) (k : Int) (b : Bool) : (Instr.checkKey b 10000 45 (.int .u64 k)).run Yba.prog w = .ok () w := by
  have h : ∀ d : Nat, (Instr.checkKey b (d + 1) 45 (.int .u64 k)).run Yba.prog w = .ok () w := fun d => by
    simp [Instr.checkKey, run_underlying Yba.underlying45]
  exact h 9999
theorem run_look (w : World) (M c h : Nat) (es : Array MapEntry) (f : Nat → Option Nat) (hh : h < 3) (hM : w.heap[M]? = some (.map es c)) (hm : MapIs es.toList f) :
    (Instr.lookup 24 (.map (some M)) (.int .u64 (h : Int)) false).run Yba.prog w = .ok (optr (f h)) w ∧
    (Instr.lookup 24 (.map (some M)) (.int .u64 (h : Int)) true).run Yba.prog w = .ok (.tuple #[optr (f h), .bool (f h).isSome]) w := by
  rcases hm.find hh with ⟨h1, h2⟩ | ⟨b, l1, e, l2, h1, h2, h3, h4⟩
  · simp only [Instr.lookup, Sem.run_bind, run_underlying Yba.underlying24, Result.andThen, getObj_map hM, checkKey_u64, Instr.findKey, run_underlying Yba.underlying45, h1]
    simp [optr, h2]
  · simp only [Instr.lookup, Sem.run_bind, run_underlying Yba.underlying24, Result.andThen, getObj_map hM, checkKey_u64, Instr.findKey, run_underlying Yba.underlying45, h1]
    simp [optr, h4]

theorem pw_mid {l1 l2 : List MapEntry} {e e' : MapEntry} (hk : e'.key = e.key) (h : (l1 ++ e :: l2).Pairwise (fun a b => ¬ a.key = b.key)) : (l1 ++ e' :: l2).Pairwise (fun a b => ¬ a.key = b.key) := by
  rw [List.pairwise_append] at h ⊢
  obtain ⟨h1, h2, h3⟩ := h
  rw [List.pairwise_cons] at h2 ⊢
  refine ⟨h1, ⟨fun a ha => by rw [hk]; exact h2.1 a ha, h2.2⟩, fun a ha b hb => ?_⟩
  rcases List.mem_cons.1 hb with rfl | hb
  · rw [hk]; exact h3 a ha e (by simp)
  · exact h3 a ha b (by simp [hb])

theorem pw_other {l1 l2 : List MapEntry} {e : MapEntry} (h : (l1 ++ e :: l2).Pairwise (fun a b => ¬ a.key = b.key)) : ∀ a ∈ l1 ++ l2, ¬ a.key = e.key := by
  rw [List.pairwise_append, List.pairwise_cons] at h
  intro a ha
  rcases List.mem_append.1 ha with h1 | h1
  · exact h.2.2 a h1 e (by simp)
  · exact fun e' => h.2.1.1 a h1 e'.symm

theorem MapIs.set {l1 l2 : List MapEntry} {e : MapEntry} {f : Nat → Option Nat} {h b c : Nat} (hm : MapIs (l1 ++ e :: l2) f) (hh : h < 3) (he : e.key = .int .u64 (h : Int)) (hf : f h = some c) (e' : MapEntry) (hk : e'.key = e.key) (hv : e'.val = ptr b) :
    MapIs (l1 ++ e' :: l2) (fset f h (some b)) := by
  have ho := pw_other hm.nd
  refine ⟨fun x hx => ?_, fun k b' hk3 hk' => ?_, pw_mid hk hm.nd, ?_⟩
  · have hx' : x = e' ∨ x ∈ l1 ++ l2 := by simp at hx ⊢; rcases hx with h | h | h <;> simp [h]
    rcases hx' with rfl | hx2
    · exact ⟨h, b, hh, by rw [hk, he], hv, fset_same _ _ _⟩
    · obtain ⟨k, b2, h1, h2, h3, h4⟩ := hm.ent x (by simp at hx2 ⊢; rcases hx2 with h | h <;> simp [h])
      have hne := ho x hx2
      rw [he, h2] at hne
      exact ⟨k, b2, h1, h2, h3, by rw [fset_other]; exact h4; intro e2; subst e2; exact hne rfl⟩
  · by_cases e2 : k = h
    · subst e2
      exact ⟨e', by simp, by rw [hk, he]⟩
    · rw [fset_other _ _ e2] at hk'
      obtain ⟨x, hx, hxk⟩ := hm.has k b' hk3 hk'
      refine ⟨x, ?_, hxk⟩
      simp at hx ⊢
      rcases hx with h1 | rfl | h1
      · exact .inl h1
      · rw [he] at hxk; simp at hxk; omega
      · exact .inr (.inr h1)
  · have := hm.len
    rw [cnt_same f h b c hh hf]
    simp at this ⊢
    omega

theorem MapIs.push {l : List MapEntry} {f : Nat → Option Nat} {h b : Nat} (hm : MapIs l f) (hh : h < 3) (hf : f h = none) (e' : MapEntry) (hk : e'.key = .int .u64 (h : Int)) (hv : e'.val = ptr b) : MapIs (l ++ [e']) (fset f h (some b)) := by
  have hne : ∀ x ∈ l, ¬ x.key = e'.key := fun x hx e2 => by
    obtain ⟨k, b2, h1, h2, h3, h4⟩ := hm.ent x hx
    rw [h2, hk] at e2
    simp at e2
    obtain rfl : k = h := by omega
    rw [hf] at h4
    cases h4
  refine ⟨fun x hx => ?_, fun k b' hk3 hk' => ?_, ?_, ?_⟩
  · rcases List.mem_append.1 hx with hx | hx
    · obtain ⟨k, b2, h1, h2, h3, h4⟩ := hm.ent x hx
      exact ⟨k, b2, h1, h2, h3, by rw [fset_other]; exact h4; intro e2; subst e2; rw [hf] at h4; cases h4⟩
    · simp at hx
      subst hx
      exact ⟨h, b, hh, hk, hv, fset_same _ _ _⟩
  · by_cases e2 : k = h
    · subst e2
      exact ⟨e', by simp, hk⟩
    · rw [fset_other _ _ e2] at hk'
      obtain ⟨x, hx, hxk⟩ := hm.has k b' hk3 hk'
      exact ⟨x, by simp [hx], hxk⟩
  · rw [List.pairwise_append]
    exact ⟨hm.nd, by simp, fun a ha c hc => by simp at hc; subst hc; exact hne a ha⟩
  · rw [cnt_add f h b hh hf]
    simp [hm.len]

theorem MapIs.cut {l1 l2 : List MapEntry} {e : MapEntry} {f : Nat → Option Nat} {h c : Nat} (hm : MapIs (l1 ++ e :: l2) f) (hh : h < 3) (he : e.key = .int .u64 (h : Int)) (hf : f h = some c) : MapIs (l1 ++ l2) (fset f h none) := by
  have ho := pw_other hm.nd
  refine ⟨fun x hx2 => ?_, fun k b' hk3 hk' => ?_, ?_, ?_⟩
  · obtain ⟨k, b2, h1, h2, h3, h4⟩ := hm.ent x (by simp at hx2 ⊢; rcases hx2 with h | h <;> simp [h])
    have hne := ho x hx2
    rw [he, h2] at hne
    exact ⟨k, b2, h1, h2, h3, by rw [fset_other]; exact h4; intro e2; subst e2; exact hne rfl⟩
  · by_cases e2 : k = h
    · subst e2
      rw [fset_same] at hk'
      cases hk'
    · rw [fset_other _ _ e2] at hk'
      obtain ⟨x, hx, hxk⟩ := hm.has k b' hk3 hk'
      refine ⟨x, ?_, hxk⟩
      simp at hx ⊢
      rcases hx with h1 | rfl | h1
      · exact .inl h1
      · rw [he] at hxk; simp at hxk; omega
      · exact .inr h1
  · have := hm.nd
    rw [List.pairwise_append, List.pairwise_cons] at this
    rw [List.pairwise_append]
    exact ⟨this.1, this.2.1.2, fun a ha b hb => this.2.2 a ha b (by simp [hb])⟩
  · have := hm.len
    have h2 := cnt_sub f h c hh hf
    simp at this ⊢
    omega

theorem sameBits_int (k : IntKind) (a : Int) : Instr.sameBits 10000 (.int k a) (.int k a) = true := by
  have h : ∀ n : Nat, Instr.sameBits (n + 1) (.int k a) (.int k a) = true := fun n => by simp [Instr.sameBits]
  exact h 9999

theorem run_upd (w : World) (M c h b : Nat) (es : Array MapEntry) (f : Nat → Option Nat) (hh : h < 3) (hM : w.heap[M]? = some (.map es c)) (hm : MapIs es.toList f) :
    ∃ es' c', (Instr.mapUpdate 24 (.map (some M)) (.int .u64 (h : Int)) (ptr b)).run Yba.prog w = .ok () (setBlock w M (.map es' c')) ∧ MapIs es'.toList (fset f h (some b)) := by
  rcases hm.find hh with ⟨h1, h2⟩ | ⟨b0, l1, e, l2, h1, h2, h3, h4⟩
  · refine ⟨es.push { key := .int .u64 (h : Int), val := ptr b, born := c }, c + 1, ?_, ?_⟩
    · simp only [Instr.mapUpdate, Sem.run_bind, run_underlying Yba.underlying24, Result.andThen, getObj_map hM, checkKey_u64, Instr.findKey, run_underlying Yba.underlying45]
      simp [setObj_map _ hM, h2]
    · rw [Array.toList_push]
      exact hm.push hh h1 _ rfl rfl
  · have hge : es[l1.length]? = some e := by rw [← Array.getElem?_toList, h2]; simp
    refine ⟨es.modify l1.length fun e => { e with key := .int .u64 (h : Int), val := ptr b }, c, ?_, ?_⟩
    · simp only [Instr.mapUpdate, Sem.run_bind, run_underlying Yba.underlying24, Result.andThen, getObj_map hM, checkKey_u64, Instr.findKey, run_underlying Yba.underlying45]
      simp [setObj_map _ hM, h4, hge, h3, Instr.keyThatStays, sameBits_int]
    · rw [Array.toList_modify, h2]
      have hmod : (l1 ++ e :: l2).modify l1.length (fun e => { e with key := .int .u64 (h : Int), val := ptr b }) = l1 ++ { e with key := .int .u64 (h : Int), val := ptr b } :: l2 := by
        rw [List.modify_eq_take_cons_drop (by simp)]
        simp
      rw [hmod]
      rw [h2] at hm
      exact hm.set hh h3 h1 _ h3.symm rfl

theorem run_del (w : World) (M c h b ty : Nat) (es : Array MapEntry) (f : Nat → Option Nat) (hh : h < 3) (hM : w.heap[M]? = some (.map es c)) (hm : MapIs es.toList f) (hf : f h = some b) :
    ∃ es' c', (Builtin.delete_ #[24, 45] ty #[.map (some M), .int .u64 (h : Int)]).run Yba.prog w = .ok (.tuple #[]) (setBlock w M (.map es' c')) ∧ MapIs es'.toList (fset f h none) := by
  rcases hm.find hh with ⟨h1, h2⟩ | ⟨b0, l1, e, l2, h1, h2, h3, h4⟩
  · rw [h1] at hf; cases hf
  · refine ⟨es.eraseIdxIfInBounds l1.length, c, ?_, ?_⟩
    · simp only [Builtin.delete_, Instr.findKey]
      simp [run_underlying Yba.underlying24, getObj_map hM, checkKey_u64, run_underlying Yba.underlying45, h4, setObj_map _ hM]
    · have he : (es.eraseIdxIfInBounds l1.length).toList = l1 ++ l2 := by
        rw [Array.toList_eraseIdxIfInBounds, h2, List.eraseIdx_append_of_length_le (Nat.le_refl _)]
        simp
      rw [he]
      rw [h2] at hm
      exact hm.cut hh h3 h1
end Go.Proofs.Ybulkcazq.Script
