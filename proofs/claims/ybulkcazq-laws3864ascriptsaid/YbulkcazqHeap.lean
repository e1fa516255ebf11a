import Derived.Test.YbulkcazqMap
namespace Go.Proofs.Ybulkcazq.Script
set_option linter.unusedVariables false
open Go.ChangeShapes Go.WideShapes Go.ChangeAt Go.RowKit Go.Conc Go.Proofs.Ybulkcazq.Base
open Go.ChangeMaps (setBlock)

/-- a lock state's cells -/
def lcR (k n h : Int) (nx : Value) (S d : Nat) : Array Value :=
  #[.int .u8 k, .int .u64 n, .int .u64 0, .int .u64 0, .int .u64 0, .string noStr, .int .u64 h, nx, ptr S, .pointer none, .int .u16 0, .bool false, .bool false, .int .u64 0, .int .u64 0, .int .i64 0, .pointer none, .pointer none, .pointer none, .bool false, .int .u8 d]
def lc (i : Nat) (nx : Option Nat) (S d : Nat) : Array Value := lcR 1 i ((i % 3 : Nat) : Int) (optr nx) S d

/-- the shard's cells -/
structure Sc (cs : Array Value) (M : Nat) (X I : Nat → Nat) (n : Nat) : Prop where
  size : cs.size = 139
  m : cs[3]? = some (.map (some M))
  ip : ∀ p, p < n → p < 8 → cs[4 + p]? = some (ptr (X (I p)))
  no : ∀ p, n ≤ p → p < 8 → cs[4 + p]? = some (.pointer none)
  n : cs[12]? = some (.int .i64 (n : Int))

abbrev Pr (ch : Nat → List Nat) (i : Nat) : Prop := i ∈ ch (i % 3)

/-- the blocks -/
structure Wd (w : World) (lo S M : Nat) (ch : Nat → List Nat) (X : Nat → Nat) (nx : Nat → Option Nat) (d : Nat → Nat) (I : Nat → Nat) (n : Nat) : Prop where
  st : ∀ i, Pr ch i → w.heap[X i]? = some (.cells (lc i ((nx i).map X) S (d i)) 62 (0, 0))
  inj : ∀ i j, Pr ch i → Pr ch j → X i = X j → i = j
  lox : ∀ i, Pr ch i → lo ≤ X i
  sh : ∃ cs, w.heap[S]? = some (.cells cs 41 (0, 0)) ∧ Sc cs M X I n
  los : lo ≤ S
  mp : ∃ es c, w.heap[M]? = some (.map es c) ∧ MapIs es.toList (fun h => ((ch h).head?).map X)
  lom : lo ≤ M

/-- each name's next is the one behind it -/
def Lk (nx : Nat → Option Nat) : List Nat → Prop
  | [] => True
  | i :: r => nx i = r.head? ∧ Lk nx r

/-- the plain part -/
structure Pl (ch : Nat → List Nat) (nx : Nat → Option Nat) (d : Nat → Nat) (I : Nat → Nat) (n : Nat) : Prop where
  n8 : n ≤ 8
  rng : ∀ h, ∀ i ∈ ch h, i < 12 ∧ i % 3 = h
  nd : ∀ h, (ch h).Nodup
  lk : ∀ h, Lk nx (ch h)
  ia : ∀ p, p < n → Pr ch (I p) ∧ d (I p) = p + 1
  ib : ∀ i, Pr ch i → d i ≤ n ∧ (0 < d i → I (d i - 1) = i)

theorem Wd.keep {w w' : World} {lo S M : Nat} {ch : Nat → List Nat} {X : Nat → Nat} {nx : Nat → Option Nat} {d I : Nat → Nat} {n : Nat} (h : Wd w lo S M ch X nx d I n) (t : TouchOnly none' w w') : Wd w' lo S M ch X nx d I n := by
  obtain ⟨cs, h1, h2⟩ := h.sh
  obtain ⟨es, c, h3, h4⟩ := h.mp
  exact ⟨fun i hi => t.keep (h.st i hi) (fun e => e), h.inj, h.lox, ⟨cs, t.keep h1 (fun e => e), h2⟩, h.los, ⟨es, c, t.keep h3 (fun e => e), h4⟩, h.lom⟩

theorem Lk.mid {nx : Nat → Option Nat} : ∀ (l1 : List Nat) {i : Nat} {l2 : List Nat}, Lk nx (l1 ++ i :: l2) → nx i = l2.head?
  | [], i, l2, h => h.1
  | a :: l1, i, l2, h => Lk.mid l1 h.2

theorem isz (t n : Nat) (h : (Yba.prog.info? t).map (·.size) = some n) (w : World) : (sizeOf t).run Yba.prog w = .ok n w := by
  cases hq : Yba.prog.info? t with
  | none => rw [hq] at h; simp at h
  | some i =>
    rw [hq] at h
    simp at h
    simp [sizeOf, typeInfo, hq, h]
theorem sz45 (w : World) : (sizeOf 45).run Yba.prog w = .ok 1 w := isz 45 1 (by kernel_rfl) w
theorem sz46 (w : World) : (sizeOf 46).run Yba.prog w = .ok 4 w := isz 46 4 (by kernel_rfl) w

theorem eq46 (w : World) (d : Nat) (a b : Int) : (Op.equalIn (d + 2) 46 (.agg #[.int .u64 a, .int .u64 0, .int .u64 0, .int .u64 0]) (.agg #[.int .u64 b, .int .u64 0, .int .u64 0, .int .u64 0])).run Yba.prog w = .ok (a == b) w := by
  have h45 : ∀ (a b : Int) (w : World), (Op.equalIn (d + 1) 45 (.int .u64 a) (.int .u64 b)).run Yba.prog w = .ok (a == b) w := fun a b w => run_equalIn_int w d 45 .u64 .u64 a b Yba.underlying45
  have hp : ∀ (cs : Array Value) (i : Nat) (v : Value) (w : World), cs[i]? = some v → (part 45 cs i).run Yba.prog w = .ok v w := by
    intro cs i v w h
    simp [part, isAgg, run_underlying Yba.underlying45, h]
  rw [Op.equalIn]
  simp only [Sem.run_bind, run_underlying Yba.underlying46, Result.andThen_ok, sz45, Std.Legacy.Range.forIn_eq_forIn_range', Std.Legacy.Range.size]
  simp only [Nat.sub_zero, Nat.add_one_sub_one, Nat.div_one, List.range', List.forIn_cons, List.forIn_nil, Sem.run_bind]
  have q0 : ∀ (a : Int) (w : World), (part 45 #[.int .u64 a, .int .u64 0, .int .u64 0, .int .u64 0] 0).run Yba.prog w = .ok (.int .u64 a) w := fun a w => hp _ _ _ _ rfl
  have q1 : ∀ (a : Int) (w : World), (part 45 #[.int .u64 a, .int .u64 0, .int .u64 0, .int .u64 0] 1).run Yba.prog w = .ok (.int .u64 0) w := fun a w => hp _ _ _ _ rfl
  have q2 : ∀ (a : Int) (w : World), (part 45 #[.int .u64 a, .int .u64 0, .int .u64 0, .int .u64 0] 2).run Yba.prog w = .ok (.int .u64 0) w := fun a w => hp _ _ _ _ rfl
  have q3 : ∀ (a : Int) (w : World), (part 45 #[.int .u64 a, .int .u64 0, .int .u64 0, .int .u64 0] 3).run Yba.prog w = .ok (.int .u64 0) w := fun a w => hp _ _ _ _ rfl
  simp [q0, q1, q2, q3, h45]
  by_cases hab : a = b
  · simp [hab]
  · simp [hab]

set_option maxRecDepth 100000 in
theorem eq48 (w : World) (i j : Nat) : (Op.equalIn 10000 48 (res i) (res j)).run Yba.prog w = .ok (decide (i = j)) w := by
  have h := run_equalIn_struct w 9999 48 (rcells i) (rcells j) (by rw [Yba.underlying48]; rfl) (by kernel_rfl)
  rw [h]
  have hf : Yba.prog.fieldsOf 48 = #[{ name := "kind", type := 44, offset := 0, embedded := false, tag := "", pkgPath := "example.com/holdfast/holdfast", byteOffset := 0 }, { name := "ids", type := 46, offset := 1, embedded := false, tag := "", pkgPath := "example.com/holdfast/holdfast", byteOffset := 8 }, { name := "name", type := 9, offset := 5, embedded := false, tag := "", pkgPath := "example.com/holdfast/holdfast", byteOffset := 40 }] := by
    simp [Program.fieldsOf, Yba.underlying48]
  rw [hf]
  have h44 : ∀ (a b : Int) (w : World), (Op.equalIn 9999 44 (.int .u8 a) (.int .u8 b)).run Yba.prog w = .ok (a == b) w := fun a b w => run_equalIn_int w 9998 44 .u8 .u8 a b Yba.underlying44
  have h46 : ∀ (a b : Int) (w : World), (Op.equalIn 9999 46 (.agg #[.int .u64 a, .int .u64 0, .int .u64 0, .int .u64 0]) (.agg #[.int .u64 b, .int .u64 0, .int .u64 0, .int .u64 0])).run Yba.prog w = .ok (a == b) w := fun a b w => eq46 w 9997 a b
  have h9 : ∀ (w : World), (Op.equalIn 9999 9 (.string noStr) (.string noStr)).run Yba.prog w = .ok true w := fun w => by
    have := run_equalIn_string (P := Yba.prog) w 9998 9 noStr noStr Yba.underlying9
    simpa using this
  have p44 : ∀ (i : Nat) (w : World), (part 44 (rcells i) 0).run Yba.prog w = .ok (.int .u8 1) w := fun i w => by simp [part, isAgg, run_underlying Yba.underlying44]
  have p46 : ∀ (i : Nat) (w : World), (part 46 (rcells i) 1).run Yba.prog w = .ok (.agg #[.int .u64 i, .int .u64 0, .int .u64 0, .int .u64 0]) w := fun i w => by simp [part, isAgg, run_underlying Yba.underlying46]
  have p9 : ∀ (i : Nat) (w : World), (part 9 (rcells i) 5).run Yba.prog w = .ok (.string noStr) w := fun i w => by simp [part, isAgg, run_underlying Yba.underlying9]
  simp only [Op.eqFields, Sem.run_bind, Sem.run_ite, p44, p46, p9, h44, h46, h9, Result.andThen_ok]
  by_cases hij : i = j
  · subst hij; simp
  · have : ¬ (i : Int) = j := by omega
    simp [hij, this]

theorem lc_name (i : Nat) (nx : Option Nat) (S d : Nat) : (lc i nx S d)[0]? = some (.int .u8 1) ∧ (lc i nx S d)[1]? = some (.int .u64 (i : Int)) ∧ (lc i nx S d)[2]? = some (.int .u64 0) ∧ (lc i nx S d)[3]? = some (.int .u64 0) ∧ (lc i nx S d)[4]? = some (.int .u64 0) ∧ (lc i nx S d)[5]? = some (.string noStr) := by
  simp [lc, lcR]

theorem Pl.len {ch : Nat → List Nat} {nx : Nat → Option Nat} {d I : Nat → Nat} {n : Nat} (h : Pl ch nx d I n) (k : Nat) : (ch k).length ≤ 12 := nodup_le 12 _ (h.nd k) (fun i hi => (h.rng k i hi).1)

theorem eql48_same (w : World) (i : Nat) : (binOp .eql 48 (res i) (res i)).run Yba.prog w = .ok (.bool true) w := by
  rw [run_eql_struct, eq48]; simp
theorem eql48_other (w : World) {i j : Nat} (h : ¬ i = j) : (binOp .eql 48 (res i) (res j)).run Yba.prog w = .ok (.bool false) w := by
  rw [run_eql_struct, eq48]; simp [h]
theorem neq48_same (w : World) (i : Nat) : (binOp .neq 48 (res i) (res i)).run Yba.prog w = .ok (.bool false) w := by
  rw [run_neq_struct, eq48]; simp
theorem neq48_other (w : World) {i j : Nat} (h : ¬ i = j) : (binOp .neq 48 (res i) (res j)).run Yba.prog w = .ok (.bool true) w := by
  rw [run_neq_struct, eq48]; simp [h]

/-- a block's cells as facts on the world -/
theorem st_cells {w : World} {i S d b : Nat} {o : Option Nat} (h : w.heap[b]? = some (.cells (lc i o S d) 62 (0, 0))) :
    w.cell? ⟨b, 0, none⟩ = some (.int .u8 1) ∧ w.cell? ⟨b, 1, none⟩ = some (.int .u64 (i : Int)) ∧ w.cell? ⟨b, 2, none⟩ = some (.int .u64 0) ∧ w.cell? ⟨b, 3, none⟩ = some (.int .u64 0) ∧ w.cell? ⟨b, 4, none⟩ = some (.int .u64 0) ∧ w.cell? ⟨b, 5, none⟩ = some (.string noStr) ∧
    w.cell? ⟨b, 6, none⟩ = some (.int .u64 ((i % 3 : Nat) : Int)) ∧ w.cell? ⟨b, 7, none⟩ = some (optr o) ∧ w.cell? ⟨b, 8, none⟩ = some (ptr S) ∧ w.cell? ⟨b, 20, none⟩ = some (.int .u8 (d : Int)) := by
  refine ⟨?_, ?_, ?_, ?_, ?_, ?_, ?_, ?_, ?_, ?_⟩ <;> (rw [blk_cell h]; rfl)

theorem rc_cells {w : World} {i b : Nat} (h : w.heap[b]? = some (.cells (rcells i) 48 (0, 0))) :
    w.cell? ⟨b, 0, none⟩ = some (.int .u8 1) ∧ w.cell? ⟨b, 1, none⟩ = some (.int .u64 (i : Int)) ∧ w.cell? ⟨b, 2, none⟩ = some (.int .u64 0) ∧ w.cell? ⟨b, 3, none⟩ = some (.int .u64 0) ∧ w.cell? ⟨b, 4, none⟩ = some (.int .u64 0) ∧ w.cell? ⟨b, 5, none⟩ = some (.string noStr) := by
  refine ⟨?_, ?_, ?_, ?_, ?_, ?_⟩ <;> (rw [blk_cell h]; rfl)

theorem optr_none : optr none = .pointer none := rfl
theorem optr_some (b : Nat) : optr (some b) = ptr b := rfl
/-- what zzs3864afind and find answer -/
def found (ch : Nat → List Nat) (X : Nat → Nat) (i : Nat) : Value := if i ∈ ch (i % 3) then ptr (X i) else .pointer none

set_option maxRecDepth 100000 in
set_option maxHeartbeats 1000000 in
theorem zzfind (w : World) (lo S M i h : Nat) (hh : i % 3 = h) (ch : Nat → List Nat) (X : Nat → Nat) (nx : Nat → Option Nat) (d I : Nat → Nat) (n : Nat) (hw : Wd w lo S M ch X nx d I n) (hp : Pl ch nx d I n) :
    Calls Yba.prog 5 #[ptr S, res i, .int .u64 (h : Int)] w fun e w' => e = .returned (found ch X i) ∧ TouchOnly none' w w' := by
  obtain ⟨cs, hS, hsc⟩ := hw.sh
  obtain ⟨es, c, hM, hm⟩ := hw.mp
  have h3 := blk_cell (blk_new (.cells (rcells i) 48) hS) 3
  rw [hsc.m] at h3
  have hlk := (run_look (w.alloc (.cells (rcells i) 48)) M c h es _ (by omega) (blk_new _ hM) hm).1
  have HW := hide hw
  have HP := hide hp
  clear hS hsc hM hm hw hp
  go_enter Yba.func5, Yba.ntmps5
  go_wp2_with fail
  go_loopg [7, 8] (ch h).length (fun gk s7 s8 wr => ∃ l1 l2 : List Nat, ch h = l1 ++ l2 ∧ gk = l2.length ∧ s7 = optr ((l2.head?).map X) ∧ s8 = .int .i64 ((l1.length : Nat) : Int) ∧ Hid (TouchOnly none' (w.alloc (.cells (rcells i) 48)) wr ∧ ¬ i ∈ l1))
  case atStart => exact ⟨[], ch h, rfl, rfl, rfl, rfl, TouchOnly.refl _ _, by simp⟩
  case round =>
    obtain ⟨l1, l2, hch, rfl, rfl, rfl, HI⟩ := hrel
    obtain ⟨ht, hnot⟩ := unhide HI
    have hlen := (unhide HP).len h
    have hll : l1.length + l2.length = (ch h).length := by rw [hch]; simp
    cases l2 with
    | nil =>
      simp only [List.head?_nil, Option.map_none, optr_none]
      have hfd : found ch X i = .pointer none := by
        simp only [found, hh, hch, List.append_nil, hnot, if_false]
      go_wp2_with fail
      go_ret
      exact ⟨by rw [hfd]; rfl, ((TouchOnly.refl _ _).alloc _).trans ht⟩
    | cons j l2 =>
      simp only [List.head?_cons, Option.map_some, optr_some]
      have hj : j ∈ ch h := by rw [hch]; simp
      have hjr := (unhide HP).rng h j hj
      have hpj : Pr ch j := by show j ∈ ch (j % 3); rw [hjr.2]; exact hj
      have hb := ht.keep (blk_new (.cells (rcells i) 48) ((unhide HW).st j hpj)) (fun e => e)
      have hnx : nx j = l2.head? := Lk.mid l1 (by rw [← hch]; exact (unhide HP).lk h)
      rw [hnx] at hb
      obtain ⟨c0, c1, c2, c3, c4, c5, _, c7, _, _⟩ := st_cells hb
      obtain ⟨b0, b1, b2, b3, b4, b5⟩ := rc_cells (ht.keep (blk_last w (.cells (rcells i) 48)) (fun e => e))
      have hl64 : (l1.length : Int) < 64 := by simp only [List.length_cons] at hll; omega
      clear hb hnx hll hlen hh h3 hlk
      by_cases hij : j = i
      · subst hij
        have he := fun w' => eql48_same w' j
        have hfd : found ch X j = ptr (X j) := by
          simp only [found]; exact if_pos hpj
        go_upto_region 5 with fail
        go_quiet (fail)
        go_wp2_with fail
        go_ret
        exact ⟨by rw [hfd]; rfl, (((TouchOnly.refl _ _).alloc _).trans ht).drewN _⟩
      · have he := fun w' => eql48_other w' hij
        go_upto_region 5 with fail
        go_quiet (fail)
        go_wp2_with fail
        go_roundg l2.length
        case measure => simp
        case rel => exact ⟨l1 ++ [j], l2, by rw [hch]; simp, rfl, rfl, by simp, ht.drewN _, by simp [hnot]; omega⟩

set_option maxRecDepth 100000 in
set_option maxHeartbeats 1000000 in
theorem shfind (w : World) (lo S M i h : Nat) (hh : i % 3 = h) (ch : Nat → List Nat) (X : Nat → Nat) (nx : Nat → Option Nat) (d I : Nat → Nat) (n : Nat) (hw : Wd w lo S M ch X nx d I n) (hp : Pl ch nx d I n) :
    Calls Yba.prog 12 #[ptr S, res i, .int .u64 (h : Int)] w fun e w' => e = .returned (found ch X i) ∧ TouchOnly none' w w' := by
  obtain ⟨cs, hS, hsc⟩ := hw.sh
  obtain ⟨es, c, hM, hm⟩ := hw.mp
  have h3 := blk_cell (blk_new (.cells (rcells i) 48) hS) 3
  rw [hsc.m] at h3
  have hlk := (run_look (w.alloc (.cells (rcells i) 48)) M c h es _ (by omega) (blk_new _ hM) hm).1
  have HW := hide hw
  have HP := hide hp
  clear hS hsc hM hm hw hp
  go_enter Yba.func12, Yba.ntmps12
  go_wp2_with fail
  go_loopg [7] (ch h).length (fun gk s7 wr => ∃ l1 l2 : List Nat, ch h = l1 ++ l2 ∧ gk = l2.length ∧ s7 = optr ((l2.head?).map X) ∧ Hid (TouchOnly none' (w.alloc (.cells (rcells i) 48)) wr ∧ ¬ i ∈ l1))
  case atStart => exact ⟨[], ch h, rfl, rfl, rfl, TouchOnly.refl _ _, by simp⟩
  case round =>
    obtain ⟨l1, l2, hch, rfl, rfl, HI⟩ := hrel
    obtain ⟨ht, hnot⟩ := unhide HI
    cases l2 with
    | nil =>
      simp only [List.head?_nil, Option.map_none, optr_none]
      have hfd : found ch X i = .pointer none := by
        simp only [found, hh, hch, List.append_nil, hnot, if_false]
      go_upto_region 2 with fail
      go_quiet (fail)
      go_wp2_with fail
      go_ret
      exact ⟨by rw [hfd]; rfl, (((TouchOnly.refl _ _).alloc _).trans ht).drewN _⟩
    | cons j l2 =>
      simp only [List.head?_cons, Option.map_some, optr_some]
      have hj : j ∈ ch h := by rw [hch]; simp
      have hjr := (unhide HP).rng h j hj
      have hpj : Pr ch j := by show j ∈ ch (j % 3); rw [hjr.2]; exact hj
      have hb := ht.keep (blk_new (.cells (rcells i) 48) ((unhide HW).st j hpj)) (fun e => e)
      have hnx : nx j = l2.head? := Lk.mid l1 (by rw [← hch]; exact (unhide HP).lk h)
      rw [hnx] at hb
      obtain ⟨c0, c1, c2, c3, c4, c5, _, c7, _, _⟩ := st_cells hb
      obtain ⟨b0, b1, b2, b3, b4, b5⟩ := rc_cells (ht.keep (blk_last w (.cells (rcells i) 48)) (fun e => e))
      clear hb hnx hh h3 hlk
      by_cases hij : j = i
      · subst hij
        have he := fun w' => neq48_same w' j
        have hfd : found ch X j = ptr (X j) := by
          simp only [found]; exact if_pos hpj
        go_upto_region 2 with fail
        go_quiet (fail)
        go_wp2_with fail
        go_ret
        exact ⟨by rw [hfd]; rfl, (((TouchOnly.refl _ _).alloc _).trans ht).drewN _⟩
      · have he := fun w' => neq48_other w' hij
        go_upto_region 2 with fail
        go_quiet (fail)
        go_wp2_with fail
        go_roundg l2.length
        case measure => simp
        case rel => exact ⟨l1 ++ [j], l2, by rw [hch]; simp, rfl, rfl, ht.drewN _, by simp [hnot]; omega⟩
end Go.Proofs.Ybulkcazq.Script
