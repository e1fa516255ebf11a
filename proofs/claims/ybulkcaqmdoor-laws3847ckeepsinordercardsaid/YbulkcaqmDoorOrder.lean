import Derived.Test.YbulkcaqmDoorAll
namespace Go.Proofs.YbulkcaqmDoor.Order
set_option linter.unusedVariables false
open Go.ChangeShapes Go.WideShapes Go.ChangeAt Go.RowKit Go.Conc Go.Proofs.YbulkcaqmDoor.Base Go.Proofs.YbulkcaqmDoor.Loud Go.Proofs.YbulkcaqmDoor.Spool

/-- where body j starts -/
def st (L : Nat → Nat) : Nat → Nat
  | 0 => 0
  | j + 1 => st L j + L j

/-- the bodies one after another -/
def kAll (L : Nat → Nat) (x : Nat → Nat → Int) : Nat → Nat → Int
  | 0, _ => 0
  | j + 1, i => if i < st L j then kAll L x j i else x j (i - st L j)

theorem st_mono (L : Nat → Nat) : ∀ (d j : Nat), st L j ≤ st L (j + d)
  | 0, _ => Nat.le_refl _
  | d + 1, j => Nat.le_trans (st_mono L d j) (by rw [← Nat.add_assoc]; simp only [st]; omega)

theorem st_le (L : Nat → Nat) {i j : Nat} (h : i ≤ j) : st L i ≤ st L j := by
  have := st_mono L (j - i) i
  rwa [Nat.add_sub_cancel' h] at this

theorem kAll_at (L : Nat → Nat) (x : Nat → Nat → Int) (j i : Nat) (hi : i < L j) : ∀ d, kAll L x (j + 1 + d) (st L j + i) = x j i
  | 0 => by
    have h : ¬ st L j + i < st L j := by omega
    simp [kAll, h]
  | d + 1 => by
    have h1 : st L (j + 1) ≤ st L (j + 1 + d) := st_mono L d (j + 1)
    have h2 : st L (j + 1) = st L j + L j := rfl
    have h : st L j + i < st L (j + 1 + d) := by omega
    rw [← Nat.add_assoc]
    simp only [kAll, h, if_true]
    exact kAll_at L x j i hi d

structure Bodies (w : World) (a : Option Addr) (N : Nat) (A : Nat → Option Addr) (L P : Nat → Nat) (x : Nat → Nat → Int) : Prop where
  cell : 0 < N → ∃ b o, a = some ⟨b, o, none⟩ ∧ ∀ j, j < N → w.cell? ⟨b, o + j, none⟩ = some (.slice (A j) (L j) (P j))
  row : ∀ j, j < N → ARow w (A j) (L j) (P j) (x j)
  le : ∀ j, j < N → L j ≤ 140737488355328

/-- an append of one element where there is room: the row's very cells -/
theorem wpList_append_room1 {P : Program} (w : World) {ops : Array Oper} {rest : List Oper} {o : Oper} {a : Act} {Q : Exit → Act → World → Prop}
    (hg : o.guard = none) (s x : Operand) (t : TypeId) (hop : o.op = Op.call { callee := Callee.builtin Builtin.append, args := #[s, x], argTypes := #[t, t] })
    (e : TypeId) (i : TypeInfo) (h1 : P.underlying t = some (.slice e)) (h2 : P.info? e = some i) (h4 : i.size = 1)
    (g k cap : Nat) (cur : List Value) (hs : a.eval s = .slice (some ⟨g, 0, none⟩) k cap) (hG : w.heap[g]? = some (.cells cur.toArray e (0, 0))) (ad : Addr) (v : Value) (hx : a.eval x = .slice (some ad) 1 1)
    (hc : w.cell? (ad.add 0) = some v) (h1c : v.oneCell' = true) (hroom : k + 1 ≤ cap) (hlen : cur.length = cap)
    (hK : ∀ w', Hid (w'.heap[g]? = some (.cells (cur.set k v).toArray e (0, 0))) → Hid (TouchOnly (· = g) w w') → wpList P ops Q rest (a.put o.dst (.slice (some ⟨g, 0, none⟩) (k + 1) cap)) w') :
    wpList P ops Q (o :: rest) a w := by
  refine wpList_plain hg fun K hK' => ?_
  have hr := run_append_room (P := P) w t o.type e i h1 h2 g k cap cur.toArray hG ad 1 1 [v] (by simp [h4]) (by
    intro j u hu
    cases j with
    | zero => simp at hu; subst hu; exact hc
    | succ j => simp at hu) (by intro u hu; simp at hu; subst hu; exact h1c) hroom (by simp [h4]; omega)
  rw [h4] at hr
  have he : (cur.toArray.toList.take (k * 1) ++ [v] ++ cur.toArray.toList.drop (k * 1 + [v].length)) = cur.set k v := by
    rw [List.set_eq_take_append_cons_drop, if_pos (by omega)]; simp
  rw [he] at hr
  unfold Oper.wp
  simp [execOp, hop, resolve, invoke, builtin, hs, hx, hr, Result.andThen]
  exact hK' _ _ (hK _ (setRow_heap w g _ _ e _ hG) ((TouchOnly.refl (· = g) w).setRow (g := g) (fun _ => rfl) _))

theorem info52 : (Ybad.prog.info? 52).map (fun i => (i.zero, i.size, i.bytes)) = some (some .nilIface, 1, 16) := by kernel_rfl

def xat (M : Nat) (L : Nat → Nat) (j : Nat) : Array Value := xcells M (st L j) (st L j) (st L j + L j) (L j)

/-- k bodies kept -/
structure Lp (w wr : World) (G N k cap off n : Nat) (L : Nat → Nat) (K : Nat → Int) (dv : Value) (rc : List Value) (X : Nat → Nat) : Prop where
  s : St wr w.heap.size w.heap.size (w.heap.size + 1) (w.heap.size + 2) (w.heap.size + 3) cap off n K dv
  sum : off + n = st L k
  sp : wr.heap[w.heap.size + 4]? = some (.cells (scells w.heap.size (w.heap.size + 3) (st L k)) 62 (0, 0))
  lo : w.heap.size ≤ G
  g : wr.heap[G]? = some (.cells rc.toArray 52 (0, 0))
  len : rc.length = N
  get : ∀ j, j < k → rc[j]? = some (.iface 84 (ptr (X j)))
  xs : ∀ j, j < k → wr.heap[X j]? = some (.cells (xat w.heap.size L j) 124 (0, 0)) ∧ w.heap.size ≤ X j
  inc : ∀ i j, i < j → j < k → X i < X j
  to : Below w.heap.size w wr

/-- what keep leaves of the readers and of their row -/
theorem Lp.kept {w wr w3 : World} {G N k cap off n : Nat} {L : Nat → Nat} {K : Nat → Int} {dv dv3 : Value} {rc : List Value} {X : Nat → Nat} {o : Obj} (h : Lp w wr G N k cap off n L K dv rc X)
    (hkp : Kp w.heap.size (w.heap.size + 1) (w.heap.size + 2) (w.heap.size + 3) wr.heap.size (w.heap.size + 4) dv dv3 (wr.alloc o) w3) {b t : Nat} {cs : Array Value} (hb : wr.heap[b]? = some (.cells cs t (0, 0))) (ht : t = 52 ∨ t = 124) :
    w3.heap[b]? = some (.cells cs t (0, 0)) := by
  have hA := h.s.apart hb (by omega) (by omega) (by omega) (by omega)
  refine hkp.t.keep (blk_new _ hb) ?_
  rintro (e | e | e | e | e | e | e)
  · exact blk_ne hb h.sp (by omega) e
  · exact hA (.inl e)
  · exact hA (.inr (.inl e))
  · exact hA (.inr (.inr (.inl e)))
  · exact hA (.inr (.inr (.inr (.inl e))))
  · have := blk_lt hb; omega
  · exact hA (.inr (.inr (.inr (.inr (.inr e)))))

/-- a step that touches the readers' row alone leaves the spool -/
theorem St.aside {w w' : World} {lo M C B W cap off n G : Nat} {K : Nat → Int} {dv : Value} {cs : Array Value} (h : St w lo M C B W cap off n K dv) (hG : w.heap[G]? = some (.cells cs 52 (0, 0))) (ht : TouchOnly (· = G) w w') : St w' lo M C B W cap off n K dv := by
  obtain ⟨bs, hB, hcl, hcs⟩ := h.b
  refine ⟨ht.keep h.m (blk_ne h.m hG (by decide)), ht.keep h.c (blk_ne h.c hG (by decide)), ht.keep h.wr (blk_ne h.wr hG (by decide)), ⟨bs, ht.keep hB (blk_ne hB hG (by decide)), hcl, hcs⟩, ownsRow_keep h.own (fun b hb => ht.block b (h.own.lt b hb).2 (fun e => ?_)), h.nb, h.nc, h.c1, h.c2, Nat.le_trans h.lo1 ht.size⟩
  obtain ⟨cs', hc⟩ := own_type h.own hb
  exact blk_ne hc hG (by decide) e

def upd (f : Nat → Nat) (k v : Nat) : Nat → Nat := fun i => if i = k then v else f i

/-- one body more -/
theorem Lp.step {w wr w3 w4 : World} {G N k cap off n off3 n3 : Nat} {L : Nat → Nat} {K : Nat → Int} {dv dv3 : Value} {rc : List Value} {X : Nat → Nat} {o o4 : Obj} {Y : Nat} (h : Lp w wr G N k cap off n L K dv rc X) (hkN : k < N)
    (hkp : Kp w.heap.size (w.heap.size + 1) (w.heap.size + 2) (w.heap.size + 3) wr.heap.size (w.heap.size + 4) dv dv3 (wr.alloc o) w3)
    (hst3 : St w3 w.heap.size w.heap.size (w.heap.size + 1) (w.heap.size + 2) (w.heap.size + 3) cap off3 n3 K dv3) (hsum3 : off3 + n3 = st L k + L k)
    (hS3 : w3.heap[w.heap.size + 4]? = some (.cells (scells w.heap.size (w.heap.size + 3) (st L k + L k)) 62 (0, 0))) (hY : wr.heap.size ≤ Y) (hY2 : w3.heap[Y]? = some (.cells (xat w.heap.size L k) 124 (0, 0)))
    (hb3 : Below w.heap.size w w3) (hg4 : w4.heap[G]? = some (.cells (rc.set k (.iface 84 (ptr Y))).toArray 52 (0, 0))) (ht4 : TouchOnly (· = G) (w3.alloc o4) w4) :
    Lp w w4 G N (k + 1) cap off3 n3 L K dv3 (rc.set k (.iface 84 (ptr Y))) (upd X k Y) := by
  have hG3 := h.kept hkp h.g (.inl rfl)
  have t34 : TouchOnly (· = G) w3 w4 := ((TouchOnly.refl _ _).alloc o4).trans ht4
  refine ⟨St.aside hst3 hG3 t34, by simp only [st]; exact hsum3, t34.keep hS3 (blk_ne hS3 hG3 (by decide)), h.lo, hg4, by simp [h.len], ?_, ?_, ?_, ?_⟩
  · intro j hj
    by_cases e : j = k
    · subst e
      rw [List.getElem?_set_self (by rw [h.len]; exact hkN)]; simp [upd]
    · rw [List.getElem?_set_ne (fun e' => e e'.symm)]
      simp only [upd, e, if_false]
      exact h.get j (by omega)
  · intro j hj
    by_cases e : j = k
    · subst e
      simp only [upd, if_true]
      exact ⟨t34.keep hY2 (blk_ne hY2 hG3 (by decide)), Nat.le_trans h.to.size hY⟩
    · simp only [upd, e, if_false]
      have hx := h.xs j (by omega)
      have hx3 := h.kept hkp hx.1 (.inr rfl)
      exact ⟨t34.keep hx3 (blk_ne hx3 hG3 (by decide)), hx.2⟩
  · intro i j hij hj
    by_cases e : j = k
    · subst e
      have hi : ¬ i = j := by omega
      simp only [upd, if_true, hi, if_false]
      have := blk_lt (h.xs i (by omega)).1
      omega
    · have hi : ¬ i = k := by omega
      simp only [upd, e, hi, if_false]
      exact h.inc i j hij (by omega)
  · exact hb3.trans (t34.below hb3.size (fun b hb e => by have := h.lo; omega))

/-- behind the flush -/
structure Fl (w w5 : World) (G N : Nat) (L : Nat → Nat) (K : Nat → Int) (dv : Value) (rc : List Value) (X : Nat → Nat) : Prop where
  m : w5.heap[w.heap.size]? = some (.cells #[dv] 65 (0, 0))
  own : w5.ownsRow w.heap.size 5 1 dv (st L N) (bytesV K (st L N))
  lo : w.heap.size ≤ G
  g : w5.heap[G]? = some (.cells rc.toArray 52 (0, 0))
  get : ∀ j, j < N → rc[j]? = some (.iface 84 (ptr (X j)))
  xs : ∀ j, j < N → w5.heap[X j]? = some (.cells (xat w.heap.size L j) 124 (0, 0)) ∧ w.heap.size ≤ X j
  inc : ∀ i j, i < j → j < N → X i < X j
  to : Below w.heap.size w w5

theorem Lp.flushed {w wr w5 : World} {G N cap off n : Nat} {L : Nat → Nat} {K : Nat → Int} {dv dv5 : Value} {rc : List Value} {X : Nat → Nat} (h : Lp w wr G N N cap off n L K dv rc X)
    (hst : St w5 w.heap.size w.heap.size (w.heap.size + 1) (w.heap.size + 2) (w.heap.size + 3) cap (off + n) 0 K dv5) (hmv : Mv w.heap.size (w.heap.size + 1) (w.heap.size + 2) (w.heap.size + 3) w.heap.size dv dv5 wr w5) : Fl w w5 G N L K dv5 rc X := by
  have hkeep : ∀ (b t : Nat) (cs : Array Value), wr.heap[b]? = some (.cells cs t (0, 0)) → t = 52 ∨ t = 124 → w5.heap[b]? = some (.cells cs t (0, 0)) := fun b t cs hb ht => hmv.t.keep hb (h.s.apart hb (by omega) (by omega) (by omega) (by omega))
  refine ⟨hst.m, by have := hst.own; rwa [h.sum] at this, h.lo, hkeep _ _ _ h.g (.inl rfl), h.get, fun j hj => ⟨hkeep _ _ _ (h.xs j hj).1 (.inr rfl), (h.xs j hj).2⟩, h.inc, h.to.trans (hmv.low ⟨Nat.le_refl _, by omega, by omega, by omega, Nat.le_refl _⟩ h.s.own h.s.lo1)⟩

theorem bytes_next (L : Nat → Nat) (x : Nat → Nat → Int) (N k : Nat) (hk : k < N) : bytesV (kAll L x N) (st L (k + 1)) = bytesV (kAll L x N) (st L k) ++ bytesV (x k) (L k) := by
  simp only [st]
  rw [bytesV_add]
  congr 1
  simp only [bytesV]
  apply List.map_congr_left
  intro i hi
  have hi' : i < L k := by simpa using hi
  have := kAll_at L x k i hi' (N - (k + 1))
  rw [Nat.add_sub_cancel' (by omega)] at this
  rw [this]

theorem readall_any (w : World) (X M s l lo D : Nat) (dv : Value) (K : Nat → Int) (ea : Addr) (hX : w.heap[X]? = some (.cells (xcells M s s (s + l) l) 124 (0, 0))) (hM : w.heap[M]? = some (.cells #[dv] 65 (0, 0))) (hown : w.ownsRow lo 5 1 dv D (bytesV K D))
    (hs : s + l ≤ D) (hD : D ≤ 9000) (heof : w.cell? ⟨1, 0, none⟩ = some (.iface 93 (.pointer (some ea)))) (h1X : ¬ 1 = X) : Calls Ybad.prog 16 #[.iface 84 (ptr X), .int .i64 l] w (RPost w X l s K) := by
  rcases hown.2 with ⟨rfl, rfl⟩ | ⟨g, cp, cu, rfl, _, hg, hle, _, hsz, htk⟩
  · exact readall w X M s l 0 0 0 [] K ea hX (fun h => by omega) (by omega) (by omega) heof h1X
  · refine readall w X M s l g D cp cu.toList K ea hX (fun _ => ⟨hM, by simpa using hg, fun i hi => ?_, hs, hle⟩) hD (by omega) heof h1X
    have h1 : (cu.toList.take (D * 1))[i]? = some (.int .u8 (K i)) := by rw [htk]; exact bytesV_get K D i hi
    rw [List.getElem?_take, if_pos (by omega)] at h1
    exact h1

theorem ARow.reads {w w' : World} {a : Option Addr} {len cap : Nat} {x K : Nat → Int} (h : ARow w a len cap x) (hb : Below w.heap.size w w') (hK : ∀ i, i < len → K i = x i) : Reads w' (.slice a len cap) len K :=
  ⟨a, cap, rfl, fun hl => by
    obtain ⟨sb, so, e, hc⟩ := h.at' hl
    have hlt : sb < w.heap.size := World.block_lt_of_cell? w _ (hc 0 hl)
    exact ⟨sb, so, e, fun i hi => by rw [hb.cell (p := ⟨sb, so + i, none⟩) hlt, hc i hi, hK i hi]⟩⟩

set_option maxRecDepth 100000 in
set_option maxHeartbeats 4000000 in
theorem keeps (a : Option Addr) (N cN : Nat) (A : Nat → Option Addr) (L P : Nat → Nat) (x : Nat → Nat → Int) (ch sz : Int) (w : World) (ea : Addr) (hB : Bodies w a N A L P x) (hN : N ≤ 300)
    (hch : 0 ≤ ch ∧ ch ≤ 255) (hsz : 0 ≤ sz ∧ sz ≤ 255) (heof : w.cell? ⟨1, 0, none⟩ = some (.iface 93 (.pointer (some ea)))) :
    Calls Ybad.prog 4 #[.slice a N cN, .int .u8 ch, .int .u8 sz] w fun e w' => e = .returned (.bool true) ∧ Below w.heap.size w w' := by
  have HB := hide hB
  have HE := hide heof
  have hlo1 : 1 < w.heap.size := World.block_lt_of_cell? w _ heof
  clear hB heof
  have hN' : ¬ (N : Int) > 300 := by omega
  go_enter Ybad.func4, Ybad.ntmps4
  go_wp2_with fail
  go_loop [7, 33] (fun t i => ∃ k : Nat, k ≤ N ∧ i = .int .i64 k ∧ t = .int .i64 ((st L k : Nat) : Int) ∧ st L k ≤ 8192) (fun _ i => N - (intOf i).toNat)
  case atStart => exact ⟨0, Nat.zero_le _, rfl, rfl, by simp [st]⟩
  case round =>
    obtain ⟨k, hk, rfl, rfl, hst⟩ := hrel
    by_cases hlt : k < N
    · obtain ⟨b, o, rfl, hcell⟩ := (unhide HB).cell (by omega)
      have hck := hcell k hlt
      have hLk := (unhide HB).le k hlt
      have hs1 : st L (k + 1) = st L k + L k := rfl
      clear hcell
      by_cases hbig : st L k + L k ≤ 8192
      · have hb' : ¬ (st L k : Int) + (L k : Int) > 8192 := by omega
        clear hs1
        go_wp2_with fail
        go_round
        case rel => exact ⟨k + 1, by omega, by go_num, by simp [st], by simp only [st]; exact hbig⟩
        case measure => simp [intOf]; omega
      · have hb' : (st L k : Int) + (L k : Int) > 8192 := by omega
        clear hs1
        go_wp2_with fail
        go_ret
        exact ⟨rfl, Below.refl _ _⟩
    · obtain rfl : N = k := by omega
      obtain ⟨cap, hcap⟩ : ∃ cap : Nat, (cap : Int) = 1 + sz % 32 := ⟨(1 + sz % 32).toNat, by omega⟩
      obtain ⟨c, hc⟩ : ∃ c : Nat, (c : Int) = 1 + ch % 8 := ⟨(1 + ch % 8).toNat, by omega⟩
      have hc1 : 0 < c := by omega
      have hc2 : c ≤ 8 := by omega
      have HN := zzNew sz cap (kAll L x N) w hsz.1 hsz.2 hcap
      have hce : 1 + ch % 8 = (c : Int) := hc.symm
      clear hc hcap
      obtain ⟨i52, hi52, hy0, hy1, hy2⟩ := info_parts info52
      have hmk : ∀ w', (Instr.makeSlice 50 (.int .i64 0) (.int .i64 N)).run Ybad.prog w' = .ok (.slice (some ⟨w'.heap.size, 0, none⟩) 0 N) (w'.alloc (.cells (madeCells Value.nilIface.cells N) 52)) := fun w' => by
        have h := run_makeSlice (P := Ybad.prog) w' 50 52 i52 .nilIface Ybad.underlying50 hi52 hy0 .i64 .i64 0 N (by omega) (by omega) (by rw [hy1]; simp; omega) (by rw [hy2]; simp; omega) (by omega)
        rw [h, hy1]
        simp
      go_upto_region 15 with (go_at_call 12; refine HN.mono ?_; rintro e w1 ⟨rfl, hst1, hS1, hbel1⟩)
      have hlp : Lp w (w1.alloc (.cells (madeCells #[Value.nilIface] N) 52)) w1.heap.size N 0 cap 0 0 L (kAll L x N) (.slice none 0 0) (madeCells #[Value.nilIface] N).toList (fun _ => 0) :=
        ⟨hst1.alloc _, by simp [st], by simpa [st] using blk_new _ hS1, hbel1.size, by simpa using blk_last w1 (.cells (madeCells #[Value.nilIface] N) 52), by simp [size_madeCells], fun j hj => by omega, fun j hj => by omega, fun i j _ hj => by omega, hbel1.alloc hbel1.size _⟩
      have HL := hide hlp
      revert HL
      generalize w1.alloc (.cells (madeCells #[Value.nilIface] N) 52) = w2
      generalize w1.heap.size = G
      intro HL
      clear hlp hst1 hS1 hbel1 HN hmk
      go_wp2_with fail
      go_loopw [13, 14, 58] (fun s13 s14 s58 wr => ∃ (k off n : Nat) (dv : Value) (rc : List Value) (X : Nat → Nat), k ≤ N ∧ s58 = .int .i64 k ∧ s14 = .int .i64 ((st L k : Nat) : Int) ∧ s13 = .slice (some ⟨G, 0, none⟩) k N ∧ Hid (Lp w wr G N k cap off n L (kAll L x N) dv rc X)) (fun _ _ i _ => N - (intOf i).toNat)
      case atStart => exact ⟨0, 0, 0, _, _, _, Nat.zero_le _, rfl, rfl, rfl, HL⟩
      case round =>
        obtain ⟨k, off, n, dv, rc, X, hkN, rfl, rfl, rfl, HI⟩ := hrel
        by_cases hkl : k < N
        · obtain ⟨b, o, rfl, hcell⟩ := (unhide HB).cell (by omega)
          have hto := (unhide HI).to
          have hbl : b < w.heap.size := World.block_lt_of_cell? w _ (hcell 0 (by omega))
          have hck : wr.cell? ⟨b, o + k, none⟩ = some (.slice (A k) (L k) (P k)) := by rw [hto.cell (p := ⟨b, o + k, none⟩) hbl]; exact hcell k hkl
          have hrow := (unhide HB).row k hkl
          have hsum := (unhide HI).sum
          have hs1 : st L (k + 1) = st L k + L k := rfl
          have hsN : st L (k + 1) ≤ st L N := st_le L (by omega)
          have hb1 : Below w.heap.size w (wr.alloc (.cells (rcells (A k) (L k) (P k) 0 c .nilIface) 57)) := hto.alloc hto.size _
          have hlows : Lows w.heap.size w.heap.size (w.heap.size + 1) (w.heap.size + 2) (w.heap.size + 3) wr.heap.size := ⟨Nat.le_refl _, by omega, by omega, by omega, hto.size⟩
          have hK1 := keep_any w.heap.size w.heap.size (w.heap.size + 1) (w.heap.size + 2) (w.heap.size + 3) wr.heap.size (w.heap.size + 4) cap off n (L k) (P k) c (A k) .nilIface (kAll L x N) dv (wr.alloc (.cells (rcells (A k) (L k) (P k) 0 c .nilIface) 57)) ea
            ((unhide HI).s.alloc _) (by rw [hsum]; exact blk_new _ (unhide HI).sp) (blk_last _ _) hlows hrow.lc (hrow.src hb1 (fun i hi => by rw [hsum]; have := kAll_at L x k i hi (N - (k + 1)); rwa [Nat.add_sub_cancel' (by omega)] at this)) (by omega) (by omega) hc1 hc2 (by rw [hb1.cell (p := ⟨1, 0, none⟩) hlo1]; exact unhide HE) hlo1 (.inl rfl)
          clear hcell hto
          go_upto_region 19 with (go_at_call 13; refine hK1.mono ?_; rintro e w3 ⟨off3, n3, dv3, hsum3, hst3, hS3, hkp3, hres⟩; rcases hres with ⟨_, Y, rfl, hY, hY2⟩ | ⟨fb, hf, _⟩; rotate_left; (cases hf); skip)
          have hb3 : Below w.heap.size w w3 := hb1.trans (hkp3.low hlows (by omega) ((unhide HI).s.alloc _).own (by rw [size_alloc]; have := (unhide HI).to.size; omega))
          rw [hsum] at hsum3 hS3 hY2
          have hG3 := (unhide HI).kept hkp3 (unhide HI).g (.inl rfl)
          have s2 := blk_cell hS3 2
          simp only [scells, List.getElem?_toArray, List.getElem?_cons_zero, List.getElem?_cons_succ] at s2
          have HQ := hide (fun (w4 : World) (o4 : Obj) => (unhide HI).step (w4 := w4) (o4 := o4) hkl hkp3 hst3 hsum3 hS3 (by rw [size_alloc] at hY; omega) hY2 hb3)
          have HG3 := hide hG3
          have hrl := (unhide HI).len
          clear hst3 hS3 hkp3 hY hY2 hb3 hG3 hK1 hb1 hlows hrow hck
          have hkk : ((st L k + L k : Nat) : Int) = (st L k : Int) + (L k : Int) := by omega
          go_wp2_with (at_builtin; refine wpList_append_room1 _ rfl (.tmp 94) (.tmp 96) 50 rfl 52 i52 Ybad.underlying50 hi52 hy1 G k N rc rfl (blk_new _ (unhide HG3)) ⟨w3.heap.size, 0, none⟩ (.iface 84 (ptr Y)) rfl (by simp [Addr.add]) rfl (by omega) hrl ?_; intro w4 hg4 ht4)
          go_roundw
          case rel => exact ⟨k + 1, off3, n3, dv3, _, _, by omega, by go_num, by simp [st], rfl, (unhide HQ) w4 _ (unhide hg4) (unhide ht4)⟩
          case measure => simp [intOf]; omega
        · obtain rfl : N = k := by omega
          have f1 := blk_cell (unhide HI).sp 1
          simp only [scells, List.getElem?_toArray, List.getElem?_cons_zero, List.getElem?_cons_succ] at f1
          go_upto_region 30 with (go_at_call 14; refine (flush_any _ _ _ _ _ cap off n (kAll L x N) dv _ (unhide HI).s (by have := (unhide HI).sum; omega)).mono ?_; rintro e w5 ⟨rfl, dv5, hst5, hmv5⟩)
          have HF := hide ((unhide HI).flushed hst5 hmv5)
          clear hst5 hmv5 f1 HI HL
          go_wp2_with fail
          go_loopw [21, 108] (fun v i wr => ∃ k : Nat, k ≤ N ∧ i = .int .i64 k ∧ Hid (wr.ownsRow w5.heap.size 5 1 v (st L k) (bytesV (kAll L x N) (st L k)) ∧ TouchOnly (fun _ => False) w5 wr)) (fun _ i _ => N - (intOf i).toNat)
          case atStart => exact ⟨0, Nat.zero_le _, rfl, World.ownsRow_nil _ _ _ _, TouchOnly.refl _ _⟩
          case round =>
            obtain ⟨k, hkN, rfl, HI⟩ := hrel
            have htw : Below w.heap.size w wr := (unhide HF).to.trans ((unhide HI).2.below (unhide HF).to.size (fun _ _ e => e))
            by_cases hkl : k < N
            · obtain ⟨b, o, rfl, hcell⟩ := (unhide HB).cell (by omega)
              have hbl : b < w.heap.size := World.block_lt_of_cell? w _ (hcell 0 (by omega))
              have hck : wr.cell? ⟨b, o + k, none⟩ = some (.slice (A k) (L k) (P k)) := by rw [htw.cell (p := ⟨b, o + k, none⟩) hbl]; exact hcell k hkl
              have HR := hide ((unhide HB).row k hkl)
              have HTW := hide htw
              have hs1 : st L (k + 1) = st L k + L k := rfl
              have hsN : st L (k + 1) ≤ st L N := st_le L (by omega)
              have hbig := (unhide HI).2.size
              have hlN : st L k + L k ≤ 100000 := by omega
              clear hcell htw hs1 hsN
              go_wp2_with (at_builtin; refine wpList_append_row rfl (.tmp 112) (.tmp 113) rfl w5.heap.size (st L k) (L k) (P k) _ (bytesV (kAll L x N) (st L k)) (bytesV (x k) (L k)) rfl (unhide HI).1 (A k) rfl (unhide HR).nil (bytesV_len _ _) ((unhide HR).news (unhide HTW)) (bytesV_one _ _) hlN hbig ?_; intro v6 w6 ho6 hg6)
              go_roundw
              case rel =>
                refine ⟨k + 1, by omega, by go_num, ?_, ?_⟩
                · rw [bytes_next L x N k hkl]; exact unhide ho6
                · exact (unhide HI).2.grown (unhide hg6) (fun b hb hlt => by have := ((unhide HI).1.lt b hb).1; omega)
              case measure => simp [intOf]; omega
            · obtain rfl : N = k := by omega
              obtain ⟨hall, ht6⟩ := unhide HI
              have hM6 := ht6.keep (unhide HF).m (fun e => e)
              have hown6 : wr.ownsRow w.heap.size 5 1 dv5 (st L N) (bytesV (kAll L x N) (st L N)) := ownsRow_keep (unhide HF).own (fun b hb => ht6.block b ((unhide HF).own.lt b hb).2 (fun e => e))
              have hE := fun v (hv : wr.ownsRow w5.heap.size 5 1 v (st L N) (bytesV (kAll L x N) (st L N))) => equal_any wr dv5 v (st L N) (kAll L x N) (reads_own hown6) (reads_own hv)
              have hE' := hE _ hall
              have m0 := blk_cell hM6 0
              simp only [List.getElem?_toArray, List.getElem?_cons_zero] at m0
              have HQ := hide (And.intro hM6 (And.intro hown6 (And.intro ht6 htw)))
              clear hM6 hown6 hall ht6 htw hE
              go_upto_region 37 with (go_at_call 15; refine hE'.mono ?_; rintro e w7 ⟨rfl, hw7⟩; subst w7)
              go_wp2_with fail
              rename World => wb
              go_loopw [125] (fun i wq => ∃ k : Nat, k ≤ N ∧ i = .int .i64 k ∧ Hid (TouchOnly (fun b => ∃ j, j < k ∧ b = X j) wb wq)) (fun i _ => N - (intOf i).toNat)
              case atStart => exact ⟨0, Nat.zero_le _, rfl, TouchOnly.refl _ _⟩
              case round =>
                obtain ⟨k, hkN', rfl, HI2⟩ := hrel
                obtain ⟨hM6, hown6, ht6, htw⟩ := unhide HQ
                have htq : Below w.heap.size w wr := htw.trans ((unhide HI2).below htw.size (fun b hb ⟨j, hj, e⟩ => by have := ((unhide HF).xs j (by omega)).2; omega))
                by_cases hkl' : k < N
                · obtain ⟨b, o, rfl, hcell⟩ := (unhide HB).cell (by omega)
                  have hbl : b < w.heap.size := World.block_lt_of_cell? w _ (hcell 0 (by omega))
                  have hck : wr.cell? ⟨b, o + k, none⟩ = some (.slice (A k) (L k) (P k)) := by rw [htq.cell (p := ⟨b, o + k, none⟩) hbl]; exact hcell k hkl'
                  have hx := (unhide HF).xs k hkl'
                  have hGq : wr.heap[G]? = some (.cells rc.toArray 52 (0, 0)) := (unhide HI2).keep (ht6.keep (unhide HF).g (fun e => e)) (fun ⟨j, hj, e⟩ => blk_ne (unhide HF).g ((unhide HF).xs j (by omega)).1 (by decide) e)
                  have hgc := blk_cell hGq k
                  rw [List.getElem?_toArray, (unhide HF).get k hkl'] at hgc
                  have hXq := (unhide HI2).keep (ht6.keep hx.1 (fun e => e)) (fun ⟨j, hj, e⟩ => by have := (unhide HF).inc j k hj hkl'; omega)
                  have hMq := (unhide HI2).keep hM6 (fun ⟨j, hj, e⟩ => blk_ne (unhide HF).m ((unhide HF).xs j (by omega)).1 (by decide) e)
                  have hownq : wr.ownsRow w.heap.size 5 1 dv5 (st L N) (bytesV (kAll L x N) (st L N)) := ownsRow_keep hown6 (fun b hb => (unhide HI2).block b (hown6.lt b hb).2 (fun ⟨j, hj, e⟩ => by
                    obtain ⟨cs', hc⟩ := own_type hown6 hb
                    exact blk_ne hc (ht6.keep ((unhide HF).xs j (by omega)).1 (fun e => e)) (by decide) e))
                  have hs1 : st L (k + 1) = st L k + L k := rfl
                  have hsN : st L (k + 1) ≤ st L N := st_le L (by omega)
                  have hRA := readall_any wr (X k) w.heap.size (st L k) (L k) w.heap.size (st L N) dv5 (kAll L x N) ea hXq hMq hownq (by omega) (by omega) (by rw [htq.cell (p := ⟨1, 0, none⟩) hlo1]; exact unhide HE) (by omega)
                  have HR := hide ((unhide HB).row k hkl')
                  have HTQ := hide htq
                  have hXk := hx.2
                  clear hcell hx hGq hXq hMq hownq hM6 hown6 ht6 htw htq hs1 hsN
                  go_upto_region 41 with (go_at_call 16; refine hRA.mono ?_; rintro e w8 ⟨v, rfl, hrd, ht8⟩)
                  have hb8 : Below w.heap.size w w8 := (unhide HTQ).trans (ht8.below (unhide HTQ).size (fun b hb e => by omega))
                  have hE2 := equal_any w8 v (.slice (A k) (L k) (P k)) (L k) (fun i => kAll L x N (st L k + i)) hrd (ARow.reads (unhide HR) hb8 (fun i hi => by have := kAll_at L x k i hi (N - (k + 1)); rwa [Nat.add_sub_cancel' (by omega)] at this))
                  have HT8 := hide ht8
                  clear hrd hb8 ht8 hRA
                  go_wp2_with (go_at_call 15; refine hE2.mono ?_; rintro e w9 ⟨rfl, hw9⟩; subst w9)
                  go_roundw
                  case rel =>
                    refine ⟨k + 1, by omega, by go_num, ?_⟩
                    exact ((unhide HI2).mono (fun b _ ⟨j, hj, e⟩ => ⟨j, by omega, e⟩)).trans ((unhide HT8).mono (fun b _ e => ⟨k, by omega, e⟩))
                  case measure => simp [intOf]; omega
                · have HTQ := hide htq
                  clear htq hM6 hown6 ht6 htw
                  obtain rfl : N = k := by omega
                  go_wp2_with fail
                  go_ret
                  exact ⟨rfl, unhide HTQ⟩
end Go.Proofs.YbulkcaqmDoor.Order
