import Derived.Test.YbulkcaqmDoorMake
import Derived.Laws.AppendOwnNone
namespace Go.Proofs.YbulkcaqmDoor.Spool
set_option linter.unusedVariables false
open Go.ChangeShapes Go.WideShapes Go.ChangeAt Go.RowKit Go.Conc Go.Proofs.YbulkcaqmDoor.Base Go.Proofs.YbulkcaqmDoor.Loud

/-- an argument: a slice of bytes -/
structure ARow (w : World) (a : Option Addr) (len cap : Nat) (x : Nat → Int) : Prop where
  lc : len ≤ cap
  nil : a = none → len = 0 ∧ cap = 0
  at' : 0 < len → ∃ sb so, a = some ⟨sb, so, none⟩ ∧ ∀ i, i < len → w.cell? ⟨sb, so + i, none⟩ = some (.int .u8 (x i))

theorem ARow.src {w w' : World} {a : Option Addr} {len cap start : Nat} {x K : Nat → Int} (h : ARow w a len cap x) (hb : Below w.heap.size w w') (hK : ∀ i, i < len → K (start + i) = x i) : Src w' w.heap.size start len a K := fun hl => by
  obtain ⟨sb, so, e, hc⟩ := h.at' hl
  have hlt : sb < w.heap.size := World.block_lt_of_cell? w _ (hc 0 hl)
  exact ⟨sb, so, e, hlt, fun i hi => by rw [hb.cell (p := ⟨sb, so + i, none⟩) hlt, hc i hi, hK i hi]⟩

theorem Kp.low {lo M C B W R S n : Nat} {xs : List Value} {dv dv' : Value} {w w' : World} (h : Kp M C B W R S dv dv' w w') (hl : Lows lo M C B W R) (hS : lo ≤ S) (ho : w.ownsRow lo 5 1 dv n xs) (hlo : lo ≤ w.heap.size) : Below lo w w' :=
  h.t.below hlo (fun k hk hs => by
    rcases hs with e | e | e | e | e | e | e
    · omega
    · have := hl.m; omega
    · have := hl.c; omega
    · have := hl.b; omega
    · have := hl.w; omega
    · have := hl.r; omega
    · have := (ho.lt k e).1; omega)

theorem reads_own {w : World} {lo n : Nat} {v : Value} {K : Nat → Int} (h : w.ownsRow lo 5 1 v n (bytesV K n)) : Reads w v n K := by
  rcases h.2 with ⟨rfl, rfl⟩ | ⟨g, cp, cu, rfl, _, hg, hle, _, hsz, htk⟩
  · exact ⟨none, 0, rfl, fun h => by omega⟩
  · refine ⟨_, cp, rfl, fun _ => ⟨g, 0, rfl, fun i hi => ?_⟩⟩
    rw [Nat.zero_add, blk_cell hg]
    have h1 : (cu.toList.take (n * 1))[i]? = some (.int .u8 (K i)) := by rw [htk]; exact bytesV_get K n i hi
    rw [List.getElem?_take, if_pos (by omega)] at h1
    simpa using h1

/-- an append of an argument's bytes -/
theorem wpList_append_row {w : World} {ops : Array Oper} {rest : List Oper} {o : Oper} {a : Act} {Q : Exit → Act → World → Prop} (hgd : o.guard = none) (s x : Operand)
    (ho : o.op = .call { callee := .builtin .append, args := #[s, x], argTypes := #[45, 45] }) (base n m c : Nat) (v : Value) (xs news : List Value) (hs : a.eval s = v) (hown : w.ownsRow base 5 1 v n xs)
    (ax : Option Addr) (hx : a.eval x = .slice ax m c) (hnone : ax = none → m = 0 ∧ c = 0) (hl : news.length = m) (hnews : ∀ ad, ax = some ad → ∀ j u, news[j]? = some u → w.cell? (ad.add j) = some u) (h1 : ∀ u ∈ news, u.oneCell' = true)
    (hb : n + m ≤ 100000) (hbase : base ≤ w.heap.size)
    (h : ∀ v' w', Hid (w'.ownsRow base 5 1 v' (n + m) (xs ++ news)) → Hid (w.grownBy w' v.ownBlock) → wpList Ybad.prog ops Q rest (a.put o.dst v') w') : wpList Ybad.prog ops Q (o :: rest) a w := by
  obtain ⟨i5, hi5, hz0, hz1, hz2⟩ := info_parts info5
  cases ax with
  | none =>
    obtain ⟨rfl, rfl⟩ := hnone rfl
    obtain rfl : news = [] := List.eq_nil_of_length_eq_zero hl
    exact wpList_append_own_none hgd s x 45 ho base 5 i5 1 Ybad.underlying45 hi5 v n xs hs hown hx (h v w (show w.ownsRow base 5 1 v (n + 0) (xs ++ []) by simpa using hown) ⟨rfl, rfl, rfl, Nat.le_refl _, fun _ _ _ => rfl⟩)
  | some ad =>
    exact wpList_append_own _ hgd s x 45 ho base 5 i5 (.int .u8 0) 1 1 Ybad.underlying45 hi5 hz0 hz1 hz2 rfl (by decide) v n xs hs hown ad m c news hx (by omega) (hnews ad rfl) h1 (by unfold maxLen; omega) (by omega) hbase (fun v' w' q1 q2 _ => h v' w' q1 q2)

theorem ARow.news {w w' : World} {a : Option Addr} {len cap : Nat} {x : Nat → Int} (h : ARow w a len cap x) (hb : Below w.heap.size w w') : ∀ ad, a = some ad → ∀ (j : Nat) (u : Value), (bytesV x len)[j]? = some u → w'.cell? (ad.add j) = some u := by
  intro ad e j u hj
  have hjl : j < len := by
    rcases Nat.lt_or_ge j len with h | h
    · exact h
    · rw [List.getElem?_eq_none (by rw [bytesV_len]; exact h)] at hj; cases hj
  rw [bytesV_get x len j hjl] at hj
  cases hj
  obtain ⟨sb, so, e', hc⟩ := h.at' (by omega)
  rw [e'] at e
  cases e
  have hlt : sb < w.heap.size := World.block_lt_of_cell? w _ (hc 0 (by omega))
  rw [add_plain, hb.cell (p := ⟨sb, so + j, none⟩) hlt, hc j hjl]

def kcat (l0 : Nat) (x0 x1 : Nat → Int) : Nat → Int := fun i => if i < l0 then x0 i else x1 (i - l0)

theorem kcat_bytes (l0 l1 : Nat) (x0 x1 : Nat → Int) : bytesV (kcat l0 x0 x1) (l0 + l1) = bytesV x0 l0 ++ bytesV x1 l1 := by
  rw [bytesV_add]
  congr 1
  · simp only [bytesV]
    apply List.map_congr_left
    intro i hi
    have : i < l0 := by simpa using hi
    simp [kcat, this]
  · simp only [bytesV]
    apply List.map_congr_left
    intro i hi
    have hq : ¬ l0 + i < l0 := by omega
    simp [kcat, hq]

theorem kcat_hi (l0 : Nat) (x0 x1 : Nat → Int) (i : Nat) : kcat l0 x0 x1 (l0 + i) = x1 i := by
  have hq : ¬ l0 + i < l0 := by omega
  simp [kcat, hq]

set_option maxRecDepth 100000 in
set_option maxHeartbeats 4000000 in
theorem failing (a0 a1 : Option Addr) (l0 p0 l1 p1 : Nat) (x0 x1 : Nat → Int) (ch sz : Int) (w : World) (ea : Addr) (ce : Array Value) (te : TypeId) (h0 : ARow w a0 l0 p0 x0) (h1 : ARow w a1 l1 p1 x1) (hl0 : l0 ≤ 4096) (hl1 : l1 ≤ 4096)
    (hch : 0 ≤ ch ∧ ch ≤ 255) (hsz : 0 ≤ sz ∧ sz ≤ 255) (heof : w.cell? ⟨1, 0, none⟩ = some (.iface 93 (.pointer (some ea)))) (hea : w.heap[ea.block]? = some (.cells ce te (0, 0))) :
    Calls Ybad.prog 5 #[.slice a0 l0 p0, .slice a1 l1 p1, .int .u8 ch, .int .u8 sz] w fun e w' => e = .returned (.bool true) ∧ Below w.heap.size w w' := by
  obtain ⟨cap, hcap⟩ : ∃ cap : Nat, (cap : Int) = 1 + sz % 32 := ⟨(1 + sz % 32).toNat, by omega⟩
  obtain ⟨c, hc⟩ : ∃ c : Nat, (c : Int) = 1 + ch % 8 := ⟨(1 + ch % 8).toNat, by omega⟩
  have hc1 : 0 < c := by omega
  have hc2 : c ≤ 8 := by omega
  have HN := zzNew sz cap (kcat l0 x0 x1) w hsz.1 hsz.2 hcap
  have H0 := hide h0
  have H1 := hide h1
  have HE := hide heof
  have HEA := hide hea
  have hlo1 : 1 < w.heap.size := World.block_lt_of_cell? w _ heof
  have hce : 1 + ch % 8 = (c : Int) := hc.symm
  clear h0 h1 heof hea hc hcap
  have ng0 : ¬ (l0 : Int) > 4096 := by omega
  have ng1 : ¬ (l1 : Int) > 4096 := by omega
  go_enter Ybad.func5, Ybad.ntmps5
  go_upto_region 5 with (go_at_call 12; refine HN.mono ?_; rintro e w1 ⟨rfl, hst, hS, hbel⟩)
  clear HN
  have hsz1 := hbel.size
  have hlows : ∀ R, w.heap.size ≤ R → Lows w.heap.size w.heap.size (w.heap.size + 1) (w.heap.size + 2) (w.heap.size + 3) R := fun R hR => ⟨Nat.le_refl _, by omega, by omega, by omega, hR⟩
  have hb1 : Below w.heap.size w (w1.alloc (.cells (rcells a0 l0 p0 0 c .nilIface) 57)) := hbel.alloc hsz1 _
  have hK1 := keep_any w.heap.size w.heap.size (w.heap.size + 1) (w.heap.size + 2) (w.heap.size + 3) w1.heap.size (w.heap.size + 4) cap 0 0 l0 p0 c a0 .nilIface (kcat l0 x0 x1) (.slice none 0 0) (w1.alloc (.cells (rcells a0 l0 p0 0 c .nilIface) 57)) ea
    (hst.alloc _) (blk_new _ hS) (blk_last _ _) (hlows _ hsz1) (unhide H0).lc ((unhide H0).src hb1 (fun i hi => by simp [kcat, hi])) (by omega) (by omega) hc1 hc2 (by rw [hb1.cell (p := ⟨1, 0, none⟩) hlo1]; exact unhide HE) hlo1 (.inl rfl)
  have HL := hide hlows
  have HBO := hide (And.intro hst (And.intro hb1 hsz1))
  clear hst hS hbel hb1 hlows hsz1
  go_upto_region 6 with (go_at_call 13; refine hK1.mono ?_; rintro e w2 ⟨off2, n2, dv2, hsum2, hst2, hS2, hkp2, hres⟩; rcases hres with ⟨_, X, rfl, hX, hX2⟩ | ⟨fb, hf, _⟩; rotate_left; (cases hf); skip)
  obtain ⟨hst, hb1, hsz1⟩ := unhide HBO
  have hb2 : Below w.heap.size w w2 := hb1.trans (hkp2.low (unhide HL _ hsz1) (by omega) (hst.alloc _).own (by rw [size_alloc]; omega))
  have hsz2 := hb2.size
  have hsum2' : off2 + n2 = l0 := by omega
  have HQ2 := hide (And.intro hst2 (And.intro hS2 hb2))
  clear hst hb1 hsz1 HBO hK1 hst2 hS2 hkp2 hX hX2 hb2 hsum2
  go_upto_region 9 with (go_at_call 17; refine (errNew _ _).mono ?_; rintro e w3 ⟨rfl, rfl⟩)
  obtain ⟨hst2, hS2, hb2⟩ := unhide HQ2
  generalize hw3 : w2.alloc (.cells #[.string ⟨#[122, 122, 32, 102, 97, 105, 108]⟩] 95) = w3
  have hfb : w3.heap[w2.heap.size]? = some (.cells #[.string ⟨#[122, 122, 32, 102, 97, 105, 108]⟩] 95 (0, 0)) := by rw [← hw3]; exact blk_last _ _
  have hst3 : St w3 w.heap.size w.heap.size (w.heap.size + 1) (w.heap.size + 2) (w.heap.size + 3) cap off2 n2 (kcat l0 x0 x1) dv2 := by rw [← hw3]; exact hst2.alloc _
  have hS3 : w3.heap[w.heap.size + 4]? = some (.cells (scells w.heap.size (w.heap.size + 3) (off2 + n2)) 62 (0, 0)) := by rw [← hw3, hsum2']; simpa using blk_new _ hS2
  have hb3 : Below w.heap.size w w3 := by rw [← hw3]; exact hb2.alloc hsz2 _
  have hsz3 : w.heap.size ≤ w3.heap.size := hb3.size
  have hfb1 : w.heap.size ≤ w2.heap.size := hsz2
  generalize hfbe : w2.heap.size = fb at hfb hfb1 ⊢
  clear hw3 hst2 hS2 hb2 HQ2 hsz2 hfbe
  have hb4 : Below w.heap.size w (w3.alloc (.cells (rcells a1 l1 p1 0 c (.iface 93 (ptr fb))) 57)) := hb3.alloc hsz3 _
  have heal : ea.block < w.heap.size := blk_lt (unhide HEA)
  have hK2 := keep_any w.heap.size w.heap.size (w.heap.size + 1) (w.heap.size + 2) (w.heap.size + 3) w3.heap.size (w.heap.size + 4) cap off2 n2 l1 p1 c a1 (.iface 93 (ptr fb)) (kcat l0 x0 x1) dv2 (w3.alloc (.cells (rcells a1 l1 p1 0 c (.iface 93 (ptr fb))) 57)) ea
    (hst3.alloc _) (blk_new _ hS3) (blk_last _ _) (unhide HL _ hsz3) (unhide H1).lc ((unhide H1).src hb4 (fun i hi => by rw [hsum2']; exact kcat_hi l0 x0 x1 i)) (by omega) (by omega) hc1 hc2 (by rw [hb4.cell (p := ⟨1, 0, none⟩) hlo1]; exact unhide HE) hlo1
    (.inr ⟨fb, ce, _, te, rfl, by rw [hb4.block _ heal]; exact unhide HEA, heal, hfb1, blk_new _ hfb⟩)
  have HBO := hide (And.intro hst3 (And.intro hb4 hsz3))
  clear hst3 hS3 hb3 hfb hb4 hsz3
  go_upto_region 10 with (go_at_call 13; refine hK2.mono ?_; rintro e w4 ⟨off4, n4, dv4, hsum4, hst4, hS4, hkp4, hres⟩; rcases hres with ⟨hf, _⟩ | ⟨fb', hf, rfl⟩; (cases hf); skip)
  obtain ⟨hst3, hb4, hsz3⟩ := unhide HBO
  have hb5 : Below w.heap.size w w4 := hb4.trans (hkp4.low (unhide HL _ hsz3) (by omega) (hst3.alloc _).own (by rw [size_alloc]; omega))
  have hsz5 := hb5.size
  have hsum4' : off4 + n4 = l0 + l1 := by omega
  rw [hsum2'] at hS4
  have s1 := blk_cell hS4 1
  have s2 := blk_cell hS4 2
  simp only [scells, List.getElem?_toArray, List.getElem?_cons_zero, List.getElem?_cons_succ] at s1 s2
  have HQ4 := hide (And.intro hst4 (And.intro hS4 hb5))
  clear hst3 hb4 hsz3 HBO hK2 hst4 hS4 hkp4 hb5 hsum4
  have hk : ((l0 + l1 : Nat) : Int) = (l0 : Int) + (l1 : Int) := by omega
  go_upto_region 18 with (first | (go_at_call 18; refine (is_same _ _).mono ?_; rintro e w' ⟨rfl, rfl⟩) | (go_at_call 14; refine (flush_any _ _ _ _ _ cap off4 n4 (kcat l0 x0 x1) dv4 _ (unhide HQ4).1 (by omega)).mono ?_; rintro e w5 ⟨rfl, dv5, hst5, hmv5⟩))
  have hb6 : Below w.heap.size w w5 := (unhide HQ4).2.2.trans (hmv5.low (unhide HL _ (Nat.le_refl _)) (unhide HQ4).1.own hsz5)
  have hsz6 := hb6.size
  rw [hsum4'] at hst5
  have HQ5 := hide (And.intro hst5 hb6)
  clear HQ4 hst5 hmv5 s1 s2 hb6
  go_upto_region 19 with (at_builtin; refine wpList_append_row rfl (.tmp 99) (.tmp 100) rfl w5.heap.size 0 l0 p0 (.slice none 0 0) [] (bytesV x0 l0) rfl (World.ownsRow_nil _ _ _ _) a0 rfl (unhide H0).nil (bytesV_len _ _) ((unhide H0).news (unhide HQ5).2) (bytesV_one _ _) (by omega) (Nat.le_refl _) ?_; intro v6 w6 ho6 hg6)
  have hg6' := unhide hg6
  have hb7 : Below w.heap.size w w6 := (unhide HQ5).2.grown hg6' hsz6 (fun k hk => by simp [Value.ownBlock] at hk)
  have HB7 := hide hb7
  have hsz7 := hg6'.size
  clear hg6' hb7
  go_upto_region 20 with (at_builtin; refine wpList_append_row rfl (.tmp 102) (.tmp 103) rfl w5.heap.size (0 + l0) l1 p1 v6 ([] ++ bytesV x0 l0) (bytesV x1 l1) rfl (unhide ho6) a1 rfl (unhide H1).nil (bytesV_len _ _) ((unhide H1).news (unhide HB7)) (bytesV_one _ _) (by omega) hsz7 ?_; intro v7 w7 ho7 hg7)
  have hv6 : ∀ k, v6.ownBlock = some k → w5.heap.size ≤ k := fun k hk => ((unhide ho6).lt k hk).1
  have hkeep : ∀ k, k < w5.heap.size → w7.heap[k]? = w5.heap[k]? := fun k hk => by
    rw [(unhide hg7).block k (by omega) (fun e => by have := hv6 k e.symm; omega), (unhide hg6).block k hk (by simp [Value.ownBlock])]
  have hb8 : Below w.heap.size w w7 := (unhide HB7).grown (unhide hg7) (by omega) (fun k hk => by have := hv6 k hk; omega)
  have hM7 : w7.heap[w.heap.size]? = some (.cells #[dv5] 65 (0, 0)) := by rw [hkeep _ (blk_lt (unhide HQ5).1.m)]; exact (unhide HQ5).1.m
  have hown7 : w7.ownsRow w.heap.size 5 1 dv5 (l0 + l1) (bytesV (kcat l0 x0 x1) (l0 + l1)) := ownsRow_keep (unhide HQ5).1.own (fun b hb => hkeep b ((unhide HQ5).1.own.lt b hb).2)
  have hall : w7.ownsRow w5.heap.size 5 1 v7 (l0 + l1) (bytesV (kcat l0 x0 x1) (l0 + l1)) := by
    rw [kcat_bytes]; simpa using unhide ho7
  have hE := equal_any w7 dv5 v7 (l0 + l1) (kcat l0 x0 x1) (reads_own hown7) (reads_own hall)
  have m0 := blk_cell hM7 0
  simp only [List.getElem?_toArray, List.getElem?_cons_zero] at m0
  have HB8 := hide hb8
  clear hb8 hall hown7 hM7 hkeep hv6 ho7 hg7 ho6 hg6
  go_wp2_with (go_at_call 15; refine hE.mono ?_; rintro e w8 ⟨rfl, rfl⟩)
  go_ret
  exact ⟨rfl, unhide HB8⟩
end Go.Proofs.YbulkcaqmDoor.Spool
