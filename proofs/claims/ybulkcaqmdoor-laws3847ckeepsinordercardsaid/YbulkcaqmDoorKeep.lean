import Derived.Test.YbulkcaqmDoorFrom
namespace Go.Proofs.YbulkcaqmDoor.Spool
set_option linter.unusedVariables false
open Go.ChangeShapes Go.WideShapes Go.ChangeAt Go.RowKit Go.Conc Go.Proofs.YbulkcaqmDoor.Base Go.Proofs.YbulkcaqmDoor.Loud

/-- the cells of a section reader -/
def xcells (M s o l n : Nat) : Array Value := #[.iface 47 (ptr M), .int .i64 s, .int .i64 o, .int .i64 l, .int .i64 n]
def scells (M W k : Nat) : Array Value := #[.iface 47 (ptr M), ptr W, .int .i64 k]

theorem newSection (M s n : Nat) (w : World) (hs : s + n ≤ 100000) :
    Calls Ybad.prog 26 #[.iface 47 (ptr M), .int .i64 s, .int .i64 n] w fun e w' => e = .returned (ptr w.heap.size) ∧ w' = w.alloc (.cells (xcells M s s (s + n) n) 124) := by
  have h1 : (s : Int) ≤ 9223372036854775807 - (n : Int) := by omega
  have h2 : (n : Int) + (s : Int) = ((s + n : Nat) : Int) := by omega
  go_enter Ybad.func26, Ybad.ntmps26
  go_wp2
  go_ret
  refine ⟨rfl, ?_⟩
  simp [xcells]

/-- what keep touches -/
structure Kp (M C B W R S : Nat) (dv dv' : Value) (w w' : World) : Prop where
  t : TouchOnly (fun k => k = S ∨ k = M ∨ k = C ∨ k = B ∨ k = W ∨ k = R ∨ dv.ownBlock = some k) w w'
  o : ∀ k, dv'.ownBlock = some k → k < w.heap.size → dv.ownBlock = some k

theorem Mv.kp {M C B W R S : Nat} {dv dv' : Value} {w w' : World} (h : Mv M C B W R dv dv' w w') : Kp M C B W R S dv dv' w w' := ⟨h.t.mono (fun _ _ e => .inr e), h.o⟩

/-- a store into the spooler leaves the spool's state -/
theorem St.store {w : World} {lo M C B W S cap off n i : Nat} {K : Nat → Int} {dv : Value} {cs : Array Value} (h : St w lo M C B W cap off n K dv) (hS : w.heap[S]? = some (.cells cs 62 (0, 0))) (v : Value) :
    St (w.setCell ⟨S, i, none⟩ v) lo M C B W cap off n K dv := by
  obtain ⟨bs, hB, hcl, hcs⟩ := h.b
  refine ⟨blk_oth i v (blk_ne h.m hS (by decide)) h.m, blk_oth i v (blk_ne h.c hS (by decide)) h.c, blk_oth i v (blk_ne h.wr hS (by decide)) h.wr, ⟨bs, blk_oth i v (blk_ne hB hS (by decide)) hB, hcl, hcs⟩,
    ownsRow_keep h.own (fun b hb => Below.heap_setCell _ _ _ _ (fun e => ?_)), h.nb, h.nc, h.c1, h.c2, by rw [size_setCell]; exact h.lo1⟩
  obtain ⟨cs', hc⟩ := own_type h.own hb
  exact blk_ne hc hS (by decide) e

theorem St.alloc {w : World} {lo M C B W cap off n : Nat} {K : Nat → Int} {dv : Value} (h : St w lo M C B W cap off n K dv) (o : Obj) : St (w.alloc o) lo M C B W cap off n K dv := by
  obtain ⟨bs, hB, hcl, hcs⟩ := h.b
  exact ⟨blk_new o h.m, blk_new o h.c, blk_new o h.wr, ⟨bs, blk_new o hB, hcl, hcs⟩, h.own.alloc o, h.nb, h.nc, h.c1, h.c2, by rw [size_alloc]; have := h.lo1; omega⟩

def KPost (w : World) (lo M C B W R S cap off n len : Nat) (K : Nat → Int) (dv fail : Value) (e : Ending) (w' : World) : Prop :=
  ∃ off' n' dv', off' + n' = off + n + len ∧ St w' lo M C B W cap off' n' K dv' ∧ w'.heap[S]? = some (.cells (scells M W (off + n + len)) 62 (0, 0)) ∧ Kp M C B W R S dv dv' w w' ∧
      ((fail = .nilIface ∧ ∃ X, e = .returned (.tuple #[.iface 84 (ptr X), .int .i64 len, .nilIface]) ∧ w.heap.size ≤ X ∧ w'.heap[X]? = some (.cells (xcells M (off + n) (off + n) (off + n + len) len) 124 (0, 0))) ∨
       (∃ fb, fail = .iface 93 (ptr fb) ∧ e = .returned (.tuple #[.nilIface, .int .i64 0, fail])))

set_option maxRecDepth 100000 in
set_option maxHeartbeats 1000000 in
theorem keep_any (lo M C B W R S cap off n len rcap c : Nat) (a : Option Addr) (fail : Value) (K : Nat → Int) (dv : Value) (w : World) (ea : Addr)
    (h : St w lo M C B W cap off n K dv) (hS : w.heap[S]? = some (.cells (scells M W (off + n)) 62 (0, 0))) (hR : w.heap[R]? = some (.cells (rcells a len rcap 0 c fail) 57 (0, 0))) (hL : Lows lo M C B W R) (hlc : len ≤ rcap)
    (hsrc : Src w lo (off + n) len a K) (hlen : len ≤ 8192) (hb : off + n + len ≤ 9000) (hc1 : 0 < c) (hc2 : c ≤ 8) (heof : w.cell? ⟨1, 0, none⟩ = some (.iface 93 (.pointer (some ea)))) (h1 : 1 < lo) (hfail : Fails w lo ea fail) :
    Calls Ybad.prog 13 #[ptr S, .iface 55 (ptr R)] w (KPost w lo M C B W R S cap off n len K dv fail) := by
  have c0 := blk_cell hS 0
  have c1 := blk_cell hS 1
  have c2 := blk_cell hS 2
  simp only [scells, List.getElem?_toArray, List.getElem?_cons_zero, List.getElem?_cons_succ] at c0 c1 c2
  have hA := h.apart hS (by decide) (by decide) (by decide) (by decide)
  have hSR := blk_ne hS hR (by decide)
  have HF := readFrom lo M C B W R cap off n len rcap c a fail K dv w ea h hR hL hlc hsrc hlen hb hc1 hc2 heof h1 hfail
  have HS := hide h
  have HSS := hide hS
  have HFA := hide hfail
  clear h hS hR hsrc heof hfail
  go_enter Ybad.func13, Ybad.ntmps13
  go_upto_region 3 with (go_at_call 25; refine HF.mono ?_; rintro e w1 ⟨rfl, off', n', dv', hsum, hst, hmv⟩)
  have hS1 : w1.heap[S]? = some (.cells (scells M W (off + n)) 62 (0, 0)) := by
    refine hmv.t.keep (unhide HSS) ?_
    rintro (e | e | e | e | e | e)
    · exact hA (.inl e)
    · exact hA (.inr (.inl e))
    · exact hA (.inr (.inr (.inl e)))
    · exact hA (.inr (.inr (.inr (.inl e))))
    · exact hSR e
    · exact hA (.inr (.inr (.inr (.inr (.inr e)))))
  have d0 := blk_cell hS1 0
  have d2 := blk_cell hS1 2
  have d3 := blk_free hS1 2
  simp only [scells, List.getElem?_toArray, List.getElem?_cons_zero, List.getElem?_cons_succ] at d0 d2
  have hS2 : (w1.setCell ⟨S, 2, none⟩ (.int .i64 ((off : Int) + (n : Int) + (len : Int)))).heap[S]? = some (.cells (scells M W (off + n + len)) 62 (0, 0)) := by
    have := blk_set 2 (.int .i64 ((off : Int) + (n : Int) + (len : Int))) hS1
    simpa [scells] using this
  have g0 := blk_cell hS2 0
  simp only [scells, List.getElem?_toArray, List.getElem?_cons_zero] at g0
  have HQ := hide (And.intro hsum (And.intro (hst.store (i := 2) hS1 (.int .i64 ((off : Int) + (n : Int) + (len : Int)))) (And.intro hS2 (And.intro hmv hS1))))
  clear hst hmv hS1 hS2 hA HF c0 c1 c2 hsum
  have hk : Kp M C B W R S dv dv' w (w1.setCell ⟨S, 2, none⟩ (.int .i64 ((off : Int) + (n : Int) + (len : Int)))) := ⟨TouchOnly.setCell (p := ⟨S, 2, none⟩) ((unhide HQ).2.2.2.1.kp (S := S)).t (fun _ => Or.inl rfl) _, (unhide HQ).2.2.2.1.o⟩
  have HK := hide hk
  clear hk
  rcases unhide HFA with hf | ⟨fb, ce, cf, te, hf, _⟩
  · subst hf
    go_wp2_with (go_at_call 26; refine (newSection M (off + n) len _ (by omega)).mono ?_; rintro e w2 ⟨rfl, rfl⟩)
    go_ret3
    obtain ⟨q1, q2, q3, q4, q5⟩ := unhide HQ
    refine ⟨off', n', dv', q1, q2.alloc _, blk_new _ q3, ⟨(unhide HK).t.alloc _, (unhide HK).o⟩, .inl ⟨rfl, w1.heap.size, rfl, q4.t.size, ?_⟩⟩
    have := blk_last (w1.setCell ⟨S, 2, none⟩ (.int .i64 ((off : Int) + (n : Int) + (len : Int)))) (.cells (xcells M (off + n) (off + n) (off + n + len) len) 124)
    rw [size_setCell] at this
    exact this
  · subst hf
    go_wp2_with fail
    go_ret3
    obtain ⟨q1, q2, q3, q4, q5⟩ := unhide HQ
    exact ⟨off', n', dv', q1, q2, q3, unhide HK, .inr ⟨fb, rfl, rfl⟩⟩

end Go.Proofs.YbulkcaqmDoor.Spool
