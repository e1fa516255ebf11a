import Derived.Test.YbulkcaqmDoorOrder
import Derived.Test.YbulkcaqmDoorLaid
import Derived.Test.YbulkcaqmDoorTie
import Derived.Test.YbulkcaqmDoorCards
import Derived.SevenTiedAt
import Derived.OpenVars
import Derived.Deep.Slices
namespace Go.Proofs.YbulkcaqmDoor.OrderP
open Go.ChangeShapes Go.WideShapes Go.ChangeAt Go.RowKit
open Go.Proofs.YbulkcaqmDoor.LaidP Go.Proofs.YbulkcaqmDoor.Spool Go.Proofs.YbulkcaqmDoor.Order
set_option linter.unusedVariables false

theorem cells45 : Ybad.prog.cellsOf 45 = 1 := by kernel_rfl
theorem bytes5 : Ybad.prog.bytesOf 5 = 1 := by kernel_rfl

theorem weightsAll_mem {H : Type} {P : Program} {e : TypeId} {n : Nat} : ∀ {l : List (DataW H)} {d : DataW H}, d ∈ l → n ∈ d.weights P e → n ∈ DataW.weightsAll P e l
  | x :: l, d, hd, hn => by
    simp only [DataW.weightsAll, List.mem_append]
    rcases List.mem_cons.1 hd with rfl | h
    · exact Or.inl hn
    · exact Or.inr (weightsAll_mem h hn)

structure Bx where
  A : Option Addr
  L : Nat
  P : Nat
  x : Nat → Int
instance : Inhabited Bx := ⟨⟨none, 0, 0, fun _ => 0⟩⟩

/-- a slice of bytes that came in: its cells and its weight -/
theorem open_body {H : Type} {enc : TypeId × Value → H} {W : World} {sp : Nat → Bool} {held : Bool} {v : Value} {n : Nat} {d : DataW H} {p : List MemPlace} (hsp : ∀ b, sp b = true)
    (hf : DataW.trod enc Ybad.prog W 0 sp held n 45 [v] = some (d, p)) : ∃ B : Bx, v = .slice B.A B.L B.P ∧ ARow W B.A B.L B.P B.x ∧ ((∃ m, m ∈ d.weights Ybad.prog 45 ∧ B.L ≤ m) ∨ B.L = 0) := by
  rcases open_ints Ybad.underlying45 Ybad.underlying5 (by kernel_rfl) hf with ⟨hcs, _⟩ | ⟨x, l, c, zs, hcs, _, hl, hm, hz, hx, hcell, hwz⟩
  · simp at hcs
    subst hcs
    exact ⟨⟨none, 0, 0, fun _ => 0⟩, rfl, ⟨by simp, fun _ => ⟨rfl, rfl⟩, fun h => by simp at h⟩, .inr rfl⟩
  · simp at hcs
    subst hcs
    rw [hsp] at hz
    simp only [if_true] at hz
    refine ⟨⟨some x, l, c, fun i => zs.getD i 0⟩, rfl, ⟨hl, fun h => (by cases h), fun hpos => ?_⟩, .inl ⟨c, ?_, hl⟩⟩
    · have hpos' : 0 < l := hpos
      have hp : 0 < zs.length := by omega
      obtain ⟨b, off, rfl, hc⟩ := ints_at hcell hp
      exact ⟨b, off, rfl, fun i hi => hc i (by have hi' : i < l := hi; omega)⟩
    · have hx1 := congrArg Prod.fst hx
      simp only at hx1
      subst hx1
      simp only [DataW.weights, Ybad.underlying45, bytes5, Nat.mul_one, List.mem_cons]
      left
      simp only [lits, List.length_map, List.length_take, List.length_drop]
      omega

theorem walk_long (a : Option Addr) (N cN : Nat) (ch sz : Int) (w : World) (h63 : N ≤ 9223372036854775807) (h : 300 < N) :
    Calls Ybad.prog 4 #[.slice a N cN, .int .u8 ch, .int .u8 sz] w fun e w' => e = .returned (.bool true) ∧ Below w.heap.size w w' := by
  have h0' : (N : Int) > 300 := by omega
  clear h
  go_enter Ybad.func4, Ybad.ntmps4
  go_wp2
  go_ret
  exact ⟨rfl, Below.refl _ _⟩

set_option maxRecDepth 100000 in
set_option maxHeartbeats 1000000 in
theorem lifted (os : Os) (started : os.Started) (H : Type) (enc : TypeId × Value → H) :
    ReturnsInHanded {} Ybad.checked os 4 .any (fun w args => (Rows.lawS3847CKeepsInOrderSpec.pre enc Ybad.prog Ybad.f4 [] false w args ∧ laidMetH Ybad.prog laidList w) ∧ sizedMet enc Ybad.prog Ybad.f4 (OpenSpec.ofChange Rows.lawS3847CKeepsInOrderSpec) false w args)
      (Rows.lawS3847CKeepsInOrderSpec.post enc Ybad.prog Ybad.f4 false true false false) := by
  refine returnsInHanded_of_change_and (C := Ybad.checked) (X := fun w _ => laidMetH Ybad.prog laidList w) (fun _ _ _ hh h => h.of_heap hh) own started (by kernel_rfl) Ybad.func4
    (ChangeSpec.witness_at (enc := enc) (C := Ybad.checked) (os := os) (X := fun w _ => laidMetH Ybad.prog laidList w) false (laidWorld os) #[.slice none 0 0, .int .u8 0, .int .u8 0] 8 rfl (by kernel_rfl) (by kernel_rfl) (by kernel_rfl) (by kernel_rfl) (by kernel_rfl) (laidWorld_met os _)) ?_
  intro W base args ds gs before hval0 hW _ hwt0 hL _
  have hval : ∀ (j : Nat) t v, Ybad.f4.params[j]? = some t → args[j]? = some v → Value.okWide Ybad.prog W .any base t v := hval0
  have hwt1 : (DataW.weightsEach Ybad.prog (Ybad.f4.params.toList ++ Rows.lawS3847CKeepsInOrderSpec.plain.varTypes Ybad.prog) (ds ++ gs)).all (· ≤ reachBytes) = true := hwt0
  have hW' := hW
  obtain ⟨p, q, hA0, hV0, rfl, hfz, hnd⟩ := hW
  have hA : DataW.TrodAll enc Ybad.prog W 0 (fun _ => true) true Ybad.f4.params.toList args.toList ds p := hA0
  obtain ⟨rfl, rfl⟩ := trodVars_none hV0
  rw [Ybad.params4] at hA hval hwt1
  obtain ⟨v0, vs0, d0, ds0, p0, q0, hargs, rfl, rfl, h0, r0⟩ := trodAll_cons hA
  obtain ⟨v2, vs2, d2, ds2, p2, q2, rfl, rfl, rfl, h2, r2⟩ := trodAll_cons r0
  obtain ⟨v3, vs3, d3, ds3, p3, q3, rfl, rfl, rfl, h3, r3⟩ := trodAll_cons r2
  obtain ⟨rfl, rfl, rfl⟩ := trodAll_nil r3
  obtain rfl : args = #[v0, v2, v3] := by cases args; simp_all
  have k0 := h0
  have k2 := h2
  have k3 := h3
  have lt0 : ∀ x ∈ p0, x.block < W.heap.size := by obtain ⟨m, hm⟩ := k0; exact DataW.trod_lt m _ _ _ hm
  have lt2 : ∀ x ∈ p2, x.block < W.heap.size := by obtain ⟨m, hm⟩ := k2; exact DataW.trod_lt m _ _ _ hm
  have lt3 : ∀ x ∈ p3, x.block < W.heap.size := by obtain ⟨m, hm⟩ := k3; exact DataW.trod_lt m _ _ _ hm
  obtain ⟨a0, N, cN, rfl⟩ := okWide_slice Ybad.underlying44 (hval 0 44 v0 rfl rfl)
  obtain ⟨ch, rfl, rfl, hp2, wch⟩ := open_int Ybad.underlying5 (hval 1 5 v2 rfl rfl) h2
  obtain ⟨sz, rfl, rfl, hp3, wsz⟩ := open_int Ybad.underlying5 (hval 2 5 v3 rfl rfl) h3
  obtain ⟨ea, ce, te, he1, he2⟩ := eof_of_laid hL
  have hch := bounds_u8 wch
  have hsz := bounds_u8 wsz
  have hcalls : Calls Ybad.prog 4 #[.slice a0 N cN, .int .u8 ch, .int .u8 sz] W fun e w' => e = .returned (.bool true) ∧ Below W.heap.size W w' := by
    obtain ⟨fuel, hf⟩ := h0
    rcases Go.Deep.open_slice1 Ybad.underlying44 cells45 hf with ⟨hcs, _⟩ | ⟨a, len, cap, m, n, V, D, Pl, hcs, _, hlc, hcm, hm, hx, hel⟩
    · simp [Value.cells] at hcs
      obtain ⟨rfl, rfl, rfl⟩ := hcs
      exact keeps none 0 0 (fun _ => none) (fun _ => 0) (fun _ => 0) (fun _ _ => 0) ch sz W ea ⟨fun h => by omega, fun j hj => by omega, fun j hj => by omega⟩ (by omega) (by omega) (by omega) he1
    · simp [Value.cells] at hcs
      obtain ⟨rfl, rfl, rfl⟩ := hcs
      simp only [if_true] at hm
      have hm' := hm.symm
      subst hm'
      have hx1 := congrArg Prod.fst hx
      simp only at hx1
      subst hx1
      obtain ⟨bx, hbx⟩ := Go.Deep.choose_lt (n := cN) (p := fun i (B : Bx) => W.cell? (a.add i) = some (.slice B.A B.L B.P) ∧ ARow W B.A B.L B.P B.x ∧ ((∃ m, m ∈ (D i).weights Ybad.prog 45 ∧ B.L ≤ m) ∨ B.L = 0)) (fun i hi => by
        obtain ⟨q1, q2⟩ := hel i hi
        obtain ⟨B, e1, e2, e3⟩ := open_body (fun _ => rfl) q2
        exact ⟨B, by rw [q1, e1], e2, e3⟩)
      by_cases hN : N ≤ 300
      · refine keeps (some a) N cN (fun j => (bx j).A) (fun j => (bx j).L) (fun j => (bx j).P) (fun j => (bx j).x) ch sz W ea ⟨fun hpos => ?_, fun j hj => (hbx j (by omega)).2.1, fun j hj => ?_⟩ hN (by omega) (by omega) he1
        · obtain ⟨b, off, spot⟩ := a
          have hspot : spot = none := by
            have := (hbx 0 (by omega)).1
            simpa [Addr.add] using World.cell?_spot this
          subst hspot
          exact ⟨b, off, rfl, fun j hj => by have := (hbx j (by omega)).1; rwa [add_plain] at this⟩
        · rcases (hbx j (by omega)).2.2 with ⟨m, hm1, hm2⟩ | h0
          · have hw := List.all_eq_true.1 hwt1 m (by
              simp only [List.cons_append, DataW.weightsEach, List.mem_append]
              left
              simp only [DataW.weights, Ybad.underlying44, List.mem_cons, List.mem_append]
              right
              left
              exact weightsAll_mem (d := D j) (List.mem_map.2 ⟨j, List.mem_range.2 hj, rfl⟩) hm1)
            have hw' : m ≤ reachBytes := by simpa using hw
            unfold reachBytes at hw'
            omega
          · show (bx j).L ≤ _
            omega
      · exact walk_long _ _ _ _ _ _ (by unfold maxLen at hcm; omega) (by omega)
  clear hA0 hval0
  refine hcalls.mono fun e W' ⟨he, bel⟩ => ?_
  subst he
  exact ⟨_, rfl, _, _, _, [], _, [], hW', trodAll_mk1 (shut_bool Ybad.underlying4 _),
    (trodAll_cons_mk (Below.trod laidOut (by kernel_rfl) (of_decide_eq_true (by kernel_rfl)) k0 bel lt0)
      (trodAll_cons_mk (Below.trod laidOut (by kernel_rfl) (of_decide_eq_true (by kernel_rfl)) k2 bel lt2) (trodAll_cons_mk (Below.trod laidOut (by kernel_rfl) (of_decide_eq_true (by kernel_rfl)) k3 bel lt3) trodAll_mk0))),
    rfl, bel.frame _, fun h => by cases h⟩

theorem over : Rows.LawS3847CKeepsInOrderSaid :=
  OpenClaim.holds_of_wide 4 Ybad.f4 rfl rfl rfl rfl rfl rfl rfl ⟨rfl, rfl, rfl, rfl, rfl⟩ rfl rfl rfl rfl rfl (by kernel_rfl) Ybad.func4 (by kernel_rfl)
    (of_decide_eq_true (by kernel_rfl)) (by unfold Func.isWrapper; first | (rw [if_pos (by decide +kernel)]; kernel_rfl) | (rw [if_neg (by decide +kernel)]; exact ⟨rfl, rfl⟩))
    (fun os started H enc _ => lifted os started H enc)

theorem proved : Rows.LawS3847CKeepsInOrderCardSaid :=
  Claim7.holds_tied_plain_at .later [] [.sentinel, .sentinel, .sentinel] true (true, "deb64f886577e17455d6162bbdf2e97d1e9adba8e532b4bcfa33a9576d0b02ff") true
    over (fun _ h => by cases h) (by kernel_rfl) (fun _ h => by cases h) lawS3847CKeepsInOrder_row_tie rfl ⟨rfl, rfl⟩ (by kernel_rfl) rfl
    (fun f fn hf hfn => by
      obtain rfl : f = 4 := Option.some.inj ((show Ybad.prog.funcNamed "example.com/sheafwire/sheafwire.LawS3847CKeepsInOrder" = some 4 by kernel_rfl).symm.trans hf) |>.symm
      obtain rfl : fn = Ybad.f4 := (Option.some.inj (Ybad.func4.symm.trans hfn)).symm
      exact ⟨by kernel_rfl, fun j t ht => by
        rw [Ybad.params4] at ht
        have h3 : t = 44 ∨ t = 5 := by
          rcases j with _ | _ | _ | j
          · left; simpa using ht.symm
          · right; simpa using ht.symm
          · right; simpa using ht.symm
          · simp at ht
        rcases h3 with rfl | rfl
        · exact (show Ybad.prog.wantsStandIn 44 = false by kernel_rfl)
        · exact (show Ybad.prog.wantsStandIn 5 = false by kernel_rfl)⟩)
    (by kernel_rfl)
end Go.Proofs.YbulkcaqmDoor.OrderP
