import Derived.Test.YbulkcaqmDoorFailing
import Derived.Test.YbulkcaqmDoorLaid
import Derived.Test.YbulkcaqmDoorTie
import Derived.Test.YbulkcaqmDoorCards
import Derived.SevenTiedAt
import Derived.OpenVars
import Derived.Deep.Slices
namespace Go.Proofs.YbulkcaqmDoor.FailingP
open Go.ChangeShapes Go.WideShapes Go.ChangeAt Go.RowKit
open Go.Proofs.YbulkcaqmDoor.LaidP Go.Proofs.YbulkcaqmDoor.Spool
set_option linter.unusedVariables false

/-- a slice of bytes that came in -/
theorem open_row {H : Type} {enc : TypeId × Value → H} {W : World} {sp : Nat → Bool} {held : Bool} {a : Option Addr} {len cap : Nat} {d : DataW H} {p : List MemPlace} (hsp : ∀ b, sp b = true)
    (h : DataW.Trod enc Ybad.prog W 0 sp held 45 (.slice a len cap) d p) : len ≤ maxLen ∧ ∃ x : Nat → Int, ARow W a len cap x := by
  obtain ⟨fuel, hf⟩ := h
  rcases open_ints Ybad.underlying45 Ybad.underlying5 (by kernel_rfl) hf with ⟨hcs, _⟩ | ⟨x, l, c, zs, hcs, _, hl, hm, hz, _, hcell, hwz⟩
  · simp [Value.cells] at hcs
    obtain ⟨rfl, rfl, rfl⟩ := hcs
    exact ⟨by unfold maxLen; omega, fun _ => 0, by omega, fun _ => ⟨rfl, rfl⟩, fun h => by omega⟩
  · simp [Value.cells] at hcs
    obtain ⟨rfl, rfl, rfl⟩ := hcs
    rw [hsp] at hz
    simp only [if_true] at hz
    refine ⟨by omega, fun i => zs.getD i 0, hl, fun h => (by cases h), fun hpos => ?_⟩
    have hp : 0 < zs.length := by omega
    obtain ⟨b, off, rfl, hc⟩ := ints_at hcell hp
    exact ⟨b, off, rfl, fun i hi => hc i (by omega)⟩

theorem walk_long (a0 a1 : Option Addr) (l0 p0 l1 p1 : Nat) (ch sz : Int) (w : World) (h63 : l0 ≤ 9223372036854775807) (h64 : l1 ≤ 9223372036854775807) (h : 4096 < l0 ∨ 4096 < l1) :
    Calls Ybad.prog 5 #[.slice a0 l0 p0, .slice a1 l1 p1, .int .u8 ch, .int .u8 sz] w fun e w' => e = .returned (.bool true) ∧ Below w.heap.size w w' := by
  by_cases h0 : 4096 < l0
  · have h0' : (l0 : Int) > 4096 := by omega
    clear h
    go_enter Ybad.func5, Ybad.ntmps5
    go_wp2
    go_ret
    exact ⟨rfl, Below.refl _ _⟩
  · have h0' : ¬ (l0 : Int) > 4096 := by omega
    have h1' : (l1 : Int) > 4096 := by omega
    clear h
    go_enter Ybad.func5, Ybad.ntmps5
    go_wp2
    go_ret
    exact ⟨rfl, Below.refl _ _⟩

set_option maxRecDepth 100000 in
set_option maxHeartbeats 1000000 in
theorem lifted (os : Os) (started : os.Started) (H : Type) (enc : TypeId × Value → H) :
    ReturnsInHanded {} Ybad.checked os 5 .any (fun w args => (Rows.lawS3847CFailingBodySpec.pre enc Ybad.prog Ybad.f5 [] false w args ∧ laidMetH Ybad.prog laidList w) ∧ sizedMet enc Ybad.prog Ybad.f5 (OpenSpec.ofChange Rows.lawS3847CFailingBodySpec) false w args)
      (Rows.lawS3847CFailingBodySpec.post enc Ybad.prog Ybad.f5 false true false false) := by
  refine returnsInHanded_of_change_and (C := Ybad.checked) (X := fun w _ => laidMetH Ybad.prog laidList w) (fun _ _ _ hh h => h.of_heap hh) own started (by kernel_rfl) Ybad.func5
    (ChangeSpec.witness_at (enc := enc) (C := Ybad.checked) (os := os) (X := fun w _ => laidMetH Ybad.prog laidList w) false (laidWorld os) #[.slice none 0 0, .slice none 0 0, .int .u8 0, .int .u8 0] 8 rfl (by kernel_rfl) (by kernel_rfl) (by kernel_rfl) (by kernel_rfl) (by kernel_rfl) (laidWorld_met os _)) ?_
  intro W base args ds gs before hval0 hW _ _ hL _
  have hval : ∀ (j : Nat) t v, Ybad.f5.params[j]? = some t → args[j]? = some v → Value.okWide Ybad.prog W .any base t v := hval0
  have hW' := hW
  obtain ⟨p, q, hA0, hV0, rfl, hfz, hnd⟩ := hW
  have hA : DataW.TrodAll enc Ybad.prog W 0 (fun _ => true) true Ybad.f5.params.toList args.toList ds p := hA0
  obtain ⟨rfl, rfl⟩ := trodVars_none hV0
  rw [Ybad.params5] at hA hval
  obtain ⟨v0, vs0, d0, ds0, p0, q0, hargs, rfl, rfl, h0, r0⟩ := trodAll_cons hA
  obtain ⟨v1, vs1, d1, ds1, p1, q1, rfl, rfl, rfl, h1, r1⟩ := trodAll_cons r0
  obtain ⟨v2, vs2, d2, ds2, p2, q2, rfl, rfl, rfl, h2, r2⟩ := trodAll_cons r1
  obtain ⟨v3, vs3, d3, ds3, p3, q3, rfl, rfl, rfl, h3, r3⟩ := trodAll_cons r2
  obtain ⟨rfl, rfl, rfl⟩ := trodAll_nil r3
  obtain rfl : args = #[v0, v1, v2, v3] := by cases args; simp_all
  have k0 := h0
  have k1 := h1
  have k2 := h2
  have k3 := h3
  have lt0 : ∀ x ∈ p0, x.block < W.heap.size := by obtain ⟨m, hm⟩ := k0; exact DataW.trod_lt m _ _ _ hm
  have lt1 : ∀ x ∈ p1, x.block < W.heap.size := by obtain ⟨m, hm⟩ := k1; exact DataW.trod_lt m _ _ _ hm
  have lt2 : ∀ x ∈ p2, x.block < W.heap.size := by obtain ⟨m, hm⟩ := k2; exact DataW.trod_lt m _ _ _ hm
  have lt3 : ∀ x ∈ p3, x.block < W.heap.size := by obtain ⟨m, hm⟩ := k3; exact DataW.trod_lt m _ _ _ hm
  obtain ⟨a0, l0, c0, rfl⟩ := okWide_slice Ybad.underlying45 (hval 0 45 v0 rfl rfl)
  obtain ⟨a1, l1, c1, rfl⟩ := okWide_slice Ybad.underlying45 (hval 1 45 v1 rfl rfl)
  obtain ⟨ch, rfl, rfl, hp2, wch⟩ := open_int Ybad.underlying5 (hval 2 5 v2 rfl rfl) h2
  obtain ⟨sz, rfl, rfl, hp3, wsz⟩ := open_int Ybad.underlying5 (hval 3 5 v3 rfl rfl) h3
  obtain ⟨m0, x0, r0'⟩ := open_row (fun _ => rfl) h0
  obtain ⟨m1, x1, r1'⟩ := open_row (fun _ => rfl) h1
  obtain ⟨ea, ce, te, he1, he2⟩ := eof_of_laid hL
  have hch := bounds_u8 wch
  have hsz := bounds_u8 wsz
  have hcalls : Calls Ybad.prog 5 #[.slice a0 l0 c0, .slice a1 l1 c1, .int .u8 ch, .int .u8 sz] W fun e w' => e = .returned (.bool true) ∧ Below W.heap.size W w' := by
    by_cases hl : l0 ≤ 4096 ∧ l1 ≤ 4096
    · exact failing a0 a1 l0 c0 l1 c1 x0 x1 ch sz W ea ce te r0' r1' hl.1 hl.2 (by omega) (by omega) he1 he2
    · exact walk_long a0 a1 l0 c0 l1 c1 ch sz W (by unfold maxLen at m0; omega) (by unfold maxLen at m1; omega) (by omega)
  clear hA0 hval0
  refine hcalls.mono fun e W' ⟨he, bel⟩ => ?_
  subst he
  exact ⟨_, rfl, _, _, _, [], _, [], hW', trodAll_mk1 (shut_bool Ybad.underlying4 _),
    (trodAll_cons_mk (Below.trod laidOut (by kernel_rfl) (of_decide_eq_true (by kernel_rfl)) k0 bel lt0) (trodAll_cons_mk (Below.trod laidOut (by kernel_rfl) (of_decide_eq_true (by kernel_rfl)) k1 bel lt1)
      (trodAll_cons_mk (Below.trod laidOut (by kernel_rfl) (of_decide_eq_true (by kernel_rfl)) k2 bel lt2) (trodAll_cons_mk (Below.trod laidOut (by kernel_rfl) (of_decide_eq_true (by kernel_rfl)) k3 bel lt3) trodAll_mk0)))),
    rfl, bel.frame _, fun h => by cases h⟩

theorem over : Rows.LawS3847CFailingBodySaid :=
  OpenClaim.holds_of_wide 5 Ybad.f5 rfl rfl rfl rfl rfl rfl rfl ⟨rfl, rfl, rfl, rfl, rfl⟩ rfl rfl rfl rfl rfl (by kernel_rfl) Ybad.func5 (by kernel_rfl)
    (of_decide_eq_true (by kernel_rfl)) (by unfold Func.isWrapper; first | (rw [if_pos (by decide +kernel)]; kernel_rfl) | (rw [if_neg (by decide +kernel)]; exact ⟨rfl, rfl⟩))
    (fun os started H enc _ => lifted os started H enc)

theorem proved : Rows.LawS3847CFailingBodyCardSaid :=
  Claim7.holds_tied_plain_at .later [] [.sentinel, .sentinel, .sentinel] true (true, "deb64f886577e17455d6162bbdf2e97d1e9adba8e532b4bcfa33a9576d0b02ff") true
    over (fun _ h => by cases h) (by kernel_rfl) (fun _ h => by cases h) lawS3847CFailingBody_row_tie rfl ⟨rfl, rfl⟩ (by kernel_rfl) rfl
    (fun f fn hf hfn => by
      obtain rfl : f = 5 := Option.some.inj ((show Ybad.prog.funcNamed "example.com/sheafwire/sheafwire.LawS3847CFailingBody" = some 5 by kernel_rfl).symm.trans hf) |>.symm
      obtain rfl : fn = Ybad.f5 := (Option.some.inj (Ybad.func5.symm.trans hfn)).symm
      exact ⟨by kernel_rfl, fun j t ht => by
        rw [Ybad.params5] at ht
        have h3 : t = 45 ∨ t = 5 := by
          rcases j with _ | _ | _ | _ | j
          · left; simpa using ht.symm
          · left; simpa using ht.symm
          · right; simpa using ht.symm
          · right; simpa using ht.symm
          · simp at ht
        rcases h3 with rfl | rfl
        · exact (show Ybad.prog.wantsStandIn 45 = false by kernel_rfl)
        · exact (show Ybad.prog.wantsStandIn 5 = false by kernel_rfl)⟩)
    (by kernel_rfl)
end Go.Proofs.YbulkcaqmDoor.FailingP
