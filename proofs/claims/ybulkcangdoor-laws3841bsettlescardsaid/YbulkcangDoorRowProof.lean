import Derived.Test.YbulkcangDoorRows
import Derived.Test.YbulkcangDoorLaw
import Derived.Test.YbulkcangDoorLaw0
import Derived.Test.YbulkcangDoorLawZ
import Derived.WalkKit
import Derived.ProofKit
import Derived.OpenShut
import Derived.OpenVars
import Derived.ShutString
import Derived.ChangeOld
import Derived.ChangeVars
import Derived.Below
import Derived.MakeChecks
import Derived.LaidLaws
import Derived.LaidHandle
import Derived.SizedLaws
import Derived.Deep.Slices
import Derived.Deep.Strs
namespace Go.Proofs.YbulkcangDoor.RowProof
open Go.ChangeShapes Go.WideShapes Go.ChangeAt Go.RowKit
open Go.ChangeMaps (open_string shut_string)
open Go.Proofs.YbulkcangDoor
open Go.Proofs.YbulkcangDoor.Law (In law_some law_some0 law_zero0 law_zero1)
open Go.Proofs.YbulkcangDoor.Waits (Wx)
set_option linter.unusedVariables false

theorem own : ownKnob Ybad.prog.godebug = none := by kernel_rfl
theorem laidOut : laidOutB Ybad.prog = true := by kernel_rfl
theorem names : Ybad.prog.globalNamed "example.com/trunkline/trunkline/circuit.stateNames" = some 0 := by kernel_rfl
theorem namesType : (Ybad.prog.globals[0]?).map (·.type) = some 64 := by kernel_rfl
theorem cells64 : Ybad.prog.cellsOf 64 = 5 := by kernel_rfl
theorem cells39 : Ybad.prog.cellsOf 39 = 3 := by kernel_rfl
theorem cells9 : Ybad.prog.cellsOf 9 = 1 := by kernel_rfl
theorem cells4 : Ybad.prog.cellsOf 4 = 1 := by kernel_rfl
theorem cells3 : Ybad.prog.cellsOf 3 = 1 := by kernel_rfl

abbrev laidList : List (String × DataW Unit) := [("example.com/trunkline/trunkline/circuit.stateNames", Rows.laid_example_com_trunkline_trunkline_circuit_stateNames)]

theorem bytes_eq {s t : ByteArray} (h : s.data.toList = t.data.toList) : s = t := by
  obtain ⟨⟨a⟩⟩ := s
  obtain ⟨⟨b⟩⟩ := t
  simp only at h
  subst h
  rfl

theorem idle_cell {W : World} (h : laidMetH Ybad.prog laidList W) : W.cell? ⟨0, 0, none⟩ = some (.string Small.idle) := by
  rw [MakeChecks.laidMetH_plain _ _ _ (by kernel_rfl)] at h
  obtain ⟨ps, ⟨g, t, cs, fuel, p, q, hg, ht, hvar, hd, _, _⟩, _⟩ := h
  obtain rfl := Option.some.inj (names.symm.trans hg)
  obtain rfl := Option.some.inj (namesType.symm.trans ht)
  rw [World.var?_cell hg hvar 0]
  obtain ⟨l⟩ := cs
  obtain ⟨xs, m, _, hx, hl, hn, hi⟩ := DataW.trod_array Ybad.underlying64 hd
  rw [cells64] at hl
  have h0 := hi 0 (by decide)
  rw [cells9] at h0
  match xs, hn with
  | x0 :: xs, _ =>
    obtain ⟨s, hs, hx0, _⟩ := DataW.trod_string (x := x0) Ybad.underlying9 (by simpa using h0)
    have e1 : (DataW.lit (Lit.string s.data.toList) : DataW Unit) = .lit (.string [105, 100, 108, 101]) := by
      have := congrArg Prod.fst hx
      simp only [Rows.laid_example_com_trunkline_trunkline_circuit_stateNames, List.map_cons, DataW.agg.injEq, List.cons.injEq] at this
      rw [this.1, hx0]
    have e2 : s = Small.idle := bytes_eq (by simpa [Small.idle] using e1)
    subst e2
    match l, hl with
    | y0 :: l, _ =>
      have : y0 = .string Small.idle := by simpa using hs
      subst this
      rfl

set_option maxRecDepth 100000 in
theorem walk_long (a0 : Option Addr) (len cap0 : Nat) (ending : ByteArray) (nt : Int) (w : World) (h : 512 < len) (h63 : len ≤ 9223372036854775807) :
    Calls Ybad.prog 3 #[.slice a0 len cap0, .string ending, .int .u8 nt] w fun e w' => e = .returned (.bool true) ∧ Below w.heap.size w w' := by
  go_enter Ybad.func3, Ybad.ntmps3
  go_wp2
  go_ret
  exact ⟨rfl, Below.refl _ _⟩

noncomputable def laidWorld (os : Os) : World :=
  { World.holding Ybad.prog os ⟨#[], #[], []⟩ with heap := (World.holding Ybad.prog os ⟨#[], #[], []⟩).heap.modify 0 fun
      | .cells _ t frozen => .cells #[.string ⟨#[105, 100, 108, 101]⟩, .string ⟨#[115, 101, 105, 122, 101, 100]⟩, .string ⟨#[97, 108, 101, 114, 116, 105, 110, 103]⟩, .string ⟨#[97, 110, 115, 119, 101, 114, 101, 100]⟩, .string ⟨#[114, 101, 108, 101, 97, 115, 105, 110, 103]⟩] t frozen
      | o => o }

theorem laidWorld_met (os : Os) (args : Array Value) : laidMetH Ybad.prog laidList ((laidWorld os).forCall (fun _ _ => 0) ⟨#[], args, []⟩).memory := by
  rw [MakeChecks.laidMetH_plain _ _ _ (by kernel_rfl)]
  exact laidMet_of_run' 8 (by kernel_rfl) (by kernel_rfl)

section
variable {H : Type} {enc : TypeId × Value → H}

theorem weightsAll_mem {P : Program} {e : TypeId} {n : Nat} : ∀ {l : List (DataW H)} {d : DataW H}, d ∈ l → n ∈ d.weights P e → n ∈ DataW.weightsAll P e l
  | x :: l, d, hd, hn => by
    simp only [DataW.weightsAll, List.mem_append]
    rcases List.mem_cons.1 hd with rfl | h
    · exact Or.inl hn
    · exact Or.inr (weightsAll_mem h hn)

theorem elem_open {W : World} {base : Nat} {sp : Nat → Bool} {held : Bool} {n : Nat} {a : Addr} {d : DataW H} {p : List MemPlace} {cs : List Value}
    (h1 : W.cells? base a 3 = some cs) (h2 : DataW.trod enc Ybad.prog W base sp held n 39 cs = some (d, p)) :
    ∃ x : Wx, W.cell? (a.add 0) = some (.bool x.of) ∧ W.cell? (a.add 1) = some (.int .i64 x.want) ∧ W.cell? (a.add 2) = some (.string x.subj) ∧
      d = .agg [.lit (.bool x.of), .lit (.int .i64 x.want), .lit (.string x.subj.data.toList)] := by
  obtain ⟨y0, y1, y2, m, hx, hl, k0, k1, k2⟩ := Go.Deep.trod_struct3 Ybad.underlying39 h2
  rw [cells39] at hl
  simp only [cells4, cells3, cells9] at k0 k1 k2
  match cs, hl with
  | [c0, c1, c2], _ =>
    obtain ⟨b, hb, hb'⟩ := DataW.trod_bool Ybad.underlying4 k0
    obtain ⟨z, hz, hz', _⟩ := DataW.trod_int Ybad.underlying3 k1
    obtain ⟨s, hs, hs', _⟩ := DataW.trod_string Ybad.underlying9 k2
    simp at hb hz hs
    subst hb hz hs
    unfold World.cells? at h1
    split at h1
    · have e : List.range 3 = [0, 1, 2] := rfl
      rw [e] at h1
      simp only [List.mapM_cons, List.mapM_nil, Option.bind_eq_bind, Option.bind_eq_some_iff, Option.pure_def, Option.some.injEq] at h1
      obtain ⟨x0, q0, _, ⟨x1, q1, _, ⟨x2, q2, _, rfl, rfl⟩, rfl⟩, h⟩ := h1
      simp only [List.cons.injEq, and_true] at h
      obtain ⟨rfl, rfl, rfl⟩ := h
      refine ⟨⟨b, z, s⟩, q0, q1, q2, ?_⟩
      have := congrArg Prod.fst hx
      simp only at this
      rw [this, hb', hz', hs']
    · cases h1
end

instance : Inhabited Wx := ⟨⟨false, 0, ByteArray.empty⟩⟩

set_option maxRecDepth 100000 in
set_option maxHeartbeats 1000000 in
theorem lifted (os : Os) (started : os.Started) (H : Type) (enc : TypeId × Value → H) :
    ReturnsInHanded {} Ybad.checked os 3 .any (fun w args => (Rows.lawS3841BSettlesSpec.pre enc Ybad.prog Ybad.f3 [] false w args ∧ laidMetH Ybad.prog laidList w) ∧ sizedMet enc Ybad.prog Ybad.f3 (OpenSpec.ofChange Rows.lawS3841BSettlesSpec) false w args)
      (Rows.lawS3841BSettlesSpec.post enc Ybad.prog Ybad.f3 false true false false) := by
  refine returnsInHanded_of_change_and (C := Ybad.checked) (X := fun w _ => laidMetH Ybad.prog laidList w) (fun _ _ _ hh h => h.of_heap hh) own started (by kernel_rfl) Ybad.func3
    (ChangeSpec.witness_at (enc := enc) (C := Ybad.checked) (os := os) (X := fun w _ => laidMetH Ybad.prog laidList w) false (laidWorld os) #[.slice none 0 0, .string ByteArray.empty, .int .u8 0] 8 rfl (by kernel_rfl) (by kernel_rfl) (by kernel_rfl) (by kernel_rfl) (by kernel_rfl) (laidWorld_met os _)) ?_
  intro W base args ds gs before hval0 hW _ hwt0 hL _
  have hval : ∀ (j : Nat) t v, Ybad.f3.params[j]? = some t → args[j]? = some v → Value.okWide Ybad.prog W .any base t v := hval0
  have hwt1 : (DataW.weightsEach Ybad.prog (Ybad.f3.params.toList ++ Rows.lawS3841BSettlesSpec.plain.varTypes Ybad.prog) (ds ++ gs)).all (· ≤ reachBytes) = true := hwt0
  have hW' := hW
  obtain ⟨p, q, hA0, hV0, rfl, hfz, hnd⟩ := hW
  have hA : DataW.TrodAll enc Ybad.prog W 0 (fun _ => true) true Ybad.f3.params.toList args.toList ds p := hA0
  have hV : DataW.TrodVars enc Ybad.prog W (fun _ => true) ["example.com/trunkline/trunkline/circuit.stateNames"] gs q := hV0
  rw [Ybad.params3] at hA hval hwt1
  obtain ⟨v0, vs0, d0, ds0, p0, q0, hargs, rfl, rfl, h0, r0⟩ := trodAll_cons hA
  obtain ⟨v1, vs1, d1, ds1, p1, q1, rfl, rfl, rfl, h1, r1⟩ := trodAll_cons r0
  obtain ⟨v2, vs2, d2, ds2, p2, q2, rfl, rfl, rfl, h2, r2⟩ := trodAll_cons r1
  obtain ⟨rfl, rfl, rfl⟩ := trodAll_nil r2
  obtain rfl : args = #[v0, v1, v2] := by cases args; simp_all
  obtain ⟨g, t, cs, fuel, dg, p', rfl, hg, ht, hvar, hd, rfl⟩ := trodVars_one hV
  have k0 := h0
  have k1 := h1
  have k2 := h2
  have lt0 : ∀ x ∈ p0, x.block < W.heap.size := by obtain ⟨m, hm⟩ := k0; exact DataW.trod_lt m _ _ _ hm
  have lt1 : ∀ x ∈ p1, x.block < W.heap.size := by obtain ⟨m, hm⟩ := k1; exact DataW.trod_lt m _ _ _ hm
  have lt2 : ∀ x ∈ p2, x.block < W.heap.size := by obtain ⟨m, hm⟩ := k2; exact DataW.trod_lt m _ _ _ hm
  obtain ⟨a0, len0, cap0, rfl⟩ := okWide_slice Ybad.underlying22 (hval 0 22 v0 rfl rfl)
  obtain ⟨ending, rfl, rfl, hp1, hsz⟩ := open_string Ybad.underlying9 (hval 1 9 v1 rfl rfl) h1
  obtain ⟨nt, rfl, rfl, hp2, wnt⟩ := open_int Ybad.underlying5 (hval 2 5 v2 rfl rfl) h2
  have hidle := idle_cell hL
  have hend : ending.size ≤ 140737488355328 := by
    have := sized_string hwt1 (j := 1) (t := 9) rfl rfl
    rw [Array.length_toList] at this
    have h3 : ending.data.size = ending.size := rfl
    rw [h3] at this
    unfold reachBytes at this
    omega
  have hnt : 0 ≤ nt ∧ nt ≤ 255 := by
    have := bounds_u8 wnt
    omega
  have hcalls : Calls Ybad.prog 3 #[.slice a0 len0 cap0, .string ending, .int .u8 nt] W fun e w' => e = .returned (.bool true) ∧ Below W.heap.size W w' := by
    have hz : Calls Ybad.prog 3 #[.slice a0 0 cap0, .string ending, .int .u8 nt] W fun e w' => e = .returned (.bool true) ∧ Below W.heap.size W w' := by
      by_cases hk : nt % 8 = 0
      · exact law_zero0 a0 cap0 ending nt W hnt hk
      · exact law_zero1 a0 cap0 ending nt W hnt (nt % 8).toNat (by omega) (by omega)
    obtain ⟨fuel, hf⟩ := h0
    rcases Go.Deep.open_slice Ybad.underlying22 hf with ⟨hcs, _⟩ | ⟨a, len, cap, m, n, D, Pl, hcs, _, hlc, hcm, hm, hx, hel⟩
    · simp [Value.cells] at hcs
      obtain ⟨rfl, rfl, rfl⟩ := hcs
      exact hz
    · simp [Value.cells] at hcs
      obtain ⟨rfl, rfl, rfl⟩ := hcs
      simp only [if_true] at hm
      have hm' := hm.symm
      subst hm'
      by_cases h512 : len0 ≤ 512
      · by_cases hpos : 0 < len0
        · have hx1 := congrArg Prod.fst hx
          simp only at hx1
          subst hx1
          obtain ⟨xs, hxs⟩ := Go.Deep.choose_lt (n := cap0) (p := fun i (x : Wx) => W.cell? ((a.add (i * 3)).add 0) = some (.bool x.of) ∧ W.cell? ((a.add (i * 3)).add 1) = some (.int .i64 x.want) ∧ W.cell? ((a.add (i * 3)).add 2) = some (.string x.subj) ∧
              D i = .agg [.lit (.bool x.of), .lit (.int .i64 x.want), .lit (.string x.subj.data.toList)]) (fun i hi => by
            obtain ⟨cs', q1, q2⟩ := hel i hi
            rw [cells39] at q1
            exact elem_open q1 q2)
          obtain ⟨b, off, spot⟩ := a
          have hspot : spot = none := by
            have := (hxs 0 (by omega)).1
            simpa [Addr.add] using World.cell?_spot this
          subst hspot
          have hin : In W b off len0 xs := by
            constructor
            · intro i hi
              have := (hxs i (by omega)).1
              rw [Go.Deep.add_add, add_plain] at this
              exact this
            · intro i hi
              have := (hxs i (by omega)).2.1
              rw [Go.Deep.add_add, add_plain] at this
              exact this
            · intro i hi
              have := (hxs i (by omega)).2.2.1
              rw [Go.Deep.add_add, add_plain] at this
              exact this
          have hss : ∀ i, i < len0 → (xs i).subj.size ≤ 140737488355328 := by
            intro i hi
            have hw := List.all_eq_true.1 hwt1 (xs i).subj.size (by
              simp only [List.cons_append, DataW.weightsEach, List.mem_append]
              left
              simp only [DataW.weights, Ybad.underlying22, List.mem_cons, List.mem_append]
              right
              left
              refine weightsAll_mem (d := D i) (List.mem_map.2 ⟨i, List.mem_range.2 hi, rfl⟩) ?_
              rw [(hxs i (by omega)).2.2.2]
              simp [DataW.weights, DataW.weightsEach, Ybad.underlying39])
            have hw' : (xs i).subj.size ≤ reachBytes := by simpa using hw
            unfold reachBytes at hw'
            omega
          by_cases hk : nt % 8 = 0
          · exact law_some0 b off len0 cap0 ending nt xs W h512 hpos hin hnt hk hend hss hidle
          · exact law_some b off len0 cap0 ending nt xs W h512 hpos hin hnt (nt % 8).toNat (by omega) (by omega) hend hss hidle
        · obtain rfl : len0 = 0 := by omega
          exact hz
      · exact walk_long _ _ _ _ _ _ (by omega) (by unfold maxLen at hcm; omega)
  clear hA0 hval0
  refine hcalls.mono fun e W' ⟨he, bel⟩ => ?_
  subst he
  exact ⟨_, rfl, _, _, _, [], _, _, hW', trodAll_mk1 (shut_bool Ybad.underlying4 _),
    (trodAll_cons_mk (Below.trod laidOut (by kernel_rfl) (of_decide_eq_true (by kernel_rfl)) k0 bel lt0) (trodAll_cons_mk (Below.trod laidOut (by kernel_rfl) (of_decide_eq_true (by kernel_rfl)) k1 bel lt1)
      (trodAll_cons_mk (Below.trod laidOut (by kernel_rfl) (of_decide_eq_true (by kernel_rfl)) k2 bel lt2) trodAll_mk0))),
    Below.trodVars laidOut bel (by kernel_rfl) hV, bel.frame _, fun h => by cases h⟩

theorem over : Rows.LawS3841BSettlesSaid :=
  OpenClaim.holds_of_wide 3 Ybad.f3 rfl rfl rfl rfl rfl rfl rfl ⟨rfl, rfl, rfl, rfl, rfl⟩ rfl rfl rfl rfl rfl (by kernel_rfl) Ybad.func3 (by kernel_rfl)
    (of_decide_eq_true (by kernel_rfl)) (by unfold Func.isWrapper; first | (rw [if_pos (by decide +kernel)]; kernel_rfl) | (rw [if_neg (by decide +kernel)]; exact ⟨rfl, rfl⟩))
    (fun os started H enc _ => lifted os started H enc)
end Go.Proofs.YbulkcangDoor.RowProof
