import Derived.Test.YbulkcaqmDoorKeep
import Derived.Laws.BytesArg
import Derived.Stop.Asserts
import Derived.RowKitTokens
namespace Go.Proofs.YbulkcaqmDoor.Spool
set_option linter.unusedVariables false
open Go.ChangeShapes Go.WideShapes Go.ChangeAt Go.RowKit Go.Conc Go.Proofs.YbulkcaqmDoor.Base Go.Proofs.YbulkcaqmDoor.Loud
open Go.Extern

theorem isTypeOf (v : Value) (w : World) : (Extern.ReflectliteType.typeOf #[.iface 93 v]).run Ybad.prog w = .ok (.iface 126 (.agg #[.pointer (some ⟨5, 93, none⟩)])) w := by kernel_rfl
noncomputable def cmpX : Array Value → Sem Value := Extern.ReflectliteType.method fun t => do Extern.Rtype.noPackHeld "Comparable" t; pure (.bool (← typeInfo t).comparable)
theorem isComparable (w : World) : (cmpX #[.agg #[.pointer (some ⟨5, 93, none⟩)]]).run Ybad.prog w = .ok (.bool true) w := by kernel_rfl
theorem isMethodComparable (v : Value) (w : World) : (Go.method 314 126 v "Comparable").run Ybad.prog w = .ok (106, v) w := by kernel_rfl

/-- errors.Is(x, x), x a pointer to an errors.errorString. -/
theorem is_same (a : Addr) (w : World) :
    Calls Ybad.prog 18 #[.iface 93 (.pointer (some a)), .iface 93 (.pointer (some a))] w fun e w' => e = .returned (.bool true) ∧ w' = w := by
  have h27 := @run_callFunc_extern Ybad.prog 27 _ Extern.ReflectliteType.typeOf Ybad.func27 (by kernel_rfl) (by kernel_rfl) (by kernel_rfl) (by kernel_rfl)
  have h106 := @run_callFunc_extern Ybad.prog 106 _ cmpX Ybad.func106 (by kernel_rfl) (by kernel_rfl) (by kernel_rfl) (by kernel_rfl)
  have tT := isTypeOf
  have cT := isComparable
  have mR := isMethodComparable
  have heq := eq_same a
  go_enter Ybad.func18, Ybad.ntmps18
  go_wp2
  refine wp_loop_rounds 1 ?_
  rw [rounds_succ]
  go_wp2
  go_ret
  exact ⟨rfl, rfl⟩

theorem errNew (s : ByteArray) (w : World) : Calls Ybad.prog 17 #[.string s] w fun e w' => e = .returned (.iface 93 (ptr w.heap.size)) ∧ w' = w.alloc (.cells #[.string s] 95) := by
  go_enter Ybad.func17, Ybad.ntmps17
  go_wp2
  go_ret
  exact ⟨rfl, rfl⟩

/-- the slice v reads as the first n bytes of K -/
def Reads (w : World) (v : Value) (n : Nat) (K : Nat → Int) : Prop := ∃ a cap, v = .slice a n cap ∧ (0 < n → ∃ b off, a = some ⟨b, off, none⟩ ∧ ∀ i, i < n → w.cell? ⟨b, off + i, none⟩ = some (.int .u8 (K i)))

def strK (K : Nat → Int) (n : Nat) : ByteArray := strOfNums ((List.range n).map K)

theorem conv_reads {w : World} {v : Value} {n : Nat} {K : Nat → Int} (h : Reads w v n K) : (convert 45 9 v).run Ybad.prog w = .ok (.string (strK K n)) w := by
  obtain ⟨a, cap, rfl, hc⟩ := h
  by_cases hn : 0 < n
  · obtain ⟨b, off, rfl, hcell⟩ := hc hn
    exact run_convert_bytes_arg w 45 5 Ybad.underlying45 Ybad.underlying5 b off n cap ((List.range n).map K) (by simp) (fun i hi => by rw [hcell i hi]; simp [List.getD, hi]) 9 Ybad.underlying9
  · obtain rfl : n = 0 := by omega
    rw [run_convert_bytes_string w 45 9 5 a 0 cap Ybad.underlying45 Ybad.underlying5 Ybad.underlying9]
    cases a with
    | none => simp [Conv.bytesToString, strK, strOfNums]; rfl
    | some a => simp [Conv.bytesToString, loadCells, loadCellsFrom, strK, strOfNums]; rfl

theorem equal_any (w : World) (v1 v2 : Value) (n : Nat) (K : Nat → Int) (h1 : Reads w v1 n K) (h2 : Reads w v2 n K) : Calls Ybad.prog 15 #[v1, v2] w fun e w' => e = .returned (.bool true) ∧ w' = w := by
  have e1 := conv_reads h1
  have e2 := conv_reads h2
  clear h1 h2
  go_enter Ybad.func15, Ybad.ntmps15
  go_wp2
  go_ret
  exact ⟨rfl, rfl⟩
end Go.Proofs.YbulkcaqmDoor.Spool
