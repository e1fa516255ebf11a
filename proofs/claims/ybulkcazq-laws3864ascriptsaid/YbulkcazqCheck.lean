import Derived.Test.YbulkcazqNear
namespace Go.Proofs.Ybulkcazq.Script
set_option linter.unusedVariables false
open Go.ChangeShapes Go.WideShapes Go.ChangeAt Go.RowKit Go.Conc Go.Proofs.Ybulkcazq.Base Go.Proofs.Ybulkcazq.Loud Go.Proofs.Ybulkcazq.Comm

def tot (ch : Nat → List Nat) : Nat → Nat
  | 0 => 0
  | k + 1 => tot ch k + (ch k).length
def kc (f : Nat → Option Nat) : Nat → Nat
  | 0 => 0
  | k + 1 => kc f k + one f k
theorem kc3 (f : Nat → Option Nat) : kc f 3 = cnt f := by simp [kc, cnt]

theorem nodup_split {a b : List Nat} {i : Nat} (h : (a ++ i :: b).Nodup) : ∀ x ∈ b, ¬ x = i := by
  rw [List.nodup_append, List.nodup_cons] at h
  intro x hx e
  subst e
  exact h.2.1.1 hx

theorem tot_le {ch : Nat → List Nat} {nx : Nat → Option Nat} {d I : Nat → Nat} {n : Nat} (h : Pl ch nx d I n) : ∀ k, tot ch k ≤ 12 * k
  | 0 => by simp [tot]
  | k + 1 => by have := tot_le h k; have := h.len k; simp only [tot]; omega
theorem kc_le (f : Nat → Option Nat) : ∀ k, kc f k ≤ k
  | 0 => by simp [kc]
  | k + 1 => by have := kc_le f k; simp only [kc, one]; split <;> omega

theorem info62 : (Yba.prog.info? 62).map (·.size) = some 21 := by kernel_rfl
theorem info41 : (Yba.prog.info? 41).map (·.size) = some 139 := by kernel_rfl
theorem neq_ptr23 (a : Addr) (w : World) : (binOp .neq 23 (.pointer (some a)) (.pointer (some a))).run Yba.prog w = .ok (.bool false) w := by
  have h := info41
  cases hq : Yba.prog.info? 41 with
  | none => rw [hq] at h; simp at h
  | some j => exact run_neq_ptr_same w a Yba.underlying23 hq
theorem neq_ptr32 (a : Addr) (w : World) : (binOp .neq 32 (.pointer (some a)) (.pointer (some a))).run Yba.prog w = .ok (.bool false) w := by
  have h := info62
  cases hq : Yba.prog.info? 62 with
  | none => rw [hq] at h; simp at h
  | some j => exact run_neq_ptr_same w a Yba.underlying32 hq

set_option maxRecDepth 100000 in
set_option maxHeartbeats 4000000 in
theorem check (w : World) (lo S M : Nat) (ch : Nat → List Nat) (X : Nat → Nat) (nx : Nat → Option Nat) (d I : Nat → Nat) (n : Nat) (hw : Wd w lo S M ch X nx d I n) (hp : Pl ch nx d I n) :
    Calls Yba.prog 7 #[ptr S] w fun e w' => e = .returned (.int .i64 ((tot ch 3 : Nat) : Int)) ∧ TouchOnly none' w w' := by
  have HW := hide hw
  have HP := hide hp
  clear hw hp
  go_enter Yba.func7, Yba.ntmps7
  go_wp2_with fail
  go_loopg [3, 4, 5] 3 (fun gk s3 s4 s5 wr => ∃ k : Nat, gk + k = 3 ∧ s5 = .int .u64 (k : Int) ∧ s3 = .int .i64 ((tot ch k : Nat) : Int) ∧ s4 = .int .i64 ((kc (fun h => ((ch h).head?).map X) k : Nat) : Int) ∧ Hid (TouchOnly none' w wr))
  case atStart => exact ⟨0, rfl, rfl, rfl, rfl, TouchOnly.refl _ _⟩
  case round =>
    obtain ⟨k, hgk, rfl, rfl, rfl, HI⟩ := hrel
    have HT := hide (tot_le (unhide HP) k)
    have HK := hide (kc_le (fun h => ((ch h).head?).map X) k)
    obtain ⟨cs, hS, hsc⟩ := ((unhide HW).keep (unhide HI)).sh
    obtain ⟨es, c, hM, hm⟩ := ((unhide HW).keep (unhide HI)).mp
    have h3 := blk_cell hS 3
    rw [hsc.m] at h3
    by_cases hk3 : k < 3
    · have hlk := (run_look wr M c k es _ hk3 hM hm).2
      have hki : (k : Int) < 3 := by omega
      have hlen := (unhide HP).len k
      have hkl := unhide HK
      have htl := unhide HT
      have hkc : kc (fun h => ((ch h).head?).map X) (k + 1) = kc (fun h => ((ch h).head?).map X) k + one (fun h => ((ch h).head?).map X) k := rfl
      clear hS hsc hM hm
      obtain ⟨K, hKe⟩ : ∃ K, kc (fun h => ((ch h).head?).map X) k = K := ⟨_, rfl⟩
      rw [hKe]
      rw [hKe] at hkl hkc
      have hKi : (K : Int) ≤ 3 := by omega
      have hTi : ((tot ch k : Nat) : Int) ≤ 40 := by omega
      have hcl : ch k = [] ∨ ∃ i0 r0, ch k = i0 :: r0 := by cases ch k <;> simp
      rcases hcl with hcl | ⟨i0, r0, hcl⟩
      case' inl =>
        simp only [hcl, List.head?_nil, Option.map_none, optr_none, Option.isSome_none] at hlk
        have hkf : kc (fun h => ((ch h).head?).map X) (k + 1) = K := by rw [hkc]; simp [one, hcl]
        have hv9 := hide (show Value.pointer none = optr ((ch k).head?.map X) by rw [hcl]; rfl)
        clear hkc hKe
        go_wp2_with fail
      case' inr =>
        simp only [hcl, List.head?_cons, Option.map_some, optr_some, Option.isSome_some] at hlk
        have hkf : kc (fun h => ((ch h).head?).map X) (k + 1) = K + 1 := by rw [hkc]; simp [one, hcl]
        have hv9 := hide (show ptr (X i0) = optr ((ch k).head?.map X) by rw [hcl]; rfl)
        clear hkc hKe
        go_wp2_with fail
      all_goals
        clear hlk h3
        go_loopg [3, 8, 9] (ch k).length (fun gk s3 s8 s9 wr => ∃ l1 l2 : List Nat, ch k = l1 ++ l2 ∧ gk = l2.length ∧ s9 = optr ((l2.head?).map X) ∧ s8 = .int .i64 ((l1.length : Nat) : Int) ∧ s3 = .int .i64 ((tot ch k + l1.length : Nat) : Int) ∧ Hid (TouchOnly none' w wr))
        case atStart => exact ⟨[], ch k, rfl, rfl, hv9, rfl, rfl, HI⟩
        case round =>
          obtain ⟨l1, l2, hch, rfl, rfl, rfl, rfl, HI2⟩ := hrel
          have hll : l1.length + l2.length = (ch k).length := by rw [hch]; simp
          cases l2 with
          | nil =>
            simp only [List.head?_nil, Option.map_none, optr_none]
            go_wp2_with fail
            go_roundg (2 - k)
            case measure => omega
            case rel =>
              exact ⟨k + 1, by omega, by simp, by simp [tot, hch], by simp [hkf], HI2⟩
          | cons i l2 =>
            simp only [List.head?_cons, Option.map_some, optr_some]
            have hi : i ∈ ch k := by rw [hch]; simp
            have hir := (unhide HP).rng k i hi
            have hpi : Pr ch i := by show i ∈ ch (i % 3); rw [hir.2]; exact hi
            have hb := (unhide HI2).keep ((unhide HW).st i hpi) (fun e => e)
            have hnx : nx i = l2.head? := Lk.mid l1 (by rw [← hch]; exact (unhide HP).lk k)
            rw [hnx] at hb
            obtain ⟨c0, c1, c2, c3, c4, c5, c6, c7, c8, _⟩ := st_cells hb
            rw [hir.2] at c6
            have hl64 : (l1.length : Int) < 64 := by simp only [List.length_cons] at hll; omega
            have hq := fun w' => neq_ptr23 ⟨S, 0, none⟩ w'
            clear hb hnx
            go_wp2_with fail
            clear c0 c1 c2 c3 c4 c5 c6 c7 c8
            have hTl : ((tot ch k + l1.length : Nat) : Int) ≤ 100 := by simp only [List.length_cons] at hll; omega
            go_loopg [10, 11] l2.length (fun gk s10 s11 wr => ∃ m1 m2 : List Nat, l2 = m1 ++ m2 ∧ gk = m2.length ∧ s11 = optr ((m2.head?).map X) ∧ s10 = .int .i64 ((m1.length : Nat) : Int) ∧ Hid (TouchOnly none' w wr))
            case atStart => exact ⟨[], l2, rfl, rfl, rfl, rfl, HI2⟩
            case round =>
              obtain ⟨m1, m2, hmm, rfl, rfl, rfl, HI3⟩ := hrel
              have hb := (unhide HI3).keep ((unhide HW).st i hpi) (fun e => e)
              have hnx : nx i = l2.head? := Lk.mid l1 (by rw [← hch]; exact (unhide HP).lk k)
              rw [hnx] at hb
              obtain ⟨c0, c1, c2, c3, c4, c5, c6, c7, c8, _⟩ := st_cells hb
              rw [hir.2] at c6
              have hml : m1.length + m2.length = l2.length := by rw [hmm]; simp
              clear hb hnx
              cases m2 with
              | nil =>
                simp only [List.head?_nil, Option.map_none, optr_none]
                go_wp2_with fail
                go_roundg l2.length
                case measure => simp
                case rel =>
                  exact ⟨l1 ++ [i], l2, by rw [hch]; simp, rfl, by simp [hmm], by simp, by simp; omega, HI3⟩
              | cons q m2 =>
                simp only [List.head?_cons, Option.map_some, optr_some]
                have hqm : q ∈ l2 := by rw [hmm]; simp
                have hqc : q ∈ ch k := by rw [hch]; simp [hqm]
                have hqr := (unhide HP).rng k q hqc
                have hpq : Pr ch q := by show q ∈ ch (q % 3); rw [hqr.2]; exact hqc
                have hqb := (unhide HI3).keep ((unhide HW).st q hpq) (fun e => e)
                have hqn : nx q = m2.head? := Lk.mid (l1 ++ i :: m1) (by have := (unhide HP).lk k; rw [hch, hmm] at this; simpa using this)
                rw [hqn] at hqb
                obtain ⟨d0, d1, d2, d3, d4, d5, _, d7, _, _⟩ := st_cells hqb
                have hqi : ¬ q = i := nodup_split (by rw [← hch]; exact (unhide HP).nd k) q hqm
                have he := fun w' => eql48_other w' hqi
                have hm64 : (m1.length : Int) < 64 := by simp only [List.length_cons] at hll hml; omega
                clear hqb hqn
                go_upto_region 25 with fail
                go_quiet (fail)
                go_wp2_with fail
                go_roundg m2.length
                case measure => simp
                case rel => exact ⟨m1 ++ [q], m2, by rw [hmm]; simp, rfl, rfl, by simp, (unhide HI3).drewN _⟩
    · obtain rfl : k = 3 := by omega
      obtain ⟨K, hKe⟩ : ∃ K, kc (fun h => ((ch h).head?).map X) 3 = K := ⟨_, rfl⟩
      have hml : es.size = K := by rw [← hKe, kc3, ← hm.len]; simp
      have h12 := blk_cell hS 12
      rw [hsc.n] at h12
      rw [hKe]
      have hn8 := (unhide HP).n8
      have hn8i : (n : Int) ≤ 8 := by omega
      have hn0 : ¬ (n : Int) < 0 := by omega
      have hKl := unhide HK
      rw [hKe] at hKl
      have hlm := hm.len
      have hln : (Builtin.len_ #[24] 3 #[.map (some M)]).run Yba.prog wr = .ok (.int .i64 (K : Int)) wr := by
        simp [Builtin.len_, run_underlying Yba.underlying24, getObj_map hM, hml, goInt]
      clear hm hsc hlm hM hml
      go_wp2_with fail
      clear h12 h3 hln hS
      go_loopg [12] 8 (fun gk s12 wr => ∃ p : Nat, gk + p = 8 ∧ s12 = .int .i64 (p : Int) ∧ Hid (TouchOnly none' w wr))
      case atStart => exact ⟨0, rfl, rfl, HI⟩
      case round =>
        obtain ⟨p, hgp, rfl, HI4⟩ := hrel
        obtain ⟨cs, hS, hsc⟩ := ((unhide HW).keep (unhide HI4)).sh
        have h12 := blk_cell hS 12
        rw [hsc.n] at h12
        by_cases hp8 : p < 8
        · have hp8i : (p : Int) < 8 := by omega
          by_cases hpn : p < n
          · have hpni : (p : Int) < n := by omega
            have hip := blk_cell hS (4 + p)
            rw [hsc.ip p hpn hp8] at hip
            have hia := (unhide HP).ia p hpn
            have hb := (unhide HI4).keep ((unhide HW).st (I p) hia.1) (fun e => e)
            rw [hia.2] at hb
            obtain ⟨c0, c1, c2, c3, c4, c5, c6, c7, c8, c20⟩ := st_cells hb
            obtain ⟨h, hh⟩ : ∃ h, I p % 3 = h := ⟨_, rfl⟩
            rw [hh] at c6
            have hfd : found ch X (I p) = ptr (X (I p)) := if_pos hia.1
            have hC : ∀ q : Near wr, Calls Yba.prog 5 #[ptr S, res (I p), .int .u64 (h : Int)] q.v (fun e w'' => e = .returned (ptr (X (I p))) ∧ ∃ q : Near wr, w'' = q.v) := fun q =>
              (zzfind q.v lo S M (I p) h hh ch X nx d I n (((unhide HW).keep (unhide HI4)).keep q.t) (unhide HP)).mono (fun e w'' ⟨he, ht⟩ => ⟨by rw [he, hfd], ⟨w'', q.t.trans ht⟩, rfl⟩)
            have n0 := near_cell c0
            have n1 := near_cell c1
            have n2 := near_cell c2
            have n3 := near_cell c3
            have n4 := near_cell c4
            have n5 := near_cell c5
            have n6 := near_cell c6
            have n20 := near_cell c20
            have hq := fun w' => neq_ptr32 ⟨X (I p), 0, none⟩ w'
            have hp1 : ((p + 1 : Nat) : Int) = (p : Int) + 1 := by omega
            clear hb hsc hS hfd hh hia
            go_upto_region 37 with fail
            clear hip h12
            refine wp_region_near (by kernel_rfl) (by kernel_rfl) ?_
            repeat (quiet_step ((go_at_call 5; exact hC _)))
            refine wpQuiet_nil ?_
            rintro _ ⟨q, rfl⟩
            go_wp2_with fail
            go_roundg (7 - p)
            case measure => omega
            case rel => exact ⟨p + 1, by omega, by simp, (unhide HI4).trans q.t⟩
          · have hpni : ¬ (p : Int) < n := by omega
            have hip := blk_cell hS (4 + p)
            rw [hsc.no p (by omega) hp8] at hip
            clear hsc hS
            go_wp2_with fail
            go_roundg (7 - p)
            case measure => omega
            case rel => exact ⟨p + 1, by omega, by simp, HI4⟩
        · obtain rfl : p = 8 := by omega
          clear hsc hS h12
          go_wp2_with fail
          go_ret
          exact ⟨rfl, unhide HI4⟩
end Go.Proofs.Ybulkcazq.Script
