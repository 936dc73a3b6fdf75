/-
  The walk of LawS2102CFields (function 3).
-/
import Derived.Test.YbulkaqmwRRSpill
namespace Go.Proofs.YbulkaqmwRR
open Go.RowKit

set_option maxRecDepth 10000 in
set_option maxHeartbeats 400000 in
theorem fields_any (a0 : ByteArray) (a1 : Int) (h1 : -9223372036854775808 ≤ a1) (h2 : a1 ≤ 9223372036854775807) (w : World) :
    Calls Yba.prog 3 #[.string a0, .int .i64 a1] w fun e w' => e = .returned (.bool true) ∧ Below w.heap.size w w' := by
  obtain ⟨q, hq⟩ : ∃ q, q = wantZ a1 := ⟨_, rfl⟩
  have hq1 : 1 ≤ q := by rw [hq]; exact wantZ_pos a1
  have HQ := hide hq
  clear hq
  have hz0 := zero45
  go_enter Yba.func3, Yba.ntmps3
  go_wp2_with fail
  refine (spill_any a1 a0 _).mono ?_
  rintro e w1 ⟨rfl, r1, r2, f1, s1⟩
  have S1 := hide s1
  clear s1
  go_wp2_with fail
  refine (opt_any a1 q HQ a0 w1.heap.size w.heap.size (w.heap.size + 1) streamL (.pointer none) h1 h2 (w1.alloc (.cells streamA 45)) (r1.alloc _) (r2.alloc _) (Row.new w1 45 streamL) streamL_3).mono ?_
  rintro e w2 ⟨rfl, rs, rf, f2, s2⟩
  rw [show (w1.alloc (.cells streamA 45)).heap.size = w1.heap.size + 1 by simp] at rs rf
  have HF : Hid (Fr w w2 []) := (f1.alloc _).step f2 (fun b hb => .inr (by simp at hb; subst hb; have := f1.size; omega))
  have c3 := rs.cell 3 (by rw [List.getElem?_set_self (by rw [streamL_length]; omega)])
  have d0 := rf.cell 0 (v := .string a0) rfl
  have d1 := rf.cell 1 (v := .int .i64 q) rfl
  have d2 := rf.cell 2 (v := .string ⟨#[]⟩) rfl
  have d3 := rf.cell 3 (v := .int .i64 0) rfl
  have d4 := rf.cell 4 (v := .pointer none) rfl
  have d5 := rf.cell 5 (v := .bool false) rfl
  have HWANT : ∀ w, Calls Yba.prog 6 #[.int .i64 a1] w fun e w' => e = .returned (.int .i64 q) ∧ w' = w := by
    intro w; rw [HQ.out]; exact want_any a1 h1 h2 w
  have HW := hide HWANT
  clear hz0 rs rf f1 f2 s2 r1 r2 HWANT
  go_wp2_with fail
  go_quiet ((go_at_call 6; exact Calls.quiet_of_same (HW.out _)))
  go_wp2
  go_ret
  exact ⟨rfl, (HF.out.drewN _).toBelow (Nat.le_refl _) (by simp)⟩
end Go.Proofs.YbulkaqmwRR
