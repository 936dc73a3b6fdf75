/-
  The walk of LawS2102CKeepsRest (function 4).
-/
import Derived.Test.YbulkaqmwRRSpill
import Derived.LaidEqlPtr
namespace Go.Proofs.YbulkaqmwRR
open Go.RowKit

/-- The Stream that the law lays, its spill file at block g. -/
def keptL (lim size : Int) (sealed : Bool) (g : Nat) : List Value := (((streamL.set 2 (.int .i64 lim)).set 11 (.int .i64 size)).set 19 (.bool sealed)).set 3 (.pointer (some ⟨g, 0, none⟩))
theorem kept_2 (lim size : Int) (sealed : Bool) (g : Nat) : (keptL lim size sealed g)[2]? = some (.int .i64 lim) := by kernel_rfl
theorem kept_11 (lim size : Int) (sealed : Bool) (g : Nat) : (keptL lim size sealed g)[11]? = some (.int .i64 size) := by kernel_rfl
theorem kept_19 (lim size : Int) (sealed : Bool) (g : Nat) : (keptL lim size sealed g)[19]? = some (.bool sealed) := by kernel_rfl
theorem kept_0 (lim size : Int) (sealed : Bool) (g : Nat) : (keptL lim size sealed g)[0]? = some .nilIface := by kernel_rfl
theorem kept_8 (lim size : Int) (sealed : Bool) (g : Nat) : (keptL lim size sealed g)[8]? = some (.slice none 0 0) := by kernel_rfl
theorem kept_3 (lim size : Int) (sealed : Bool) (g : Nat) : (keptL lim size sealed g)[3]? = some (.pointer (some ⟨g, 0, none⟩)) := by kernel_rfl
theorem kept_set (lim size : Int) (sealed : Bool) (g g' : Nat) : (keptL lim size sealed g).set 3 (.pointer (some ⟨g', 0, none⟩)) = keptL lim size sealed g' := by simp [keptL]
def oldL : List Value := [.string ⟨#[111, 108, 100]⟩, .int .i64 7, .string ⟨#[120]⟩, .int .i64 3, .pointer none, .bool false]
theorem kept_row (w : World) (o : Obj) (lim size : Int) (sealed : Bool) : Row ((w.alloc o).alloc (.cells ((((streamA.setIfInBounds 2 (.int .i64 lim)).setIfInBounds 11 (.int .i64 size)).setIfInBounds 19 (.bool sealed)).setIfInBounds 3 (.pointer (some ⟨w.heap.size, 0, none⟩))) 45)) (w.heap.size + 1) 45 (keptL lim size sealed w.heap.size) := by
  have := Row.new (w.alloc o) 45 (keptL lim size sealed w.heap.size)
  rw [show (w.alloc o).heap.size = w.heap.size + 1 by simp] at this
  have e : (keptL lim size sealed w.heap.size).toArray = (((streamA.setIfInBounds 2 (.int .i64 lim)).setIfInBounds 11 (.int .i64 size)).setIfInBounds 19 (.bool sealed)).setIfInBounds 3 (.pointer (some ⟨w.heap.size, 0, none⟩)) := by
    simp [keptL, streamA]
  rwa [e] at this

theorem info48 : (Yba.prog.info? 48).map (fun i => (i.zero, i.size, i.bytes)) = some (some (.agg #[.string ⟨#[]⟩, .int .i64 0, .string ⟨#[]⟩, .int .i64 0, .pointer none, .bool false]), 6, 64) := by kernel_rfl
theorem eql_other (w : World) (g g' : Nat) (L L' : List Value) (hne : g ≠ g') (h : Row w g 48 L) (h' : Row w g' 48 L') : (binOp .eql 28 (.pointer (some ⟨g, 0, none⟩)) (.pointer (some ⟨g', 0, none⟩))).run Yba.prog w = .ok (.bool false) w := by
  obtain ⟨i0, hi, hz0, hz1, hz2⟩ := info_parts info48
  exact run_eql_ptr_other w Yba.underlying28 hi (by rw [hz1]; omega) (fun e => hne (congrArg Addr.block e)) h h'
theorem neq_other (w : World) (g g' : Nat) (L L' : List Value) (hne : g ≠ g') (h : Row w g 48 L) (h' : Row w g' 48 L') : (binOp .neq 28 (.pointer (some ⟨g, 0, none⟩)) (.pointer (some ⟨g', 0, none⟩))).run Yba.prog w = .ok (.bool true) w := by
  obtain ⟨i0, hi, hz0, hz1, hz2⟩ := info_parts info48
  have hk : ∀ d : Nat, (Op.equalIn (d + 1) 28 (.pointer (some ⟨g, 0, none⟩)) (.pointer (some ⟨g', 0, none⟩))).run Yba.prog w = .ok false w := fun d => by
    simp [Op.equalIn, run_underlying Yba.underlying28, sizeOf, typeInfo, hi, hz1, run_sameAddr_other w (a := ⟨g, 0, none⟩) (b := ⟨g', 0, none⟩) (fun e => hne (congrArg Addr.block e)) h h']
  simp only [binOp]
  simp [Op.equal, Op.maxDepth, hk 9999]

set_option maxRecDepth 10000 in
set_option maxHeartbeats 400000 in
theorem keeps_any (a0 : ByteArray) (a1 lim size : Int) (sealed : Bool) (h1 : -9223372036854775808 ≤ a1) (h2 : a1 ≤ 9223372036854775807) (w : World) :
    Calls Yba.prog 4 #[.string a0, .int .i64 a1, .int .i64 lim, .int .i64 size, .bool sealed] w fun e w' => e = .returned (.bool true) ∧ Below w.heap.size w w' := by
  obtain ⟨q, hq⟩ : ∃ q, q = wantZ a1 := ⟨_, rfl⟩
  have hq1 : 1 ≤ q := by rw [hq]; exact wantZ_pos a1
  have HQ := hide hq
  have HWANT : ∀ w, Calls Yba.prog 6 #[.int .i64 a1] w fun e w' => e = .returned (.int .i64 q) ∧ w' = w := by
    intro w; rw [hq]; exact want_any a1 h1 h2 w
  have HW := hide HWANT
  clear hq HWANT
  have hz0 := zero45
  have hz : streamA.size = 93 := by simp [streamA, streamL_length]
  have HR := hide (kept_row w (.cells oldL.toArray 48) lim size sealed)
  have HO := hide ((Row.new w 48 oldL).alloc (.cells ((((streamA.setIfInBounds 2 (.int .i64 lim)).setIfInBounds 11 (.int .i64 size)).setIfInBounds 19 (.bool sealed)).setIfInBounds 3 (.pointer (some ⟨w.heap.size, 0, none⟩))) 45))
  go_enter Yba.func4, Yba.ntmps4
  go_wp2_with fail
  refine (spill_any a1 a0 _).mono ?_
  rintro e w1 ⟨rfl, r1, r2, f1, s1⟩
  have ro := HO.out.fr f1 (by simp)
  have rs := HR.out.fr f1 (by simp)
  have fw : Fr w w1 [] := (((Fr.refl w []).alloc _).alloc _).trans f1
  simp only [World.size_alloc] at r1 r2 s1
  clear HR HO f1
  go_wp2_with fail
  refine (opt_any a1 q HQ a0 (w.heap.size + 1) (w.heap.size + 1 + 1) (w.heap.size + 1 + 1 + 1) (keptL lim size sealed w.heap.size) _ h1 h2 w1 r1 r2 rs (kept_3 ..)).mono ?_
  rintro e w2 ⟨rfl, rs2, rf2, f2, s2⟩
  rw [s1] at rs2 rf2 s2
  rw [kept_set] at rs2
  have ro2 := ro.fr f2 (by rw [List.mem_singleton]; omega)
  have r12 := r1.fr f2 (by rw [List.mem_singleton]; omega)
  have r22 := r2.fr f2 (by rw [List.mem_singleton]; omega)
  have he := eql_other w2 _ _ _ _ (by omega) rf2 ro2
  have fw2 : Fr w w2 [] := fw.step f2 (fun b hb => .inr (by simp at hb; subst hb; omega))
  have c0 := rs2.cell 0 (kept_0 ..)
  have c2 := rs2.cell 2 (kept_2 ..)
  have c3 := rs2.cell 3 (kept_3 ..)
  have c8 := rs2.cell 8 (kept_8 ..)
  have c11 := rs2.cell 11 (kept_11 ..)
  have c19 := rs2.cell 19 (kept_19 ..)
  have d0 := rf2.cell 0 (v := .string a0) rfl
  have d1 := rf2.cell 1 (v := .int .i64 q) rfl
  have d2 := rf2.cell 2 (v := .string ⟨#[]⟩) rfl
  have o0 := ro2.cell 0 (v := .string ⟨#[111, 108, 100]⟩) rfl
  have o1 := ro2.cell 1 (v := .int .i64 7) rfl
  have o2 := ro2.cell 2 (v := .string ⟨#[120]⟩) rfl
  have o3 := ro2.cell 3 (v := .int .i64 3) rfl
  clear ro rs r1 r2 fw f2 s1 hz
  go_wp2_with fail
  go_quiet ((go_at_call 6; exact Calls.quiet_of_same (HW.out _)))
  clear he c0 c2 c8 c11 c19 d2 o0 o1 o2 o3
  go_wp2_with fail
  have sd : (w2.drewN nq).heap.size = w.heap.size + 1 + 1 + 1 + 1 + 1 := s2
  have rnew := Row.new (w2.drewN nq) 45 streamL
  rw [sd] at rnew
  refine (opt_any a1 q HQ a0 (w.heap.size + 1 + 1 + 1 + 1 + 1) (w.heap.size + 1 + 1) (w.heap.size + 1 + 1 + 1) streamL (.pointer none) h1 h2 ((w2.drewN nq).alloc (.cells streamA 45)) ((r12.drewN nq).alloc _) ((r22.drewN nq).alloc _) rnew streamL_3).mono ?_
  rintro e w4 ⟨rfl, rs4, rf4, f4, s4⟩
  rw [show ((w2.drewN nq).alloc (.cells streamA 45)).heap.size = w.heap.size + 1 + 1 + 1 + 1 + 1 + 1 by rw [World.size_alloc, sd]] at rs4 rf4
  have rs24 := ((rs2.drewN nq).alloc (.cells streamA 45)).fr f4 (by rw [List.mem_singleton]; omega)
  have rf24 := ((rf2.drewN nq).alloc (.cells streamA 45)).fr f4 (by rw [List.mem_singleton]; omega)
  have hn : ∀ n, (binOp .neq 28 (.pointer (some ⟨w.heap.size + 1 + 1 + 1 + 1 + 1 + 1, 0, none⟩)) (.pointer (some ⟨w.heap.size + 1 + 1 + 1 + 1, 0, none⟩))).run Yba.prog (w4.drewN n) = .ok (.bool true) (w4.drewN n) := fun n => neq_other _ _ _ _ _ (by omega) (rf4.drewN n) (rf24.drewN n)
  have HF : Hid (Fr w w4 []) := ((fw2.drewN nq).alloc _).step f4 (fun b hb => .inr (by simp at hb; subst hb; omega))
  have x3 := rs24.cell 3 (kept_3 ..)
  have y3 := rs4.cell 3 (by rw [List.getElem?_set_self (by rw [streamL_length]; omega)])
  have x0 := rf24.cell 0 (v := .string a0) rfl
  have x1 := rf24.cell 1 (v := .int .i64 q) rfl
  have y0 := rf4.cell 0 (v := .string a0) rfl
  have y1 := rf4.cell 1 (v := .int .i64 q) rfl
  clear hz0 rs2 rf2 s2 ro2 r12 r22 fw2 c3 d0 d1 sd rs4 rf4 f4 s4 rs24 rf24 rnew
  go_wp2_with fail
  go_quiet (fail)
  go_wp2
  go_ret
  exact ⟨rfl, (HF.out.drewN _).toBelow (Nat.le_refl _) (by simp)⟩
end Go.Proofs.YbulkaqmwRR
