/-
  The contracts of zzs2102cwant (6), WithSpill (5) and its option (7).
-/
import Derived.Test.YbulkaqmwRRRows
import Derived.Test.YbulkaqmwRRMem
import Derived.WalkLawsBesides
namespace Go.Proofs.YbulkaqmwRR
open Go.RowKit

def wantZ (t : Int) : Int := if t < 65536 then 1 else t / 65536
set_option maxHeartbeats 400000 in
theorem want_any (t : Int) (h1 : -9223372036854775808 ≤ t) (h2 : t ≤ 9223372036854775807) (w : World) :
    Calls Yba.prog 6 #[.int .i64 t] w fun e w' => e = .returned (.int .i64 (wantZ t)) ∧ w' = w := by
  by_cases h : t < 65536
  · have : wantZ t = 1 := by unfold wantZ; rw [if_pos h]
    rw [this]
    clear this
    go_enter Yba.func6, Yba.ntmps6
    go_wp2
    go_ret
    exact ⟨rfl, rfl⟩
  · have : wantZ t = t / 65536 := by unfold wantZ; rw [if_neg h]
    rw [this]
    clear this
    go_enter Yba.func6, Yba.ntmps6
    go_wp2
    go_ret
    exact ⟨rfl, rfl⟩
theorem wantZ_low (t : Int) (h : t.tdiv 65536 < 1) : wantZ t = 1 := by
  unfold wantZ
  by_cases h' : t < 65536
  · rw [if_pos h']
  · rw [if_neg h']
    rw [Int.tdiv_eq_ediv_of_nonneg (by omega)] at h
    omega
theorem wantZ_high (t : Int) (h : 1 ≤ t.tdiv 65536) : wantZ t = t.tdiv 65536 := by
  unfold wantZ
  by_cases h' : t < 65536
  · rw [if_pos h']
    by_cases h0 : 0 ≤ t
    · rw [Int.tdiv_eq_ediv_of_nonneg h0] at h ⊢
      omega
    · have : t.tdiv 65536 ≤ 0 := by
        have h3 : (-t).tdiv 65536 = - t.tdiv 65536 := Int.neg_tdiv ..
        have h4 : (-t).tdiv 65536 = (-t) / 65536 := Int.tdiv_eq_ediv_of_nonneg (by omega)
        omega
      omega
  · rw [if_neg h', Int.tdiv_eq_ediv_of_nonneg (by omega)]
theorem wantZ_pos (t : Int) : 1 ≤ wantZ t := by
  unfold wantZ
  by_cases h' : t < 65536
  · rw [if_pos h']; omega
  · rw [if_neg h']; omega
/-- The spill file that the option makes. -/
def spillL (dir : ByteArray) (q : Int) : List Value := [.string dir, .int .i64 q, .string ⟨#[]⟩, .int .i64 0, .pointer none, .bool false]

set_option maxHeartbeats 400000 in
theorem opt_any (t q : Int) (HQ : Hid (q = wantZ t)) (dir : ByteArray) (s p1 p2 : Nat) (L : List Value) (old : Value) (h1 : -9223372036854775808 ≤ t) (h2 : t ≤ 9223372036854775807) (w : World)
   (r1 : Row w p1 9 [.string dir]) (r2 : Row w p2 2 [.int .i64 t]) (rs : Row w s 45 L) (ho : L[3]? = some old) :
    Calls Yba.prog 7 #[.pointer (some ⟨s, 0, none⟩), .pointer (some ⟨p1, 0, none⟩), .pointer (some ⟨p2, 0, none⟩)] w fun e w' => e = .returned (.tuple #[]) ∧
      Row w' s 45 (L.set 3 (.pointer (some ⟨w.heap.size, 0, none⟩))) ∧ Row w' w.heap.size 48 (spillL dir q) ∧ Fr w w' [s] ∧ w'.heap.size = w.heap.size + 1 := by
  have hc1 := r1.cell 0 (v := .string dir) rfl
  have hc2 := r2.cell 0 (v := .int .i64 t) rfl
  have hs := rs.cell 3 ho
  have hf := rs.free 3
  have hl := rs.lt
  have HE : ∀ w', w' = (w.setCell ⟨s, 3, none⟩ (.pointer (some ⟨w.heap.size, 0, none⟩))).alloc (.cells #[.string dir, .int .i64 q, .string ⟨#[]⟩, .int .i64 0, .pointer none, .bool false] 48) →
      Row w' s 45 (L.set 3 (.pointer (some ⟨w.heap.size, 0, none⟩))) ∧ Row w' w.heap.size 48 (spillL dir q) ∧ Fr w w' [s] ∧ w'.heap.size = w.heap.size + 1 := by
    rintro w' rfl
    refine ⟨(rs.set 3 _).alloc _, ?_, ((Fr.refl _ _).setCell _ _ (.inl (by simp))).alloc _, by simp⟩
    have := Row.new (w.setCell ⟨s, 3, none⟩ (.pointer (some ⟨w.heap.size, 0, none⟩))) 48 (spillL dir q)
    rw [show (w.setCell ⟨s, 3, none⟩ (.pointer (some ⟨w.heap.size, 0, none⟩))).heap.size = w.heap.size by simp] at this
    exact this
  have HE' := hide HE
  clear HE
  go_enter Yba.func7, Yba.ntmps7
  go_wp2
  · have hq : q = 1 := by rw [HQ.out]; exact wantZ_low t (by assumption)
    go_end0
    exact ⟨rfl, HE'.out _ (by rw [hq])⟩
  · have hq : q = t.tdiv 65536 := by rw [HQ.out]; exact wantZ_high t (by assumption)
    go_end0
    exact ⟨rfl, HE'.out _ (by rw [hq])⟩

set_option maxHeartbeats 400000 in
theorem spill_any (t : Int) (dir : ByteArray) (w : World) :
    Calls Yba.prog 5 #[.string dir, .int .i64 t] w fun e w' => e = .returned (.func (.func 7) #[] #[.pointer (some ⟨w.heap.size, 0, none⟩), .pointer (some ⟨w.heap.size + 1, 0, none⟩)]) ∧
      Row w' w.heap.size 9 [.string dir] ∧ Row w' (w.heap.size + 1) 2 [.int .i64 t] ∧ Fr w w' [] ∧ w'.heap.size = w.heap.size + 1 + 1 := by
  go_enter Yba.func5, Yba.ntmps5
  go_wp2
  go_ret
  refine ⟨rfl, (Row.new w 9 [.string dir]).alloc _, ?_, ((Fr.refl _ _).alloc _).alloc _, by simp⟩
  have := Row.new (w.alloc (.cells #[.string dir] 9)) 2 [.int .i64 t]
  rw [show (w.alloc (.cells #[.string dir] 9)).heap.size = w.heap.size + 1 by simp] at this
  exact this

/-- The zero Stream. -/
def streamL : List Value := [.nilIface, .bool false, .int .i64 0, .pointer none, .int .i32 0, .int .u32 0, .int .i32 0, .int .u32 0, .slice none 0 0, .int .i64 0, .int .i64 0, .int .i64 0, .nilIface, .int .i64 0, .nilIface, .chan none, .chan none, .pointer none, .int .i64 0, .bool false, .int .i64 0, .int .i64 0, .chan none, .nilFunc, .bool false] ++ List.replicate 32 (.int .u8 0) ++ [.int .i64 0] ++ List.replicate 32 (.int .u8 0) ++ [.string ⟨#[]⟩, .chan none, .chan none]
def streamA : Array Value := streamL.toArray
theorem zero45 (w : World) : (zeroValue 45).run Yba.prog w = .ok (.agg streamA) w := by kernel_rfl
theorem streamL_length : streamL.length = 93 := by kernel_rfl
theorem streamL_3 : streamL[3]? = some (.pointer none) := by kernel_rfl

end Go.Proofs.YbulkaqmwRR
