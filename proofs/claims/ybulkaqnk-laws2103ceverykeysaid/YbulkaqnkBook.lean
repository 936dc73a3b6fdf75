/-
  The contract of (*Exchange).book (function 6).
-/
import Derived.Test.YbulkaqnkLocks
import Derived.Test.YbulkaqnkMem
import Derived.Conc.RwLone
import Derived.Defers
namespace Go.Proofs.Ybulkaqnk
open Go.RowKit Go.RwLone

/-- The Exchange that New makes, its three maps at b1, gm, b3. -/
def exL (b1 gm b3 : Nat) : List Value := [.nilFunc, .int .i32 0, .int .u32 0, .int .u32 0, .int .u32 0, .int .i32 0, .int .i32 0, .map (some b1), .map (some gm), .map (some b3), .int .u32 0, .int .i32 0, .int .u32 0, .pointer none, .nilFunc, .nilFunc, .int .u64 0, .pointer none]
theorem exL_lock (b1 gm b3 : Nat) : ((exL b1 gm b3).set 5 (.int .i32 1)).set 5 (.int .i32 0) = exL b1 gm b3 := rfl
theorem zero27 (w : World) : (zeroValue 27).run Yba.prog w = .ok (.pointer none) w := by kernel_rfl

theorem w32_up : wrap32 (0 + 1) = 1 := by simp [wrap32]
theorem w32_down : wrap32 (1 + -1) = 0 := by simp [wrap32]
theorem rlock_at (x : Nat) (v1 v4 : Value) (w : World) (c1 : w.cell? ⟨x, 1, none⟩ = some v1) (c4 : w.cell? ⟨x, 4, none⟩ = some v4) (c5 : w.cell? ⟨x, 5, none⟩ = some (.int .i32 0)) (z5 : w.frozen? ⟨x, 5, none⟩ = false) :
    Calls Yba.prog 9 #[.pointer (some ⟨x, 1, none⟩)] w fun e w' => e = .returned (.tuple #[]) ∧ w' = w.setCell ⟨x, 5, none⟩ (.int .i32 1) := by
  have h := rlock_open rwRLib x 1 0 v1 v4 w c1 c4 c5 z5 (by rw [w32_up]; omega)
  rw [w32_up] at h
  exact h
theorem runlock_at (x : Nat) (v1 v3 : Value) (u : FrameMode) (w : World) (c1 : w.cell? ⟨x, 1, none⟩ = some v1) (c3 : w.cell? ⟨x, 3, none⟩ = some v3) (c5 : w.cell? ⟨x, 5, none⟩ = some (.int .i32 1)) (z5 : w.frozen? ⟨x, 5, none⟩ = false) :
    CallsD Yba.prog 10 #[.pointer (some ⟨x, 1, none⟩)] u w fun e u' w' => u' = u ∧ (e = .returned (.tuple #[]) ∧ w' = w.setCell ⟨x, 5, none⟩ (.int .i32 0)) := by
  have h := runlock_deferred rwRLib x 1 1 v1 v3 u w c1 c3 c5 z5 (by rw [w32_down]; omega)
  rw [w32_down] at h
  exact h

set_option maxHeartbeats 400000 in
theorem book_any (x b1 gm b3 : Nat) (M : List (ByteArray × Nat)) (q : ByteArray) (w : World) (rx : Row w x 65 (exL b1 gm b3)) (mg : MapIs w gm M) (hne : gm ≠ x) :
    Calls Yba.prog 6 #[.pointer (some ⟨x, 0, none⟩), .string q] w fun e w' =>
      (∃ v, e = .returned v ∧ ((∃ b, (q, b) ∈ M ∧ v = .pointer (some ⟨b, 0, none⟩)) ∨ ((∀ p ∈ M, p.1 ≠ q) ∧ v = .pointer none))) ∧ Row w' x 65 (exL b1 gm b3) ∧ MapIs w' gm M ∧ Fr w w' [x] ∧ w'.heap.size = w.heap.size := by
  have c1 := rx.cell 1 (v := .int .i32 0) rfl
  have c3 := rx.cell 3 (v := .int .u32 0) rfl
  have c4 := rx.cell 4 (v := .int .u32 0) rfl
  have c5 := rx.cell 5 (v := .int .i32 0) rfl
  have c8 := rx.cell 8 (v := .map (some gm)) rfl
  have z5 := rx.free 5
  obtain ⟨v, hv, hor⟩ := (mg.other ⟨x, 5, none⟩ (.int .i32 1) hne).look (P := Yba.prog) Yba.underlying43 Yba.underlying9 zero27 q
  have HOR := hide hor
  have HR := hide (rx.set 5 (.int .i32 1))
  clear hor
  go_enter_defers Yba.func6, Yba.ntmps6
  go_wp2_with (go_at_call 9; refine (rlock_at x _ _ _ c1 c4 c5 z5).mono ?_; rintro e w' ⟨rfl, rfl⟩)
  refine leaves_cons (f := 10) (args := #[.pointer (some ⟨x, 1, none⟩)]) (by simp) (by simp [go_sem]) ?_
  refine (runlock_at x _ _ .returning _ (HR.out.cell 1 (v := .int .i32 0) rfl) (HR.out.cell 3 (v := .int .u32 0) rfl) (HR.out.cell 5 (v := .int .i32 1) rfl) (HR.out.free 5)).mono ?_
  rintro e u' w'' ⟨rfl, rfl, rfl⟩
  refine ⟨_, results_tmp rfl _ _ _, ⟨v, rfl, HOR.out⟩, ?_, ?_, ?_, ?_⟩
  · rw [← exL_lock b1 gm b3]; exact HR.out.set 5 _
  · exact (mg.other _ _ hne).other _ _ hne
  · exact ((Fr.refl _ _).setCell _ _ (.inl (by simp))).setCell _ _ (.inl (by simp))
  · simp
end Go.Proofs.Ybulkaqnk
