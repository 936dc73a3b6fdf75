/-
  The contract of (*Client).Confirmed (function 6).
-/
import Derived.Test.YbulkaqqcLocks
import Derived.Test.YbulkaqqcMem
import Derived.Conc.MuLone
import Derived.Defers
namespace Go.Proofs.Ybulkaqqc
open Go.RowKit Go.MuLone

set_option maxHeartbeats 400000 in
theorem confirmed_any (c : Nat) (L : List Value) (oa pa : Option Addr) (on oc pn pc : Nat) (w : World) (rc : Row w c 61 L) (h5 : L[5]? = some (.int .i32 0)) (h12 : L[12]? = some (.slice oa on oc)) (h11 : L[11]? = some (.slice pa pn pc)) :
    Calls Yba.prog 6 #[.pointer (some ⟨c, 0, none⟩)] w fun e w' => e = .returned (.bool (((on : Int) == 0) && ((pn : Int) == 0))) ∧ Row w' c 61 L ∧ Fr w w' [c] ∧ w'.heap.size = w.heap.size := by
  have c5 := rc.cell 5 h5
  have z5 := rc.free 5
  have c11 := rc.cell 11 h11
  have c12 := rc.cell 12 h12
  have hl5 : 5 < L.length := (List.getElem?_eq_some_iff.1 h5).1
  have HR := hide (rc.set 5 (.int .i32 1))
  have HL : Hid ((L.set 5 (.int .i32 1)).set 5 (.int .i32 0) = L) := by
    show (L.set 5 (.int .i32 1)).set 5 (.int .i32 0) = L
    rw [List.set_set]
    apply List.ext_getElem?
    intro i
    by_cases hi : i = 5
    · subst hi; rw [List.getElem?_set_self hl5, h5]
    · rw [List.getElem?_set_ne (by omega)]
  have H5 : Hid ((L.set 5 (.int .i32 1))[5]? = some (.int .i32 1)) := List.getElem?_set_self hl5
  clear h5 h11 h12
  by_cases ho : ((on : Int) == 0) = true
  all_goals
    try simp only [Bool.not_eq_true] at ho
    go_enter_defers Yba.func6, Yba.ntmps6
    go_wp2_with (go_at_call 8; refine (lock_free muLib ⟨c, 5, none⟩ _ c5 z5).mono ?_; rintro e w' ⟨rfl, rfl⟩)
    refine leaves_cons (f := 9) (args := #[.pointer (some ⟨c, 5, none⟩)]) (by simp) (by simp [go_sem]) ?_
    refine (unlock_deferred muLib ⟨c, 5, none⟩ .returning _ (HR.out.cell 5 H5.out) (HR.out.free 5)).mono ?_
    rintro e u' w'' ⟨rfl, rfl, rfl⟩
    refine ⟨_, results_tmp rfl _ _ _, ?_, ?_, ?_, ?_⟩
    · simp [ho]
    · have := HR.out.set 5 (.int .i32 0)
      rw [HL.out] at this
      exact this
    · exact ((Fr.refl _ _).setCell _ _ (.inl (by simp))).setCell _ _ (.inl (by simp))
    · simp
end Go.Proofs.Ybulkaqqc
