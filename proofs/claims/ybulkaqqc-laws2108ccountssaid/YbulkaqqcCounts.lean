/-
  The walk of LawS2108CCounts (function 3).
-/
import Derived.Test.YbulkaqqcConfirmed
import Derived.Test.YbulkaqqcClient
namespace Go.Proofs.Ybulkaqqc
open Go.RowKit

theorem own_slice {w : World} {base : Nat} {v : Value} {k : Nat} {xs : List Value} (h : w.ownsRow base 66 2 v k xs) : ∃ a c, v = .slice a k c := by
  rcases h.2 with ⟨e, h'⟩ | ⟨g, cap, cur, e, _⟩
  · exact ⟨none, 0, by rw [e, h']⟩
  · exact ⟨_, cap, e⟩

set_option maxHeartbeats 400000 in
theorem counts_out (a0 a1 : Int) (w : World) (h : a0 < 0 ∨ 1024 < a0 ∨ a1 < 0 ∨ 1024 < a1) :
    Calls Yba.prog 3 #[.int .i64 a0, .int .i64 a1] w fun e w' => e = .returned (.bool true) ∧ w' = w := by
  by_cases h1 : a0 < 0
  · clear h
    go_enter Yba.func3, Yba.ntmps3
    go_wp2
    go_ret
    exact ⟨rfl, rfl⟩
  · by_cases h2 : 1024 < a0
    · clear h
      go_enter Yba.func3, Yba.ntmps3
      go_wp2
      go_ret
      exact ⟨rfl, rfl⟩
    · by_cases h3 : a1 < 0
      · clear h
        go_enter Yba.func3, Yba.ntmps3
        go_wp2
        go_ret
        exact ⟨rfl, rfl⟩
      · have h4 : 1024 < a1 := by omega
        clear h
        go_enter Yba.func3, Yba.ntmps3
        go_wp2
        go_ret
        exact ⟨rfl, rfl⟩

set_option maxHeartbeats 400000 in
theorem counts_in (no np : Nat) (w : World) (h1 : no ≤ 1024) (h2 : np ≤ 1024) :
    Calls Yba.prog 3 #[.int .i64 no, .int .i64 np] w fun e w' => e = .returned (.bool true) ∧ Below w.heap.size w w' := by
  have g1 : ¬ ((no : Int) < 0) := by omega
  have g2 : ¬ ((1024 : Int) < no) := by omega
  have g3 : ¬ ((np : Int) < 0) := by omega
  have g4 : ¬ ((1024 : Int) < np) := by omega
  cases ho : ((no : Int) == 0) <;> cases hp : ((np : Int) == 0)
  all_goals
    go_enter Yba.func3, Yba.ntmps3
    go_wp2_with fail
    refine (client_any no np h1 h2 w).mono ?_
    rintro e w1 ⟨rfl, oa, oc, v, R⟩
    obtain ⟨pa, pc, hv⟩ := own_slice R.own
    subst hv
    go_wp2_with fail
    refine (confirmed_any w.heap.size _ oa pa no oc np pc w1 R.rc rfl rfl rfl).mono ?_
    rintro e w2 ⟨rfl, r2, f2, s2⟩
    rw [ho, hp]
    have c11 := r2.cell 11 (v := .slice pa np pc) rfl
    have c12 := r2.cell 12 (v := .slice oa no oc) rfl
    have HF : Hid (Fr w w2 []) := R.fr.step f2 (fun x hx => .inr (by simp at hx; omega))
    clear R r2 f2 s2
    go_wp2
    go_ret
    exact ⟨rfl, HF.out.toBelow (Nat.le_refl _) (by simp)⟩

end Go.Proofs.Ybulkaqqc
