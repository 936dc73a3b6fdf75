/-
  The walk of LawS2108CAfterConfirm (function 4).
-/
import Derived.Test.YbulkaqqcConfirmed
import Derived.Test.YbulkaqqcConfirm
namespace Go.Proofs.Ybulkaqqc
open Go.RowKit

theorem confirm_cl {w w1 : World} {ov v : Value} {np : Nat} (R : Cl w w1 ov v np) (hnp : np ≤ 1024) (k : Nat) :
    Calls Yba.prog 7 #[.pointer (some ⟨w.heap.size, 0, none⟩), .int .u64 k] w1 fun e w2 => e = .returned (.tuple #[]) ∧ ∃ pa pc, Row w2 w.heap.size 61 (clientL ov (.slice pa (np - min k np) pc)) ∧ Fr w w2 [] := by
  rcases R.own.2 with ⟨rfl, rfl⟩ | ⟨g, cap, cur, rfl, hb, hg, hcap, hm, hsz, ht⟩
  · refine (confirm_nil w.heap.size k ov w1 R.rc).mono ?_
    rintro e w2 ⟨rfl, r2, f2⟩
    refine ⟨rfl, none, 0, ?_, R.fr.step f2 (fun x hx => .inr (by simp at hx; omega))⟩
    rw [Nat.zero_sub]
    exact r2
  · refine (confirm_some w.heap.size g cap np k ov cur.toList w1 hnp R.rc (by unfold Row; simpa using hg) (by simpa using hsz) hcap (by unfold maxLen at hm; omega) ht (by omega)).mono ?_
    rintro e w2 ⟨rfl, r2, f2⟩
    exact ⟨rfl, _, _, r2, R.fr.step f2 (fun x hx => .inr (by simp at hx; omega))⟩

set_option maxHeartbeats 400000 in
theorem after_out (a0 a1 a2 : Int) (w : World) (h : a0 < 0 ∨ 1024 < a0 ∨ a1 < 0 ∨ 1024 < a1) :
    Calls Yba.prog 4 #[.int .i64 a0, .int .i64 a1, .int .u64 a2] w fun e w' => e = .returned (.bool true) ∧ w' = w := by
  by_cases h1 : a0 < 0
  · clear h
    go_enter Yba.func4, Yba.ntmps4
    go_wp2
    go_ret
    exact ⟨rfl, rfl⟩
  · by_cases h2 : 1024 < a0
    · clear h
      go_enter Yba.func4, Yba.ntmps4
      go_wp2
      go_ret
      exact ⟨rfl, rfl⟩
    · by_cases h3 : a1 < 0
      · clear h
        go_enter Yba.func4, Yba.ntmps4
        go_wp2
        go_ret
        exact ⟨rfl, rfl⟩
      · have h4 : 1024 < a1 := by omega
        clear h
        go_enter Yba.func4, Yba.ntmps4
        go_wp2
        go_ret
        exact ⟨rfl, rfl⟩

set_option maxHeartbeats 400000 in
theorem after_in (no np k : Nat) (w : World) (h1 : no ≤ 1024) (h2 : np ≤ 1024) :
    Calls Yba.prog 4 #[.int .i64 no, .int .i64 np, .int .u64 k] w fun e w' => e = .returned (.bool true) ∧ Below w.heap.size w w' := by
  have g1 : ¬ ((no : Int) < 0) := by omega
  have g2 : ¬ ((1024 : Int) < no) := by omega
  have g3 : ¬ ((np : Int) < 0) := by omega
  have g4 : ¬ ((1024 : Int) < np) := by omega
  cases ho : ((no : Int) == 0) <;> cases hp : ((np : Int) == 0) <;> by_cases hk : (np : Int) ≤ (k : Int)
  all_goals
    have hkn := hk
    rw [Int.ofNat_le] at hkn
    have hm : (((np - min k np : Nat) : Int) == 0) = (((np : Int) == 0) || decide ((np : Int) ≤ (k : Int))) := by
      rw [hp]
      simp at hp
      simp [hk]
      omega
    simp only [hp, hk, decide_true, decide_false, Bool.or_true, Bool.or_false] at hm
    go_enter Yba.func4, Yba.ntmps4
    go_wp2_with fail
    refine (client_any no np h1 h2 w).mono ?_
    rintro e w1 ⟨rfl, oa, oc, v, R⟩
    have hc := confirm_cl R h2 k
    clear R
    go_wp2_with fail
    refine hc.mono ?_
    rintro e w2 ⟨rfl, pa, pc, r2, f2⟩
    generalize np - min k np = m at hm r2
    clear hc
    have H2 := hide r2
    have F2 := hide f2
    have hcf := confirmed_any w.heap.size _ oa pa no oc m pc w2 r2 rfl rfl rfl
    rw [ho, hm] at hcf
    clear r2 f2 hm
    go_wp2_with fail
    refine hcf.mono ?_
    rintro e w3 ⟨rfl, _, f3, _⟩
    have HF : Hid (Fr w w3 []) := F2.out.step f3 (fun x hx => .inr (by simp at hx; omega))
    clear f3 hcf H2 F2
    go_wp2
    go_ret
    exact ⟨rfl, HF.out.toBelow (Nat.le_refl _) (by simp)⟩

end Go.Proofs.Ybulkaqqc
