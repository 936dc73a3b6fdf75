/-
  The contracts of confirm's closure (function 11) and of sort.Search at it (function 10).
-/
import Derived.Test.YbulkaqqcClient
import Derived.Deep.LoopGhost
namespace Go.Proofs.Ybulkaqqc
open Go.RowKit

theorem txns_length : ∀ n, (txns n).length = n * 2
  | 0 => rfl
  | n + 1 => by rw [txns, List.length_append, txns_length n]; simp; omega
theorem txns_id : ∀ n i, i < n → (txns n)[i * 2]? = some (.int .u64 ((i : Int) + 1))
  | 0, i, h => by omega
  | n + 1, i, h => by
    rw [txns]
    by_cases hi : i < n
    · rw [List.getElem?_append_left (by rw [txns_length]; omega)]
      exact txns_id n i hi
    · have : i = n := by omega
      subst this
      rw [List.getElem?_append_right (by rw [txns_length]; omega), txns_length]
      simp

/-- What the closure reads: its two boxes, the client, and the pending transactions. -/
structure Sees (w : World) (p1 p2 c g cap n : Nat) (k : Int) : Prop where
  b1 : w.cell? ⟨p1, 0, none⟩ = some (.pointer (some ⟨c, 0, none⟩))
  b2 : w.cell? ⟨p2, 0, none⟩ = some (.int .u64 k)
  pend : w.cell? ⟨c, 11, none⟩ = some (.slice (some ⟨g, 0, none⟩) n cap)
  ids : ∀ i : Nat, i < n → w.cell? ⟨g, i * 2, none⟩ = some (.int .u64 ((i : Int) + 1))

set_option maxHeartbeats 400000 in
theorem closure_any (p1 p2 c g cap n : Nat) (k : Int) (i : Nat) (hi : i < n) (w : World) (S : Sees w p1 p2 c g cap n k) :
    Calls Yba.prog 11 #[.int .i64 i, .pointer (some ⟨p1, 0, none⟩), .pointer (some ⟨p2, 0, none⟩)] w fun e w' => e = .returned (.bool (decide (k < (i : Int) + 1))) ∧ ∃ q, w' = w.drewN q := by
  have b1 := S.b1
  have b2 := S.b2
  have b3 := S.pend
  have b4 := S.ids i hi
  clear S
  go_enter Yba.func11, Yba.ntmps11
  go_wp2_with fail
  go_quiet (fail)
  go_wp2
  go_ret
  exact ⟨rfl, _, rfl⟩

theorem Sees.drewN {w : World} {p1 p2 c g cap n : Nat} {k : Int} (S : Sees w p1 p2 c g cap n k) (q : Nat) : Sees (w.drewN q) p1 p2 c g cap n k := ⟨S.b1, S.b2, S.pend, S.ids⟩

set_option maxHeartbeats 1000000 in
/-- sort.Search(n, closure): how many of the ids 1 .. n are at most k. -/
theorem search_any (p1 p2 c g cap n k : Nat) (hn : n ≤ 1024) (w : World) (S : Sees w p1 p2 c g cap n k) :
    Calls Yba.prog 10 #[.int .i64 n, .func (.func 11) #[] #[.pointer (some ⟨p1, 0, none⟩), .pointer (some ⟨p2, 0, none⟩)]] w fun e w' => e = .returned (.int .i64 ((min k n : Nat) : Int)) ∧ ∃ q, w' = w.drewN q := by
  have HS := hide S
  clear S
  go_enter Yba.func10, Yba.ntmps10
  go_wp2_with fail
  go_loopg [5, 6] n (fun kx s5 s6 wr => ∃ lo hi q : Nat, s5 = .int .i64 lo ∧ s6 = .int .i64 hi ∧ lo ≤ hi ∧ hi ≤ n ∧ hi - lo ≤ kx ∧ wr = w.drewN q ∧ Hid (lo ≤ min k n ∧ min k n ≤ hi))
  case atStart => exact ⟨0, n, 0, rfl, rfl, Nat.zero_le _, Nat.le_refl _, by omega, rfl, (⟨by omega, by omega⟩ : 0 ≤ min k n ∧ min k n ≤ n)⟩
  case round =>
    obtain ⟨lo, hi, q, rfl, rfl, hlh, hin, hg, rfl, I⟩ := hrel
    by_cases hlt : lo < hi
    · have hc := closure_any p1 p2 c g cap n k ((lo + hi) / 2) (by omega) _ (HS.out.drewN q)
      by_cases hk : k < (lo + hi) / 2 + 1
      · rw [show decide ((k : Int) < (((lo + hi) / 2 : Nat) : Int) + 1) = true by rw [decide_eq_true_iff]; omega] at hc
        rw [show (((lo + hi) / 2 : Nat) : Int) = ((lo : Int) + (hi : Int)) / 2 by omega] at hc
        have HK := hide hk
        clear hk
        go_wp2_with (go_at_call 11; refine hc.mono ?_; rintro e w' ⟨rfl, nq, rfl⟩)
        go_roundg ((lo + hi) / 2 - lo)
        case measure => omega
        case rel => exact ⟨lo, (lo + hi) / 2, q + nq, rfl, by rw [show ((lo : Int) + (hi : Int)) / 2 = (((lo + hi) / 2 : Nat) : Int) by omega], by omega, by omega, Nat.le_refl _, rfl, (⟨I.out.1, by have := HK.out; omega⟩ : lo ≤ min k n ∧ min k n ≤ (lo + hi) / 2)⟩
      · rw [show decide ((k : Int) < (((lo + hi) / 2 : Nat) : Int) + 1) = false by rw [decide_eq_false_iff_not]; omega] at hc
        rw [show (((lo + hi) / 2 : Nat) : Int) = ((lo : Int) + (hi : Int)) / 2 by omega] at hc
        have HK := hide hk
        clear hk
        go_wp2_with (go_at_call 11; refine hc.mono ?_; rintro e w' ⟨rfl, nq, rfl⟩)
        go_roundg (hi - ((lo + hi) / 2 + 1))
        case measure => omega
        case rel => exact ⟨(lo + hi) / 2 + 1, hi, q + nq, by rw [show ((lo : Int) + (hi : Int)) / 2 + 1 = (((lo + hi) / 2 + 1 : Nat) : Int) by omega], rfl, by omega, hin, Nat.le_refl _, rfl, (⟨by have := HK.out; omega, I.out.2⟩ : (lo + hi) / 2 + 1 ≤ min k n ∧ min k n ≤ hi)⟩
    · have e : lo = min k n := by have := I.out; omega
      clear I HS
      have E := hide e
      clear e
      go_wp2
      go_ret
      exact ⟨by rw [← E.out]; rfl, q, rfl⟩

end Go.Proofs.Ybulkaqqc
