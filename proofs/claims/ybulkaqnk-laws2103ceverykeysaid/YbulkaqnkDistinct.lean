/-
  The contract of zzs2103cdistinct (function 7).
-/
import Derived.Test.YbulkaqnkRows
import Derived.Test.YbulkaqnkPlain
namespace Go.Proofs.Ybulkaqnk
open Go.RowKit

/-- The keys as they lie in memory. -/
structure Keys (w : World) (b off n : Nat) (ks : List ByteArray) : Prop where
  len : ks.length = n
  cell : ∀ j k, ks[j]? = some k → w.cell? ⟨b, off + j, none⟩ = some (.string k)

theorem Keys.get {w : World} {b off n : Nat} {ks : List ByteArray} (K : Keys w b off n ks) {j : Nat} (h : j < n) : ∃ k, ks[j]? = some k := ⟨_, List.getElem?_eq_getElem (by rw [K.len]; exact h)⟩

theorem Fresh.succ {ks : List ByteArray} {i : Nat} {k k' : ByteArray} (h : Fresh ks i k) (hk : ks[i]? = some k') (hs : (k'.toList == k.toList) = false) : Fresh ks (i + 1) k := by
  intro j hj e
  by_cases hji : j = i
  · subst hji
    rw [hk] at e
    have : k' = k := by simpa using e
    rw [toList_inj.2 this] at hs
    cases hs
  · exact h j (by omega) e

set_option maxHeartbeats 400000 in
theorem distinct_any (ha : Option Addr) (n hc b off : Nat) (ks : List ByteArray) (w : World) (K : Keys w b off n ks) (e1 : 0 < n → ha = some ⟨b, off, none⟩) (hn : n ≤ 256) :
    Calls Yba.prog 7 #[.slice ha n hc] w fun e w' => e = .returned (.int .i64 (dist ks n)) ∧ ∃ nq, w' = w.drewN nq := by
  have g1 : (0 < n ∧ ha = some ⟨b, off, none⟩) ∨ n ≤ 0 := by
    by_cases h : 0 < n
    · exact .inl ⟨h, e1 h⟩
    · exact .inr (by omega)
  clear e1
  rcases g1 with ⟨p1, rfl⟩ | p1
  all_goals
    go_enter Yba.func7, Yba.ntmps7
    go_wp2_with fail
    go_loopw [3, 8] (fun c i wr => ∃ k : Nat, k ≤ n ∧ i = .int .i64 k ∧ c = .int .i64 (dist ks k) ∧ ∃ nq, wr = w.drewN nq) (fun _ i _ => n - (intOf i).toNat)
    case atStart => exact ⟨0, Nat.zero_le _, rfl, rfl, 0, rfl⟩
    case round =>
      obtain ⟨k, hk, rfl, rfl, nq, rfl⟩ := hrel
      have hdl := dist_le ks k
      by_cases hlt : k < n
      · first | (exfalso; omega) | skip
        all_goals
          obtain ⟨ki, hki⟩ := K.get hlt
          have hci := K.cell k ki hki
          have HKI := hide hki
          clear hki
          obtain ⟨d, hd⟩ : ∃ d, d = dist ks k := ⟨_, rfl⟩
          rw [← hd] at hdl ⊢
          have HD := hide hd
          clear hd
          go_wp2_with fail
          go_loopw [5] (fun j wr2 => ∃ k2 : Nat, k2 ≤ k ∧ j = .int .i64 k2 ∧ Hid (Fresh ks k2 ki) ∧ ∃ nq2, wr2 = w.drewN nq2) (fun j _ => k - (intOf j).toNat)
          case atStart => exact ⟨0, Nat.zero_le _, rfl, fun j h => absurd h (by omega), nq, rfl⟩
          case round =>
            obtain ⟨k2, hk2, rfl, HF, nq2, rfl⟩ := hrel
            by_cases hlt2 : k2 < k
            · have hlt2' : (k2 : Int) < (k : Int) := by omega
              obtain ⟨kj, hkj⟩ := K.get (show k2 < n by omega)
              have hcj := K.cell k2 kj hkj
              have HKJ := hide hkj
              clear hkj
              cases hsq : (kj.toList == ki.toList)
              · have HF2 := hide (HF.out.succ HKJ.out hsq)
                go_wp2_with fail
                go_quiet (fail)
                go_wp2
                go_roundw
                case rel => exact ⟨k2 + 1, by omega, by go_num, HF2, _, rfl⟩
                case measure => simp [intOf]; omega
              · have HD2 := hide (dist_old HKI.out hlt2 (by rw [HKJ.out, toList_inj.1 hsq]))
                have hne : ((k2 : Int) == (k : Int)) = false := beq_eq_false_iff_ne.2 (by omega)
                go_wp2_with fail
                go_quiet (fail)
                go_wp2
                go_roundw
                case rel => exact ⟨k + 1, by omega, by go_num, by rw [HD2.out, HD.out], _, rfl⟩
                case measure => simp [intOf]; omega
            · have hge : decide ((k2 : Int) < (k : Int)) = false := by simp; omega
              obtain rfl : k2 = k := by omega
              have HD2 := hide (dist_new HKI.out HF.out)
              go_wp2_with fail
              go_quiet (fail)
              go_wp2
              go_roundw
              case rel => exact ⟨k2 + 1, by omega, by go_num, by rw [HD2.out, HD.out]; go_num, _, rfl⟩
              case measure => simp [intOf]; omega
      · obtain rfl : k = n := by omega
        go_wp2
        go_ret
        exact ⟨rfl, _, rfl⟩

end Go.Proofs.Ybulkaqnk
