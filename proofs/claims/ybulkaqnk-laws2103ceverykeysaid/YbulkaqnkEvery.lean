/-
  The walk of LawS2103CEveryKey (function 4).
-/
import Derived.Test.YbulkaqnkLookup
namespace Go.Proofs.Ybulkaqnk
open Go.RowKit

set_option maxHeartbeats 400000 in
theorem every_long (ha : Option Addr) (n hc : Nat) (w : World) (h : 256 < n) :
    Calls Yba.prog 4 #[.slice ha n hc] w fun e w' => e = .returned (.bool true) ∧ w' = w := by
  have h' : (256 : Int) < n := by omega
  go_enter Yba.func4, Yba.ntmps4
  go_wp2
  go_ret
  exact ⟨rfl, rfl⟩

set_option maxHeartbeats 400000 in
theorem every_any (ha : Option Addr) (n hc b off : Nat) (ks : List ByteArray) (w : World) (K : Keys w b off n ks) (e1 : 0 < n → ha = some ⟨b, off, none⟩) (hn : n ≤ 256) :
    Calls Yba.prog 4 #[.slice ha n hc] w fun e w' => e = .returned (.bool true) ∧ Below w.heap.size w w' := by
  have g1 : (0 < n ∧ ha = some ⟨b, off, none⟩ ∧ b < w.heap.size) ∨ n ≤ 0 := by
    by_cases h : 0 < n
    · obtain ⟨k, hk⟩ := K.get h
      exact .inl ⟨h, e1 h, World.block_lt_of_cell? w ⟨b, off + 0, none⟩ (K.cell 0 k hk)⟩
    · exact .inr (by omega)
  have hn' : ¬ (256 : Int) < n := by omega
  clear e1
  rcases g1 with ⟨p1, rfl, hbl⟩ | p1
  all_goals
    go_enter Yba.func4, Yba.ntmps4
    go_wp2_with fail
    refine (fill_any _ n hc b off ks w K (by first | exact fun _ => rfl | exact fun h => absurd h (by omega)) hn).mono ?_
    rintro e w1 ⟨P, M, rfl, R⟩
    have HR := hide R
    clear R
    go_wp2_with fail
    go_loopw [18] (fun i wr => ∃ k : Nat, k ≤ n ∧ i = .int .i64 k ∧ FillR w wr (w.heap.size + 1 + 1 + 1) w.heap.size (w.heap.size + 1) (w.heap.size + 1 + 1) (w.heap.size + 1 + 1 + 1 + 1) n ks n P M) (fun i _ => n - (intOf i).toNat)
    case atStart => exact ⟨0, Nat.zero_le _, rfl, HR.out⟩
    case round =>
      clear HR
      obtain ⟨k, hk, rfl, R⟩ := hrel
      by_cases hlt : k < n
      · first | (exfalso; omega) | skip
        all_goals
          obtain ⟨ki, hki⟩ := K.get hlt
          have hci : wr.cell? ⟨b, off + k, none⟩ = some (.string ki) := (World.cell?_of_block (R.fr.block b hbl (by simp))).trans (K.cell k ki hki)
          obtain ⟨bk, hbk⟩ : ∃ bk, P[k]? = some bk := ⟨_, List.getElem?_eq_getElem (by rw [R.reg.len]; exact hlt)⟩
          have HKI := hide hki
          have HBK := hide hbk
          clear hki hbk
          go_wp2_with fail
          refine (book_any _ _ _ _ M ki wr R.rx R.mg (by omega)).mono ?_
          rintro e w3 ⟨⟨v, rfl, hor⟩, rx3, mg3, f3, s3⟩
          have hv : v = .pointer (some ⟨bk, 0, none⟩) := found R.reg hlt HKI.out HBK.out hor
          subst hv
          have rp3 := R.rp.fr f3 (by rw [List.mem_singleton]; omega)
          have hpk := rp3.cell k (ptrs_at _ HBK.out)
          have HR3 : Hid (FillR w w3 (w.heap.size + 1 + 1 + 1) w.heap.size (w.heap.size + 1) (w.heap.size + 1 + 1) (w.heap.size + 1 + 1 + 1 + 1) n ks n P M) := ⟨R.reg, rp3, rx3, mg3, R.fr.step f3 (fun y hy => .inr (by simp at hy; omega))⟩
          have hneq := neq_same w3
          clear hor rx3 mg3 f3 s3 rp3
          go_wp2
          go_roundw
          case rel => exact ⟨k + 1, by omega, by go_num, HR3.out⟩
          case measure => simp [intOf]; omega
      · go_wp2_with fail
        go_loopw [40] (fun i wr2 => ∃ k3 : Nat, k3 ≤ n ∧ i = .int .i64 k3 ∧ ∃ nq, wr2 = wr.drewN nq) (fun i _ => n - (intOf i).toNat)
        case atStart => exact ⟨0, Nat.zero_le _, rfl, 0, rfl⟩
        case round =>
          obtain ⟨k3, hk3, rfl, nq, rfl⟩ := hrel
          have hx8 := R.rx.cell 8 (v := .map (some (w.heap.size + 1))) rfl
          by_cases hlt3 : k3 < n
          · first | (exfalso; omega) | skip
            all_goals
              obtain ⟨ki, hki⟩ := K.get hlt3
              have hci : wr.cell? ⟨b, off + k3, none⟩ = some (.string ki) := (World.cell?_of_block (R.fr.block b hbl (by simp))).trans (K.cell k3 ki hki)
              obtain ⟨bk, hbk⟩ : ∃ bk, P[k3]? = some bk := ⟨_, List.getElem?_eq_getElem (by rw [R.reg.len]; exact hlt3)⟩
              have hpk := R.rp.cell k3 (ptrs_at _ hbk)
              have hlk : ∀ N, (Instr.lookup 43 (.map (some (w.heap.size + 1))) (.string ki) false).run Yba.prog (wr.drewN N) = .ok (.pointer (some ⟨bk, 0, none⟩)) (wr.drewN N) := by
                intro N
                obtain ⟨v, hv, hor⟩ := (R.mg.drewN N).look (P := Yba.prog) Yba.underlying43 Yba.underlying9 zero27 ki
                rw [hv, found R.reg hlt3 hki hbk hor]
              have hneq : ∀ N, (binOp .neq 27 (.pointer (some ⟨bk, 0, none⟩)) (.pointer (some ⟨bk, 0, none⟩))).run Yba.prog (wr.drewN N) = .ok (.bool false) (wr.drewN N) := fun N => neq_same _ _
              clear hki hbk
              go_wp2_with fail
              go_quiet (fail)
              go_wp2
              go_roundw
              case rel => exact ⟨k3 + 1, by omega, by go_num, _, rfl⟩
              case measure => simp [intOf]; omega
          · have hlen := (R.mg.drewN nq).len (P := Yba.prog) Yba.underlying43 3
            rw [R.reg.size] at hlen
            have K3 : Hid (Keys (wr.drewN nq) b off n ks) := K.moved (R.fr.drewN nq) (fun h => by first | exact hbl | exact absurd h (by omega))
            go_wp2_with fail
            refine (distinct_any _ n hc b off ks _ K3.out (by first | exact fun _ => rfl | exact fun h => absurd h (by omega)) hn).mono ?_
            rintro e w4 ⟨rfl, nq4, rfl⟩
            go_wp2
            go_ret
            exact ⟨rfl, (R.fr.drewN _).toBelow (Nat.le_refl _) (by simp)⟩

end Go.Proofs.Ybulkaqnk
