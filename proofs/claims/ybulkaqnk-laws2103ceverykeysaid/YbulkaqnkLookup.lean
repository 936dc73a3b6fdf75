/-
  The walk of LawS2103CLookup (function 3).
-/
import Derived.Test.YbulkaqnkFill
import Derived.LaidEql
namespace Go.Proofs.Ybulkaqnk
open Go.RowKit

theorem info77 : (Yba.prog.info? 77).map (fun i => (i.size, i.bytes)) = some (7, 96) := by kernel_rfl
theorem neq_same (w : World) (a : Addr) : (binOp .neq 27 (.pointer (some a)) (.pointer (some a))).run Yba.prog w = .ok (.bool false) w := by
  cases hi : Yba.prog.info? 77 with
  | none => have := info77; rw [hi] at this; simp at this
  | some j =>
    have h : ∀ d : Nat, (Op.equalIn (d + 1) 27 (.pointer (some a)) (.pointer (some a))).run Yba.prog w = .ok true w := fun d => by
      simp [Op.equalIn, run_underlying Yba.underlying27, sizeOf, typeInfo, hi, run_sameAddr_same]
    simp only [binOp]
    simp [Op.equal, Op.maxDepth, h 9999]

theorem Keys.moved {w w' : World} {b off n : Nat} {ks : List ByteArray} (K : Keys w b off n ks) (hf : Fr w w' []) (hb : 0 < n → b < w.heap.size) : Keys w' b off n ks :=
  ⟨K.len, fun j k h => (World.cell?_of_block (hf.block b (hb (by have := (List.getElem?_eq_some_iff.1 h).1; rw [K.len] at this; omega)) (by simp))).trans (K.cell j k h)⟩
theorem found {ks : List ByteArray} {n : Nat} {P : List Nat} {M : List (ByteArray × Nat)} (R : Reg ks n P M) {k bk : Nat} {q : ByteArray} {v : Value} (hk : k < n) (hq : ks[k]? = some q) (hb : P[k]? = some bk)
    (hor : (∃ b, (q, b) ∈ M ∧ v = .pointer (some ⟨b, 0, none⟩)) ∨ ((∀ p ∈ M, p.1 ≠ q) ∧ v = .pointer none)) : v = .pointer (some ⟨bk, 0, none⟩) := by
  rcases hor with ⟨b, hm, rfl⟩ | ⟨hno, _⟩
  · have e : b = bk := R.one (q, b) hm k bk hk hq hb
    rw [e]
  · obtain ⟨p, hp, e⟩ := R.has k q hk hq
    exact absurd e (hno p hp)
theorem missed {ks : List ByteArray} {n : Nat} {P : List Nat} {M : List (ByteArray × Nat)} (R : Reg ks n P M) {q : ByteArray} {v : Value} (hf : Fresh ks n q)
    (hor : (∃ b, (q, b) ∈ M ∧ v = .pointer (some ⟨b, 0, none⟩)) ∨ ((∀ p ∈ M, p.1 ≠ q) ∧ v = .pointer none)) : v = .pointer none := by
  rcases hor with ⟨b, hm, rfl⟩ | ⟨_, rfl⟩
  · exact absurd rfl (R.fresh hf (q, b) hm)
  · rfl

set_option maxHeartbeats 400000 in
theorem lookup_long (ha : Option Addr) (n hc : Nat) (q : ByteArray) (w : World) (h : 256 < n) :
    Calls Yba.prog 3 #[.slice ha n hc, .string q] w fun e w' => e = .returned (.bool true) ∧ w' = w := by
  have h' : (256 : Int) < n := by omega
  go_enter Yba.func3, Yba.ntmps3
  go_wp2
  go_ret
  exact ⟨rfl, rfl⟩

set_option maxHeartbeats 400000 in
theorem lookup_any (ha : Option Addr) (n hc b off : Nat) (ks : List ByteArray) (q : ByteArray) (w : World) (K : Keys w b off n ks) (e1 : 0 < n → ha = some ⟨b, off, none⟩) (hn : n ≤ 256) :
    Calls Yba.prog 3 #[.slice ha n hc, .string q] w fun e w' => e = .returned (.bool true) ∧ Below w.heap.size w w' := by
  have g1 : (0 < n ∧ ha = some ⟨b, off, none⟩ ∧ b < w.heap.size) ∨ n ≤ 0 := by
    by_cases h : 0 < n
    · obtain ⟨k, hk⟩ := K.get h
      exact .inl ⟨h, e1 h, World.block_lt_of_cell? w ⟨b, off + 0, none⟩ (K.cell 0 k hk)⟩
    · exact .inr (by omega)
  have hn' : ¬ (256 : Int) < n := by omega
  clear e1
  rcases g1 with ⟨p1, rfl, hbl⟩ | p1
  all_goals
    go_enter Yba.func3, Yba.ntmps3
    go_wp2_with fail
    refine (fill_any _ n hc b off ks w K (by first | exact fun _ => rfl | exact fun h => absurd h (by omega)) hn).mono ?_
    rintro e w1 ⟨P, M, rfl, R⟩
    have HR := hide R
    clear R
    go_wp2_with fail
    go_loopw [7, 20] (fun v i wr => wr = w1 ∧ ∃ k : Nat, k ≤ n ∧ i = .int .i64 k ∧ v = .pointer none ∧ Hid (Fresh ks k q)) (fun _ i _ => n - (intOf i).toNat)
    case atStart => exact ⟨rfl, 0, Nat.zero_le _, rfl, rfl, fun j h => absurd h (by omega)⟩
    case round =>
      obtain ⟨rfl, k, hk, rfl, rfl, HF⟩ := hrel
      by_cases hlt : k < n
      · first | (exfalso; omega) | skip
        all_goals
          obtain ⟨ki, hki⟩ := K.get hlt
          have hci : wr.cell? ⟨b, off + k, none⟩ = some (.string ki) := (World.cell?_of_block (HR.out.fr.block b hbl (by simp))).trans (K.cell k ki hki)
          have HKI := hide hki
          clear hki
          cases hsq : (ki.toList == q.toList)
          · have HF2 := hide (HF.out.succ HKI.out hsq)
            go_wp2
            go_roundw
            case rel => exact ⟨trivial, k + 1, by omega, by go_num, rfl, HF2⟩
            case measure => simp [intOf]; omega
          · obtain ⟨bk, hbk⟩ : ∃ bk, P[k]? = some bk := ⟨_, List.getElem?_eq_getElem (by rw [HR.out.reg.len]; exact hlt)⟩
            have hpk := HR.out.rp.cell k (ptrs_at _ hbk)
            have HBK := hide hbk
            clear hbk
            go_wp2_with fail
            refine (book_any _ _ _ _ M q wr HR.out.rx HR.out.mg (by omega)).mono ?_
            rintro e w3 ⟨⟨v, rfl, hor⟩, rx3, mg3, f3, s3⟩
            have hv : v = .pointer (some ⟨bk, 0, none⟩) := found HR.out.reg hlt (by rw [HKI.out, toList_inj.1 hsq]) HBK.out hor
            subst hv
            have hlen := mg3.len (P := Yba.prog) Yba.underlying43 3
            rw [HR.out.reg.size] at hlen
            have hx8 := rx3.cell 8 (v := .map (some (w.heap.size + 1))) rfl
            have K3 : Hid (Keys w3 b off n ks) := K.moved (HR.out.fr.step f3 (fun y hy => .inr (by simp at hy; omega))) (fun _ => hbl)
            have HF3 : Hid (Fr w w3 []) := HR.out.fr.step f3 (fun y hy => .inr (by simp at hy; omega))
            have hneq := neq_same w3
            clear hor rx3 mg3 f3 s3
            go_wp2_with fail
            refine (distinct_any _ n hc b off ks w3 K3.out (by first | exact fun _ => rfl | exact fun h => absurd h (by omega)) hn).mono ?_
            rintro e w4 ⟨rfl, nq, rfl⟩
            go_wp2
            go_ret
            exact ⟨rfl, (HF3.out.drewN nq).toBelow (Nat.le_refl _) (by simp)⟩
      · obtain rfl : k = n := by omega
        go_wp2_with fail
        refine (book_any _ _ _ _ M q wr HR.out.rx HR.out.mg (by omega)).mono ?_
        rintro e w3 ⟨⟨v, rfl, hor⟩, rx3, mg3, f3, s3⟩
        have hv : v = .pointer none := missed HR.out.reg HF.out hor
        subst hv
        have hlen := mg3.len (P := Yba.prog) Yba.underlying43 3
        rw [HR.out.reg.size] at hlen
        have hx8 := rx3.cell 8 (v := .map (some (w.heap.size + 1))) rfl
        have K3 : Hid (Keys w3 b off k ks) := K.moved (HR.out.fr.step f3 (fun y hy => .inr (by simp at hy; omega))) (fun h => by first | exact hbl | exact absurd h (by omega))
        have HF3 : Hid (Fr w w3 []) := HR.out.fr.step f3 (fun y hy => .inr (by simp at hy; omega))
        have hneq := neq_same w3
        clear hor rx3 mg3 f3 s3
        go_wp2_with fail
        refine (distinct_any _ k hc b off ks w3 K3.out (by first | exact fun _ => rfl | exact fun h => absurd h (by omega)) hn).mono ?_
        rintro e w4 ⟨rfl, nq, rfl⟩
        go_wp2
        go_ret
        exact ⟨rfl, (HF3.out.drewN nq).toBelow (Nat.le_refl _) (by simp)⟩

end Go.Proofs.Ybulkaqnk
