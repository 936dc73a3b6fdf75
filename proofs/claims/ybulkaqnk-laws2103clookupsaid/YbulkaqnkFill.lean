/-
  The contracts of New (function 8) and zzs2103cfill (function 5).
-/
import Derived.Test.YbulkaqnkBook
import Derived.Test.YbulkaqnkDistinct
import Derived.BigRegion
namespace Go.Proofs.Ybulkaqnk
open Go.RowKit

set_option maxHeartbeats 400000 in
theorem new_any (w : World) :
    Calls Yba.prog 8 #[.nilFunc] w fun e w' => e = .returned (.pointer (some ⟨w.heap.size + 1 + 1 + 1, 0, none⟩)) ∧ Row w' (w.heap.size + 1 + 1 + 1) 65 (exL w.heap.size (w.heap.size + 1) (w.heap.size + 1 + 1)) ∧
      MapIs w' (w.heap.size + 1) [] ∧ Fr w w' [] ∧ w'.heap.size = w.heap.size + 1 + 1 + 1 + 1 := by
  have hmm := @run_makeMap Yba.prog
  have h2 := MapIs.new (w.alloc (.map #[] 0))
  rw [World.size_alloc] at h2
  have H2 := hide h2
  have h3 := Row.new (((w.alloc (.map #[] 0)).alloc (.map #[] 0)).alloc (.map #[] 0)) 65 (exL w.heap.size (w.heap.size + 1) (w.heap.size + 1 + 1))
  simp only [World.size_alloc] at h3
  have H3 := hide h3
  clear h2 h3
  go_enter Yba.func8, Yba.ntmps8
  go_wp2
  go_ret
  exact ⟨rfl, H3.out, (H2.out.alloc _).alloc _, ((((Fr.refl _ _).alloc _).alloc _).alloc _).alloc _, by simp⟩

def ptrs (P : List Nat) : List Value := P.map fun b => .pointer (some ⟨b, 0, none⟩)
def nils (m : Nat) : List Value := List.replicate m (.pointer none)
def nilsA (m : Nat) : Array Value := (nils m).toArray
theorem info27 : (Yba.prog.info? 27).map (fun i => (i.zero, i.size, i.bytes)) = some (some (.pointer none), 1, 8) := by kernel_rfl
theorem make_ptrs (m : Nat) (h : m ≤ 256) (w : World) : (Instr.makeSlice 24 (.int .i64 (m : Int)) (.int .i64 (m : Int))).run Yba.prog w = .ok (.slice (some ⟨w.heap.size, 0, none⟩) m m) (w.alloc (.cells (nilsA m) 27)) := by
  obtain ⟨i0, hi, hz0, hz1, hz2⟩ := info_parts info27
  have := run_make (P := Yba.prog) w 24 27 i0 (.pointer none) Yba.underlying24 hi hz0 .i64 .i64 (m : Int) (m : Int) (by omega) (by omega) (by rw [hz2]; omega) (by omega)
  rw [this, hz1]
  have e : madeCells (Value.pointer none).cells ((m : Int).toNat * 1) = nilsA m := by
    apply Array.toList_inj.1
    rw [Int.toNat_natCast, Nat.mul_one]
    exact toList_madeCells_one _ _
  rw [e]; simp

def bookA : Array Value := #[.int .i32 0, .int .u32 0, .int .u8 0, .slice none 0 0, .int .u8 0, .slice none 0 0, .slice none 0 0]

/-- The outer loop's relation: the Exchange at x, its books at gm, the pointers at gp. -/
structure FillR (w wr : World) (x b1 gm b3 gp n : Nat) (ks : List ByteArray) (k : Nat) (P : List Nat) (M : List (ByteArray × Nat)) : Prop where
  reg : Reg ks k P M
  rp : Row wr gp 27 (ptrs P ++ nils (n - k))
  rx : Row wr x 65 (exL b1 gm b3)
  mg : MapIs wr gm M
  fr : Fr w wr []

theorem ptrs_at {P : List Nat} {j b : Nat} (L : List Value) (h : P[j]? = some b) : (ptrs P ++ L)[j]? = some (.pointer (some ⟨b, 0, none⟩)) := by
  have hl := (List.getElem?_eq_some_iff.1 h).1
  rw [List.getElem?_append_left (by simpa [ptrs] using hl)]
  simp [ptrs, h]
theorem nils_at {P : List Nat} {k n : Nat} (hl : P.length = k) (hk : k < n) : (ptrs P ++ nils (n - k))[k]? = some (.pointer none) := by
  have e : (ptrs P).length = k := by simp [ptrs, hl]
  rw [List.getElem?_append_right (by omega), e, Nat.sub_self, show n - k = (n - (k + 1)) + 1 by omega, nils, List.replicate_succ]
  rfl
theorem nils_set {P : List Nat} {k n : Nat} (hl : P.length = k) (hk : k < n) (b : Nat) : (ptrs P ++ nils (n - k)).set k (.pointer (some ⟨b, 0, none⟩)) = ptrs (P ++ [b]) ++ nils (n - (k + 1)) := by
  have e : (ptrs P).length = k := by simp [ptrs, hl]
  rw [List.set_append_right (h := by omega), e, Nat.sub_self, show n - k = (n - (k + 1)) + 1 by omega, nils, List.replicate_succ, List.set_cons_zero]
  simp [ptrs, nils]

set_option maxHeartbeats 400000 in
theorem fill_any (ha : Option Addr) (n hc b off : Nat) (ks : List ByteArray) (w : World) (K : Keys w b off n ks) (e1 : 0 < n → ha = some ⟨b, off, none⟩) (hn : n ≤ 256) :
    Calls Yba.prog 5 #[.slice ha n hc] w fun e w' => ∃ P M, e = .returned (.tuple #[.pointer (some ⟨w.heap.size + 1 + 1 + 1, 0, none⟩), .slice (some ⟨w.heap.size + 1 + 1 + 1 + 1, 0, none⟩) n n]) ∧
      FillR w w' (w.heap.size + 1 + 1 + 1) w.heap.size (w.heap.size + 1) (w.heap.size + 1 + 1) (w.heap.size + 1 + 1 + 1 + 1) n ks n P M := by
  have hmk := make_ptrs n hn
  have g1 : (0 < n ∧ ha = some ⟨b, off, none⟩ ∧ b < w.heap.size) ∨ n ≤ 0 := by
    by_cases h : 0 < n
    · obtain ⟨k, hk⟩ := K.get h
      exact .inl ⟨h, e1 h, World.block_lt_of_cell? w ⟨b, off + 0, none⟩ (K.cell 0 k hk)⟩
    · exact .inr (by omega)
  clear e1
  rcases g1 with ⟨p1, rfl, hbl⟩ | p1
  all_goals
    go_enter Yba.func5, Yba.ntmps5
    go_wp2_with fail
    refine (new_any w).mono ?_
    rintro e w1 ⟨rfl, rx, mg, f1, s1⟩
    have rp := Row.new w1 27 (nils n)
    rw [s1] at rp
    go_wp2_with fail
    go_loopw [14] (fun i wr => ∃ k : Nat, k ≤ n ∧ i = .int .i64 k ∧ ∃ P M, FillR w wr (w.heap.size + 1 + 1 + 1) w.heap.size (w.heap.size + 1) (w.heap.size + 1 + 1) (w.heap.size + 1 + 1 + 1 + 1) n ks k P M) (fun i _ => n - (intOf i).toNat)
    case atStart => exact ⟨0, Nat.zero_le _, rfl, [], [], Reg.start ks, rp, rx.alloc _, mg.alloc _, f1.alloc _⟩
    case round =>
      obtain ⟨k, hk, rfl, P, M, R⟩ := hrel
      clear rx mg f1 rp
      by_cases hlt : k < n
      · first | (exfalso; omega) | skip
        all_goals
          obtain ⟨ki, hki⟩ := K.get hlt
          have kc : ∀ j k, ks[j]? = some k → wr.cell? ⟨b, off + j, none⟩ = some (.string k) := fun j k h => (World.cell?_of_block (R.fr.block b hbl (by simp))).trans (K.cell j k h)
          have hci := kc k ki hki
          have hx8 := R.rx.cell 8 (v := .map (some (w.heap.size + 1))) rfl
          have hpk := R.rp.cell k (nils_at R.reg.len hlt)
          have hfk := R.rp.free k
          have hgl := R.rp.lt
          have hxl := R.rx.lt
          have hbl2 : b < wr.heap.size := by have := R.fr.size; omega
          have HKI := hide hki
          have HKC := hide kc
          clear hki kc
          go_wp2_with fail
          go_loopw [7] (fun j wr2 => ∃ k2 : Nat, k2 ≤ k ∧ j = .int .i64 k2 ∧ Hid (Fresh ks k2 ki) ∧ ∃ nq2, wr2 = wr.drewN nq2) (fun j _ => k - (intOf j).toNat)
          case atStart => exact ⟨0, Nat.zero_le _, rfl, fun j h => absurd h (by omega), 0, rfl⟩
          case round =>
            obtain ⟨k2, hk2, rfl, HF, nq2, rfl⟩ := hrel
            by_cases hlt2 : k2 < k
            · have hlt2' : (k2 : Int) < (k : Int) := by omega
              obtain ⟨kj, hkj⟩ := K.get (show k2 < n by omega)
              have hcj := HKC.out k2 kj hkj
              have HKJ := hide hkj
              clear hkj
              cases hsq : (kj.toList == ki.toList)
              · have HF2 := hide (HF.out.succ HKJ.out hsq)
                go_wp2_with fail
                go_quiet (fail)
                go_wp2
                go_roundw
                case rel => exact ⟨k2 + 1, by omega, by go_num, HF2, _, rfl⟩
                case measure => simp [intOf]; omega
              · have hne : ((k2 : Int) == (k : Int)) = false := beq_eq_false_iff_ne.2 (by omega)
                obtain ⟨bj, hbj⟩ : ∃ bj, P[k2]? = some bj := ⟨_, List.getElem?_eq_getElem (by rw [R.reg.len]; exact hlt2)⟩
                have hpj := R.rp.cell k2 (ptrs_at (nils (n - k)) hbj)
                have HBJ := hide hbj
                clear hbj
                go_wp2_with fail
                go_quiet (fail)
                go_wp2_with fail
                obtain ⟨wm, hrun, mm, fm, sm⟩ := ((((R.mg.drewN (nq2 + nq)).other ⟨w.heap.size + 1 + 1 + 1 + 1, k, none⟩ (.pointer (some ⟨bj, 0, none⟩)) (by simp))).drew).again (P := Yba.prog) Yba.underlying43 Yba.underlying9 ki bj (by
                  obtain ⟨p, hp, e⟩ := R.reg.has k2 kj hlt2 HKJ.out
                  exact ⟨p, hp, by rw [e, toList_inj.1 hsq]⟩) (fun p hp e => R.reg.one p hp k2 bj hlt2 (by rw [HKJ.out, e, toList_inj.1 hsq]) HBJ.out)
                have HN : Hid (FillR w wm (w.heap.size + 1 + 1 + 1) w.heap.size (w.heap.size + 1) (w.heap.size + 1 + 1) (w.heap.size + 1 + 1 + 1 + 1) n ks (k + 1) (P ++ [bj]) M) := by
                  refine ⟨R.reg.old HKI.out hlt2 (by rw [HKJ.out, toList_inj.1 hsq]) HBJ.out, ?_, ?_, mm, ?_⟩
                  · rw [← nils_set R.reg.len hlt]
                    exact (((R.rp.drewN (nq2 + nq)).set k (.pointer (some ⟨bj, 0, none⟩))).drew).fr fm (by rw [List.mem_singleton]; omega)
                  · exact (((R.rx.drewN (nq2 + nq)).other ⟨w.heap.size + 1 + 1 + 1 + 1, k, none⟩ (.pointer (some ⟨bj, 0, none⟩)) (by simp)).drew).fr fm (by rw [List.mem_singleton]; omega)
                  · exact (((R.fr.drewN (nq2 + nq)).setCell ⟨w.heap.size + 1 + 1 + 1 + 1, k, none⟩ (.pointer (some ⟨bj, 0, none⟩)) (.inr (by simp; omega))).drew).step fm (fun y hy => .inr (by simp at hy; omega))
                clear mm fm sm
                go_region
                all_goals
                  go_wp2
                  go_roundw
                  case rel => exact ⟨k + 1, by omega, by go_num, _, _, HN.out⟩
                  case measure => simp [intOf]; omega
            · have hge : decide ((k2 : Int) < (k : Int)) = false := by simp; omega
              have heq : ((k2 : Int) == (k : Int)) = true := beq_iff_eq.2 (by omega)
              have hpk2 : ∀ N o, ((wr.drewN N).alloc o).cell? ⟨w.heap.size + 1 + 1 + 1 + 1, k, none⟩ = some (.pointer none) := fun N o => ((R.rp.drewN N).alloc o).cell k (nils_at R.reg.len hlt)
              have hfk2 : ∀ N o, ((wr.drewN N).alloc o).frozen? ⟨w.heap.size + 1 + 1 + 1 + 1, k, none⟩ = false := fun N o => ((R.rp.drewN N).alloc o).free k
              have hx82 : ∀ N o, ((wr.drewN N).alloc o).cell? ⟨w.heap.size + 1 + 1 + 1, 8, none⟩ = some (.map (some (w.heap.size + 1))) := fun N o => ((R.rx.drewN N).alloc o).cell 8 rfl
              have hci2 : ∀ N o, ((wr.drewN N).alloc o).cell? ⟨b, off + k, none⟩ = some (.string ki) := fun N o => (World.cell?_of_block (Below.heap_alloc (wr.drewN N) o b hbl2)).trans hci
              obtain rfl : k2 = k := by omega
              go_wp2_with fail
              go_quiet (fail)
              go_wp2_with fail
              obtain ⟨wm, hrun, mm, fm, sm⟩ := (((((R.mg.drewN (nq2 + nq)).alloc (.cells bookA 77)).other ⟨w.heap.size + 1 + 1 + 1 + 1, k2, none⟩ (.pointer (some ⟨wr.heap.size, 0, none⟩)) (by simp))).drew).push (P := Yba.prog) Yba.underlying43 Yba.underlying9 ki wr.heap.size (R.reg.fresh HF.out)
              have HN : Hid (FillR w wm (w.heap.size + 1 + 1 + 1) w.heap.size (w.heap.size + 1) (w.heap.size + 1 + 1) (w.heap.size + 1 + 1 + 1 + 1) n ks (k2 + 1) (P ++ [wr.heap.size]) (M ++ [(ki, wr.heap.size)])) := by
                refine ⟨R.reg.new HKI.out HF.out _, ?_, ?_, mm, ?_⟩
                · rw [← nils_set R.reg.len hlt]
                  exact ((((R.rp.drewN (nq2 + nq)).alloc (.cells bookA 77)).set k2 (.pointer (some ⟨wr.heap.size, 0, none⟩))).drew).fr fm (by rw [List.mem_singleton]; omega)
                · exact ((((R.rx.drewN (nq2 + nq)).alloc (.cells bookA 77)).other ⟨w.heap.size + 1 + 1 + 1 + 1, k2, none⟩ (.pointer (some ⟨wr.heap.size, 0, none⟩)) (by simp)).drew).fr fm (by rw [List.mem_singleton]; omega)
                · exact ((((R.fr.drewN (nq2 + nq)).alloc (.cells bookA 77)).setCell ⟨w.heap.size + 1 + 1 + 1 + 1, k2, none⟩ (.pointer (some ⟨wr.heap.size, 0, none⟩)) (.inr (by simp; omega))).drew).step fm (fun y hy => .inr (by simp at hy; omega))
              unfold bookA at hrun
              clear mm fm sm
              go_region
              all_goals
                go_wp2
                go_roundw
                case rel => exact ⟨k2 + 1, by omega, by go_num, _, _, HN.out⟩
                case measure => simp [intOf]; omega
      · obtain rfl : k = n := by omega
        go_wp2
        go_ret2
        exact ⟨P, M, rfl, R⟩

end Go.Proofs.Ybulkaqnk
