/-
  The contract of slices.Delete at []txn (function 12), from the slice's head on.
-/
import Derived.Test.YbulkaqqcClient
import Derived.Deep.RegionLaw
import Derived.Laws.CopyRow
namespace Go.Proofs.Ybulkaqqc
open Go.RowKit

theorem row_setCells {g : Nat} {t : TypeId} : ∀ (vs : List Value) (o : Nat) {w : World} {L : List Value}, Row w g t L → ∃ L', L'.length = L.length ∧ Row (w.setCells g o vs) g t L'
  | [], _, _, L, h => ⟨L, rfl, h⟩
  | v :: r, o, _, L, h => by
    obtain ⟨L', hl, hr⟩ := row_setCells r (o + 1) (h.set o v)
    exact ⟨L', by rw [hl, List.length_set], hr⟩
theorem fr_setCells {g : Nat} : ∀ (vs : List Value) (o : Nat) {a w : World}, Fr a w [g] → Fr a (w.setCells g o vs) [g]
  | [], _, _, _, h => h
  | v :: r, o, _, _, h => fr_setCells r (o + 1) (h.setCell ⟨g, o, none⟩ v (.inl (by simp)))

theorem zero66 (w : World) : (zeroValue 66).run Yba.prog w = .ok (.agg #[.int .u64 0, .slice none 0 0]) w := by kernel_rfl

theorem zeros_one (m : Nat) : ∀ v ∈ (Builtin.zeroCells #[Value.int .u64 0, .slice none 0 0] m).toList, v.oneCell' = true := by
  intro v hv
  simp only [Builtin.zeroCells, Array.toList_map, List.mem_map] at hv
  obtain ⟨i, _, rfl⟩ := hv
  have : i % 2 = 0 ∨ i % 2 = 1 := by omega
  rcases this with h | h <;> simp [h] <;> rfl
theorem zeros_length (m : Nat) : (Builtin.zeroCells #[Value.int .u64 0, .slice none 0 0] m).toList.length = m * 2 := by simp [Builtin.zeroCells]

/-- 'clear(s)' of m > 0 transactions. -/
theorem clear_run (w : World) (g o m c : Nat) (L : List Value) (r : Row w g 66 L) (hm : 0 < m) (hfit : o + m * 2 ≤ L.length) :
    ∃ w', (∀ ty, (Builtin.clear_ #[39] ty #[.slice (some ⟨g, o, none⟩) m c]).run Yba.prog w = .ok (.tuple #[]) w') ∧ Fr w w' [g] := by
  have h := run_storeCells_at Yba.prog g o 66 (Builtin.zeroCells #[Value.int .u64 0, .slice none 0 0] m).toList 0 L.toArray w r (by rw [zeros_length]; simpa using hfit) (zeros_one m)
  refine ⟨w.setRow g (List.take (o + 0) L.toArray.toList ++ (Builtin.zeroCells #[Value.int .u64 0, .slice none 0 0] m).toList ++ List.drop (o + 0 + (Builtin.zeroCells #[Value.int .u64 0, .slice none 0 0] m).toList.length) L.toArray.toList).toArray, fun ty => ?_, ?_⟩
  · obtain ⟨k, rfl⟩ : ∃ k, m = k + 1 := ⟨m - 1, by omega⟩
    simp [Builtin.clear_, run_underlying Yba.underlying39, Value.cells]
    rw [h]
    simp [Result.andThen]
  · exact ⟨rfl, rfl, rfl, by simp [World.setRow], fun k _ hk => setRow_other w g k _ (by simpa using hk)⟩

theorem txns_one : ∀ n, ∀ u ∈ txns n, u.oneCell' = true
  | 0, u, hu => by simp [txns] at hu
  | n + 1, u, hu => by
    rw [txns, List.mem_append] at hu
    rcases hu with hu | hu
    · exact txns_one n u hu
    · simp at hu
      rcases hu with rfl | rfl <;> rfl

set_option maxHeartbeats 400000 in
/-- slices.Delete(s, 0, 0). -/
theorem delete_none (g : Option Addr) (n cap : Nat) (hn : n ≤ cap) (h0 : g = none → cap = 0) (hm : cap ≤ 9223372036854775807) (w : World) :
    Calls Yba.prog 12 #[.slice g n cap, .int .i64 0, .int .i64 0] w fun e w' => e = .returned (.slice g n cap) ∧ w' = w := by
  cases g with
  | none =>
    have hc : cap = 0 := h0 rfl
    subst hc
    have hn0 : n = 0 := by omega
    subst hn0
    go_enter Yba.func12, Yba.ntmps12
    go_wp2
    all_goals (go_ret; exact ⟨rfl, rfl⟩)
  | some a =>
    obtain ⟨b, o, x⟩ := a
    go_enter Yba.func12, Yba.ntmps12
    go_wp2
    all_goals (go_ret; exact ⟨rfl, rfl⟩)

set_option maxHeartbeats 4000000 in
set_option maxRecDepth 1000000 in
/-- slices.Delete(s, 0, j), j > 0. -/
theorem delete_some (g n cap j : Nat) (L : List Value) (w : World) (r : Row w g 66 L) (hl : L.length = cap * 2) (hcap : n ≤ cap) (hm : cap ≤ 9223372036854775807) (hone : ∀ u ∈ L.take (n * 2), u.oneCell' = true) (hj0 : 0 < j) (hj : j ≤ n) :
    Calls Yba.prog 12 #[.slice (some ⟨g, 0, none⟩) n cap, .int .i64 0, .int .i64 j] w fun e w' => e = .returned (.slice (some ⟨g, 0, none⟩) (n - j) cap) ∧ Fr w w' [g] := by
  obtain ⟨i0, hi0, hz0, hz1, hz2⟩ := info_parts info66
  obtain ⟨news, hnews⟩ : ∃ news, news = (L.take (n * 2)).drop (j * 2) := ⟨_, rfl⟩
  have hlen : news.length = (n - j) * 2 := by rw [hnews, List.length_drop, List.length_take]; omega
  have hget : ∀ t, t < (n - j) * 2 → news[t]? = L[j * 2 + t]? := by
    intro t ht
    rw [hnews, List.getElem?_drop, List.getElem?_take_of_lt (by omega)]
  obtain ⟨A, hA, hsrc⟩ : ∃ A : Addr, (if cap = j then some (⟨g, 0, none⟩ : Addr) else some ⟨g, j * 2, none⟩) = some A ∧ Hid (∀ t u, news[t]? = some u → w.drew.cell? (A.add t) = some u) := by
    by_cases h : cap = j
    · refine ⟨⟨g, 0, none⟩, by simp [h], fun t u hu => ?_⟩
      have h0 : news.length = 0 := by rw [hlen]; omega
      rw [List.length_eq_zero_iff.1 h0] at hu
      simp at hu
    · refine ⟨⟨g, j * 2, none⟩, by simp [h], fun t u hu => ?_⟩
      have ht : t < (n - j) * 2 := by
        have := (List.getElem?_eq_some_iff.1 hu).1
        rwa [hlen] at this
      rw [hget t ht] at hu
      rw [Addr.add_lit]
      exact r.drew.cell _ hu
  have s1 : Hid (news.length = (n - j) * 2) := hlen
  have s2 : Hid (∀ u ∈ news, u.oneCell' = true) := by
    intro u hu
    rw [hnews] at hu
    exact hone u (List.mem_of_mem_drop hu)
  have s3 : Hid (∀ t, t < news.length → (w.drew.cell? ⟨g, 0 + 0 * 2 + t, none⟩).isSome = true ∧ w.drew.frozen? ⟨g, 0 + 0 * 2 + t, none⟩ = false) := by
    intro t ht
    rw [hlen] at ht
    have e0 : 0 + 0 * 2 + t = t := by omega
    rw [e0]
    refine ⟨?_, r.drew.free t⟩
    rw [r.drew.cell t (v := L[t]'(by omega)) (List.getElem?_eq_getElem _)]
    rfl
  obtain ⟨W1, hW1⟩ : ∃ W1, W1 = w.drew.setCells g (0 + 0 * 2) news := ⟨_, rfl⟩
  obtain ⟨L1, hL1, r1⟩ : ∃ L1, L1.length = L.length ∧ Row W1 g 66 L1 := by rw [hW1]; exact row_setCells news _ r.drew
  have f1 : Fr w W1 [g] := by rw [hW1]; exact fr_setCells news _ (Fr.refl w [g]).drew
  obtain ⟨W2, hcl, f2⟩ := clear_run W1 g ((n - j) * 2) (n - (n - j)) (cap - (n - j)) L1 r1 (by omega) (by rw [hL1, hl]; omega)
  have HF : Hid (Fr w W2 [g]) := f1.trans f2
  have hW : Hid (W1 = w.drew.setCells g (0 + 0 * 2) news) := hW1
  have hjc : j ≤ cap := by omega
  clear hW1 r r1 hL1 f1 f2 hget hnews hlen hone hl
  go_enter Yba.func12, Yba.ntmps12
  go_wp2_with fail
  go_region_law (refine step_append_room rfl (.tmp 22) (.tmp 25) 39 rfl 66 i0 2 Yba.underlying39 hi0 hz1 g 0 0 cap (by simp [Act.eval, Act.put]) A (n - j) (cap - j) news (by simp [Act.eval, Act.put]) s1.out hsrc.out s2.out (by omega) s3.out ?_; rw [← hW.out])
  go_wp2
  go_ret
  exact ⟨rfl, HF.out⟩

end Go.Proofs.Ybulkaqqc
