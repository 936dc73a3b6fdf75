/-
  The plain mathematics of the registrations: no Go in sight.
-/
import Derived.Test.YbulkaqnkMem
import Derived.Lib.Strings
namespace Go.Proofs.Ybulkaqnk
open Go.RowKit

theorem toList_inj {a b : ByteArray} : (a.toList == b.toList) = true ↔ a = b := by
  rw [beq_iff_eq]
  constructor
  · intro h
    have h' : a.data.toList = b.data.toList := by rw [← Lib.toList_data, ← Lib.toList_data]; exact h
    obtain ⟨x⟩ := a
    obtain ⟨y⟩ := b
    have := Array.toList_inj.1 h'
    simp at this
    rw [this]
  · intro h; rw [h]

/-- Key i stands nowhere before i. -/
def Fresh (ks : List ByteArray) (i : Nat) (k : ByteArray) : Prop := ∀ j, j < i → ks[j]? ≠ some k

/-- How many different keys stand among the first i. -/
def dist (ks : List ByteArray) : Nat → Nat
  | 0 => 0
  | i + 1 => dist ks i + (if ((ks.take i).any fun x => x.toList == (ks.getD i ByteArray.empty).toList) = true then 0 else 1)

theorem take_has {ks : List ByteArray} {i j : Nat} {k : ByteArray} (hj : j < i) (h : ks[j]? = some k) : ((ks.take i).any fun x => x.toList == k.toList) = true := by
  rw [List.any_eq_true]
  refine ⟨k, List.mem_of_getElem? (i := j) ?_, by simp⟩
  rw [List.getElem?_take_of_lt hj, h]
theorem dist_le (ks : List ByteArray) (i : Nat) : dist ks i ≤ i := by
  induction i with
  | zero => simp [dist]
  | succ i ih => simp only [dist]; split <;> omega
theorem dist_new {ks : List ByteArray} {i : Nat} {k : ByteArray} (hk : ks[i]? = some k) (hf : Fresh ks i k) : dist ks (i + 1) = dist ks i + 1 := by
  have e : ks.getD i ByteArray.empty = k := by simp [List.getD, hk]
  have : ¬ ((ks.take i).any fun x => x.toList == k.toList) = true := by
    intro h
    rw [List.any_eq_true] at h
    obtain ⟨x, hx, hxk⟩ := h
    obtain rfl := toList_inj.1 hxk
    obtain ⟨j, hj⟩ := List.getElem?_of_mem hx
    have hlt : j < i := by
      have := (List.getElem?_eq_some_iff.1 hj).1
      rw [List.length_take] at this
      omega
    rw [List.getElem?_take_of_lt hlt] at hj
    exact hf j hlt hj
  simp only [dist, e]; rw [if_neg this]
theorem dist_old {ks : List ByteArray} {i j : Nat} {k : ByteArray} (hk : ks[i]? = some k) (hj : j < i) (h : ks[j]? = some k) : dist ks (i + 1) = dist ks i := by
  have e : ks.getD i ByteArray.empty = k := by simp [List.getD, hk]
  simp only [dist, e]; rw [if_pos (take_has hj h)]; rfl

/-- What stands after i registrations: P: the book of each key; M: the map's entries. -/
structure Reg (ks : List ByteArray) (i : Nat) (P : List Nat) (M : List (ByteArray × Nat)) : Prop where
  len : P.length = i
  one : ∀ p ∈ M, ∀ j b, j < i → ks[j]? = some p.1 → P[j]? = some b → p.2 = b
  has : ∀ j k, j < i → ks[j]? = some k → ∃ p ∈ M, p.1 = k
  only : ∀ p ∈ M, ∃ j, j < i ∧ ks[j]? = some p.1
  size : M.length = dist ks i

theorem Reg.start (ks : List ByteArray) : Reg ks 0 [] [] := ⟨rfl, by simp, fun j k h => absurd h (by omega), by simp, rfl⟩
theorem Reg.fresh {ks : List ByteArray} {i : Nat} {P : List Nat} {M : List (ByteArray × Nat)} (R : Reg ks i P M) {k : ByteArray} (hf : Fresh ks i k) : ∀ p ∈ M, p.1 ≠ k := by
  intro p hp e
  obtain ⟨j, hj, h⟩ := R.only p hp
  exact hf j hj (by rw [h, e])
theorem Reg.new {ks : List ByteArray} {i : Nat} {P : List Nat} {M : List (ByteArray × Nat)} (R : Reg ks i P M) {k : ByteArray} (hk : ks[i]? = some k) (hf : Fresh ks i k) (b : Nat) : Reg ks (i + 1) (P ++ [b]) (M ++ [(k, b)]) := by
  refine ⟨by simp [R.len], ?_, ?_, ?_, by rw [dist_new hk hf, ← R.size]; simp⟩
  · intro p hp j c hj hkj hP
    rw [List.mem_append] at hp
    by_cases hji : j = i
    · subst hji
      rw [List.getElem?_append_right (by rw [R.len]; exact Nat.le_refl _), R.len, Nat.sub_self] at hP
      simp at hP
      rw [hk] at hkj
      rcases hp with hp | hp
      · exact absurd (by simpa using hkj.symm) (R.fresh hf p hp)
      · simp at hp; rw [hp]; exact hP
    · have hj' : j < i := by omega
      rw [List.getElem?_append_left (by rw [R.len]; exact hj')] at hP
      rcases hp with hp | hp
      · exact R.one p hp j c hj' hkj hP
      · simp at hp
        exact absurd (by rw [hkj, hp]) (hf j hj')
  · intro j k' hj hkj
    by_cases hji : j = i
    · subst hji
      rw [hk] at hkj
      exact ⟨(k, b), by simp, by simpa using hkj⟩
    · obtain ⟨p, hp, e⟩ := R.has j k' (by omega) hkj
      exact ⟨p, by simp [hp], e⟩
  · intro p hp
    rw [List.mem_append] at hp
    rcases hp with hp | hp
    · obtain ⟨j, hj, h⟩ := R.only p hp
      exact ⟨j, by omega, h⟩
    · simp at hp
      exact ⟨i, by omega, by rw [hp]; exact hk⟩
theorem Reg.old {ks : List ByteArray} {i : Nat} {P : List Nat} {M : List (ByteArray × Nat)} (R : Reg ks i P M) {k : ByteArray} (hk : ks[i]? = some k) {j0 b : Nat} (hj0 : j0 < i) (h0 : ks[j0]? = some k) (hb : P[j0]? = some b) : Reg ks (i + 1) (P ++ [b]) M := by
  refine ⟨by simp [R.len], ?_, ?_, ?_, by rw [dist_old hk hj0 h0, ← R.size]⟩
  · intro p hp j c hj hkj hP
    by_cases hji : j = i
    · subst hji
      rw [List.getElem?_append_right (by rw [R.len]; exact Nat.le_refl _), R.len, Nat.sub_self] at hP
      simp at hP
      rw [hk] at hkj
      have := R.one p hp j0 b hj0 (by rw [h0, hkj]) hb
      omega
    · have hj' : j < i := by omega
      rw [List.getElem?_append_left (by rw [R.len]; exact hj')] at hP
      exact R.one p hp j c hj' hkj hP
  · intro j k' hj hkj
    by_cases hji : j = i
    · subst hji
      rw [hk] at hkj
      obtain ⟨p, hp, e⟩ := R.has j0 k hj0 h0
      exact ⟨p, hp, by rw [e]; simpa using hkj⟩
    · exact R.has j k' (by omega) hkj
  · intro p hp
    obtain ⟨j, hj, h⟩ := R.only p hp
    exact ⟨j, by omega, h⟩

end Go.Proofs.Ybulkaqnk
