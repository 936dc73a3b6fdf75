/-
  Rows of memory that are known whole, the frame, and the plain mathematics of the check: no function of the program is named here.
-/
import Derived.WalkKit
import Derived.WalkSpells
import Derived.Deep.QuietTactic
import Derived.BigQuiet
import Derived.Laws.CopyOwn
namespace Go.Proofs.YbulkaqmiFmt
open Go.RowKit

theorem hide {p : Prop} (h : p) : Hid p := h

/-- Block g holds just the cells L of type t, none of them frozen. -/
def Row (w : World) (g : Nat) (t : TypeId) (L : List Value) : Prop := w.heap[g]? = some (.cells L.toArray t (0, 0))

/-- w' is w with new blocks, and with writes to the blocks of bs alone. -/
structure Fr (w w' : World) (bs : List Nat) : Prop where
  os : w'.os = w.os
  tape : w'.tape = w.tape
  output : w'.output = w.output
  size : w.heap.size ≤ w'.heap.size
  block : ∀ k, k < w.heap.size → k ∉ bs → w'.heap[k]? = w.heap[k]?

theorem Row.lt {w : World} {g : Nat} {t : TypeId} {L : List Value} (h : Row w g t L) : g < w.heap.size := lt_of_block h
theorem Row.cell {w : World} {g : Nat} {t : TypeId} {L : List Value} (h : Row w g t L) (j : Nat) {v : Value} (hj : L[j]? = some v) : w.cell? ⟨g, j, none⟩ = some v := by
  rw [cell_of_row w g j _ t _ h]; simpa using hj
theorem Row.free {w : World} {g : Nat} {t : TypeId} {L : List Value} (h : Row w g t L) (j : Nat) : w.frozen? ⟨g, j, none⟩ = false := frozen_of_row w g j _ t h
theorem Row.set {w : World} {g : Nat} {t : TypeId} {L : List Value} (h : Row w g t L) (j : Nat) (v : Value) : Row (w.setCell ⟨g, j, none⟩ v) g t (L.set j v) := by
  have := heap_setCell_same w g j _ t v h
  unfold Row; rw [this]; simp
theorem Row.other {w : World} {g : Nat} {t : TypeId} {L : List Value} (h : Row w g t L) (a : Addr) (v : Value) (hne : g ≠ a.block) : Row (w.setCell a v) g t L := by
  unfold Row; rw [heap_setCell_other w a g v hne]; exact h
theorem Row.alloc {w : World} {g : Nat} {t : TypeId} {L : List Value} (h : Row w g t L) (o : Obj) : Row (w.alloc o) g t L := by
  unfold Row; rw [Below.heap_alloc w o g h.lt]; exact h
theorem Row.new (w : World) (t : TypeId) (L : List Value) : Row (w.alloc (.cells L.toArray t)) w.heap.size t L := heap_alloc_new w _
theorem Row.fr {w w' : World} {g : Nat} {t : TypeId} {L : List Value} {bs : List Nat} (h : Row w g t L) (hf : Fr w w' bs) (hne : g ∉ bs) : Row w' g t L := by
  unfold Row; rw [hf.block g h.lt hne]; exact h
theorem Row.drewN {w : World} {g : Nat} {t : TypeId} {L : List Value} (h : Row w g t L) (n : Nat) : Row (w.drewN n) g t L := h
theorem Row.drew {w : World} {g : Nat} {t : TypeId} {L : List Value} (h : Row w g t L) : Row w.drew g t L := h

theorem Fr.refl (w : World) (bs : List Nat) : Fr w w bs := ⟨rfl, rfl, rfl, Nat.le_refl _, fun _ _ _ => rfl⟩
theorem Fr.trans {a b c : World} {bs : List Nat} (h : Fr a b bs) (k : Fr b c bs) : Fr a c bs :=
  ⟨k.os.trans h.os, k.tape.trans h.tape, k.output.trans h.output, Nat.le_trans h.size k.size, fun i hi hn => (k.block i (Nat.lt_of_lt_of_le hi h.size) hn).trans (h.block i hi hn)⟩
theorem Fr.alloc {a w : World} {bs : List Nat} (h : Fr a w bs) (o : Obj) : Fr a (w.alloc o) bs :=
  ⟨h.os, h.tape, h.output, by have := h.size; simp; omega, fun k hk hn => (Below.heap_alloc w o k (Nat.lt_of_lt_of_le hk h.size)).trans (h.block k hk hn)⟩
theorem Fr.setCell {a w : World} {bs : List Nat} (h : Fr a w bs) (p : Addr) (u : Value) (hp : p.block ∈ bs ∨ a.heap.size ≤ p.block) : Fr a (w.setCell p u) bs :=
  ⟨h.os, h.tape, h.output, by have := h.size; simpa using this, fun k hk hn => (Below.heap_setCell w p u k (by
    rcases hp with hp | hp
    · intro e; subst e; exact hn hp
    · intro e; subst e; exact absurd hk (by omega))).trans (h.block k hk hn)⟩
theorem Fr.drew {a w : World} {bs : List Nat} (h : Fr a w bs) : Fr a w.drew bs := ⟨h.os, h.tape, h.output, h.size, h.block⟩
theorem Fr.drewN {a w : World} {bs : List Nat} (h : Fr a w bs) (n : Nat) : Fr a (w.drewN n) bs := ⟨h.os, h.tape, h.output, h.size, h.block⟩
theorem Fr.ofBelow {a w w' : World} {bs : List Nat} (h : Fr a w bs) {B : Nat} (k : Below B w w') (hB : w.heap.size ≤ B) : Fr a w' bs :=
  h.trans ⟨k.os, k.tape, k.output, k.size, fun i hi _ => k.block i (Nat.lt_of_lt_of_le hi hB)⟩
theorem Fr.toBelow {a w : World} {bs : List Nat} (h : Fr a w bs) {B : Nat} (hB : B ≤ a.heap.size) (hbs : ∀ b ∈ bs, B ≤ b) : Below B a w :=
  ⟨h.os, h.tape, h.output, h.size, fun k hk => h.block k (by omega) (fun hm => by have := hbs k hm; omega)⟩
theorem Fr.weaken {a w : World} {bs bs' : List Nat} (h : Fr a w bs) (hs : ∀ b ∈ bs, b ∈ bs' ∨ a.heap.size ≤ b) : Fr a w bs' :=
  ⟨h.os, h.tape, h.output, h.size, fun k hk hn => h.block k hk (fun hm => by rcases hs k hm with h' | h'; exact hn h'; omega)⟩

/-! The plain mathematics. -/

/-- Are the two strings one? -/
def seq (a b : ByteArray) : Bool := a.toList == b.toList

/-- How many of the first k are c. -/
def cntK (T : List ByteArray) (c : ByteArray) : Nat → Nat
  | 0 => 0
  | k + 1 => cntK T c k + (if seq (T.getD k ByteArray.empty) c = true then 1 else 0)
/-- Where c stands first among the first k, or -1. -/
def atK (T : List ByteArray) (c : ByteArray) : Nat → Int
  | 0 => -1
  | k + 1 => if seq (T.getD k ByteArray.empty) c = true ∧ atK T c k < 0 then (k : Int) else atK T c k

theorem atK_cntK (T : List ByteArray) (c : ByteArray) (k : Nat) : (0 ≤ atK T c k ↔ 1 ≤ cntK T c k) ∧ -1 ≤ atK T c k ∧ atK T c k < k ∧ cntK T c k ≤ k := by
  induction k with
  | zero => simp [atK, cntK]
  | succ k ih =>
    simp only [atK, cntK]
    by_cases hs : seq (T.getD k ByteArray.empty) c = true
    · by_cases hn : atK T c k < 0
      · rw [if_pos ⟨hs, hn⟩, if_pos hs]; omega
      · rw [if_neg (fun h => hn h.2), if_pos hs]; omega
    · rw [if_neg (fun h => hs h.1), if_neg hs]; omega

theorem cntK_mono (T : List ByteArray) (c : ByteArray) {k k' : Nat} (h : k ≤ k') : cntK T c k ≤ cntK T c k' := by
  induction k' with
  | zero => have : k = 0 := by omega
            subst this; exact Nat.le_refl _
  | succ n ih =>
    by_cases e : k = n + 1
    · subst e; exact Nat.le_refl _
    · have := ih (by omega); simp only [cntK]; omega

theorem atK_hit {T : List ByteArray} {c x : ByteArray} {k : Nat} (hx : T[k]? = some x) (hs : seq x c = true) (hn : atK T c k < 0) : atK T c (k + 1) = (k : Int) := by
  have e : T.getD k ByteArray.empty = x := by simp [List.getD, hx]
  simp only [atK, e]; rw [if_pos ⟨hs, hn⟩]
theorem atK_old {T : List ByteArray} {c : ByteArray} {k : Nat} (hn : ¬ atK T c k < 0) : atK T c (k + 1) = atK T c k := by
  simp only [atK]; rw [if_neg (fun h => hn h.2)]
theorem atK_miss {T : List ByteArray} {c x : ByteArray} {k : Nat} (hx : T[k]? = some x) (hs : seq x c = false) : atK T c (k + 1) = atK T c k := by
  have e : T.getD k ByteArray.empty = x := by simp [List.getD, hx]
  simp only [atK, e, hs]; simp
theorem cntK_hit {T : List ByteArray} {c x : ByteArray} {k : Nat} (hx : T[k]? = some x) (hs : seq x c = true) : cntK T c (k + 1) = cntK T c k + 1 := by
  have e : T.getD k ByteArray.empty = x := by simp [List.getD, hx]
  simp only [cntK, e, hs]; simp
theorem cntK_miss {T : List ByteArray} {c x : ByteArray} {k : Nat} (hx : T[k]? = some x) (hs : seq x c = false) : cntK T c (k + 1) = cntK T c k := by
  have e : T.getD k ByteArray.empty = x := by simp [List.getD, hx]
  simp only [cntK, e, hs]; simp

/-- The row of positions after i columns: theirs, and noughts behind. -/
def posRow (T cs : List ByteArray) (i : Nat) : List Value := (cs.take i).map (fun c => Value.int .i64 (atK T c T.length)) ++ List.replicate (cs.length - i) (.int .i64 0)

theorem posRow_length (T cs : List ByteArray) (i : Nat) (h : i ≤ cs.length) : (posRow T cs i).length = cs.length := by
  simp [posRow]; omega
theorem posRow_zero (T cs : List ByteArray) : posRow T cs 0 = List.replicate cs.length (.int .i64 0) := by simp [posRow]
theorem posRow_all (T cs : List ByteArray) : posRow T cs cs.length = cs.map (fun c => Value.int .i64 (atK T c T.length)) := by simp [posRow]
theorem posRow_set (T cs : List ByteArray) (i : Nat) {c : ByteArray} (h : cs[i]? = some c) : (posRow T cs i).set i (.int .i64 (atK T c T.length)) = posRow T cs (i + 1) := by
  obtain ⟨hlt, hc⟩ := List.getElem?_eq_some_iff.1 h
  have e1 : ((cs.take i).map (fun c => Value.int .i64 (atK T c T.length))).length = i := by simp; omega
  have e2 : cs.length - i = (cs.length - (i + 1)) + 1 := by omega
  unfold posRow
  rw [List.set_append_right (h := by omega), e1, e2, Nat.sub_self, List.replicate_succ, List.set_cons_zero, List.take_succ_eq_append_getElem hlt]
  simp [hc]
theorem set_set {α : Type} (L : List α) (i : Nat) (a b : α) : (L.set i a).set i b = L.set i b := by simp
theorem get_set {α : Type} (L : List α) (i : Nat) (a : α) (h : i < L.length) : (L.set i a)[i]? = some a := by simp [h]

end Go.Proofs.YbulkaqmiFmt
