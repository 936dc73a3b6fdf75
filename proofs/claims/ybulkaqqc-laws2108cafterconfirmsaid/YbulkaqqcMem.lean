/-
  Rows of memory that are known whole, and the frame: no function of the program is named here.
-/
import Derived.WalkKit
import Derived.WalkSpells
import Derived.Deep.QuietTactic
import Derived.BigQuiet
namespace Go.Proofs.Ybulkaqqc
open Go.RowKit

theorem hide {p : Prop} (h : p) : Hid p := h

/-- Block g holds just the cells L of type t, none of them frozen. -/
def Row (w : World) (g : Nat) (t : TypeId) (L : List Value) : Prop := w.heap[g]? = some (.cells L.toArray t (0, 0))

/-- w' is w with new blocks, and with writes to the blocks of bs alone. -/
structure Fr (w w' : World) (bs : List Nat) : Prop where
  os : w'.os = w.os
  tape : w'.tape = w.tape
  output : w'.output = w.output
  size : w.heap.size ≤ w'.heap.size
  block : ∀ k, k < w.heap.size → k ∉ bs → w'.heap[k]? = w.heap[k]?

theorem Row.lt {w : World} {g : Nat} {t : TypeId} {L : List Value} (h : Row w g t L) : g < w.heap.size := lt_of_block h
theorem Row.cell {w : World} {g : Nat} {t : TypeId} {L : List Value} (h : Row w g t L) (j : Nat) {v : Value} (hj : L[j]? = some v) : w.cell? ⟨g, j, none⟩ = some v := by
  rw [cell_of_row w g j _ t _ h]; simpa using hj
theorem Row.free {w : World} {g : Nat} {t : TypeId} {L : List Value} (h : Row w g t L) (j : Nat) : w.frozen? ⟨g, j, none⟩ = false := frozen_of_row w g j _ t h
theorem Row.set {w : World} {g : Nat} {t : TypeId} {L : List Value} (h : Row w g t L) (j : Nat) (v : Value) : Row (w.setCell ⟨g, j, none⟩ v) g t (L.set j v) := by
  have := heap_setCell_same w g j _ t v h
  unfold Row; rw [this]; simp
theorem Row.other {w : World} {g : Nat} {t : TypeId} {L : List Value} (h : Row w g t L) (a : Addr) (v : Value) (hne : g ≠ a.block) : Row (w.setCell a v) g t L := by
  unfold Row; rw [heap_setCell_other w a g v hne]; exact h
theorem Row.alloc {w : World} {g : Nat} {t : TypeId} {L : List Value} (h : Row w g t L) (o : Obj) : Row (w.alloc o) g t L := by
  unfold Row; rw [Below.heap_alloc w o g h.lt]; exact h
theorem Row.new (w : World) (t : TypeId) (L : List Value) : Row (w.alloc (.cells L.toArray t)) w.heap.size t L := heap_alloc_new w _
theorem Row.fr {w w' : World} {g : Nat} {t : TypeId} {L : List Value} {bs : List Nat} (h : Row w g t L) (hf : Fr w w' bs) (hne : g ∉ bs) : Row w' g t L := by
  unfold Row; rw [hf.block g h.lt hne]; exact h
theorem Row.drewN {w : World} {g : Nat} {t : TypeId} {L : List Value} (h : Row w g t L) (n : Nat) : Row (w.drewN n) g t L := h
theorem Row.drew {w : World} {g : Nat} {t : TypeId} {L : List Value} (h : Row w g t L) : Row w.drew g t L := h

theorem Fr.refl (w : World) (bs : List Nat) : Fr w w bs := ⟨rfl, rfl, rfl, Nat.le_refl _, fun _ _ _ => rfl⟩
theorem Fr.trans {a b c : World} {bs : List Nat} (h : Fr a b bs) (k : Fr b c bs) : Fr a c bs :=
  ⟨k.os.trans h.os, k.tape.trans h.tape, k.output.trans h.output, Nat.le_trans h.size k.size, fun i hi hn => (k.block i (Nat.lt_of_lt_of_le hi h.size) hn).trans (h.block i hi hn)⟩
theorem Fr.alloc {a w : World} {bs : List Nat} (h : Fr a w bs) (o : Obj) : Fr a (w.alloc o) bs :=
  ⟨h.os, h.tape, h.output, by have := h.size; simp; omega, fun k hk hn => (Below.heap_alloc w o k (Nat.lt_of_lt_of_le hk h.size)).trans (h.block k hk hn)⟩
theorem Fr.setCell {a w : World} {bs : List Nat} (h : Fr a w bs) (p : Addr) (u : Value) (hp : p.block ∈ bs ∨ a.heap.size ≤ p.block) : Fr a (w.setCell p u) bs :=
  ⟨h.os, h.tape, h.output, by have := h.size; simpa using this, fun k hk hn => (Below.heap_setCell w p u k (by
    rcases hp with hp | hp
    · intro e; subst e; exact hn hp
    · intro e; subst e; exact absurd hk (by omega))).trans (h.block k hk hn)⟩
theorem Fr.drew {a w : World} {bs : List Nat} (h : Fr a w bs) : Fr a w.drew bs := ⟨h.os, h.tape, h.output, h.size, h.block⟩
theorem Fr.drewN {a w : World} {bs : List Nat} (h : Fr a w bs) (n : Nat) : Fr a (w.drewN n) bs := ⟨h.os, h.tape, h.output, h.size, h.block⟩
theorem Fr.ofBelow {a w w' : World} {bs : List Nat} (h : Fr a w bs) {B : Nat} (k : Below B w w') (hB : w.heap.size ≤ B) : Fr a w' bs :=
  h.trans ⟨k.os, k.tape, k.output, k.size, fun i hi _ => k.block i (Nat.lt_of_lt_of_le hi hB)⟩
theorem Fr.toBelow {a w : World} {bs : List Nat} (h : Fr a w bs) {B : Nat} (hB : B ≤ a.heap.size) (hbs : ∀ b ∈ bs, B ≤ b) : Below B a w :=
  ⟨h.os, h.tape, h.output, h.size, fun k hk => h.block k (by omega) (fun hm => by have := hbs k hm; omega)⟩
theorem Fr.weaken {a w : World} {bs bs' : List Nat} (h : Fr a w bs) (hs : ∀ b ∈ bs, b ∈ bs' ∨ a.heap.size ≤ b) : Fr a w bs' :=
  ⟨h.os, h.tape, h.output, h.size, fun k hk hn => h.block k hk (fun hm => by rcases hs k hm with h' | h'; exact hn h'; omega)⟩

theorem Fr.step {a b c : World} {bs bs' : List Nat} (h : Fr a b bs) (k : Fr b c bs') (hs : ∀ x ∈ bs', x ∈ bs ∨ a.heap.size ≤ x) : Fr a c bs :=
  ⟨k.os.trans h.os, k.tape.trans h.tape, k.output.trans h.output, Nat.le_trans h.size k.size, fun i hi hn => (k.block i (Nat.lt_of_lt_of_le hi h.size) (fun hm => by rcases hs i hm with h' | h'; exact hn h'; omega)).trans (h.block i hi hn)⟩

theorem Fr.grown {a w w' : World} {bs : List Nat} {row : Option Nat} (h : Fr a w bs) (g : w.grownBy w' row) (hr : ∀ k, row = some k → a.heap.size ≤ k) : Fr a w' bs :=
  ⟨g.os.trans h.os, g.tape.trans h.tape, g.output.trans h.output, Nat.le_trans h.size g.size, fun i hi hn => (g.block i (Nat.lt_of_lt_of_le hi h.size) (fun e => by have := hr i e.symm; omega)).trans (h.block i hi hn)⟩
theorem Row.grown {w w' : World} {g : Nat} {t : TypeId} {L : List Value} {row : Option Nat} (h : Row w g t L) (hg : w.grownBy w' row) (hne : some g ≠ row) : Row w' g t L := by
  unfold Row; rw [hg.block g h.lt hne]; exact h

end Go.Proofs.Ybulkaqqc
