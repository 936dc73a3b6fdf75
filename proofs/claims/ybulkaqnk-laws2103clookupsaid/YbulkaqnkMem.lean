/-
  Rows of memory that are known whole, maps of pointers keyed by strings, and the frame: no function of the program is named here.
-/
import Derived.WalkKit
import Derived.WalkSpells
import Derived.Deep.QuietTactic
import Derived.BigQuiet
import Derived.MapKept
namespace Go.Proofs.Ybulkaqnk
open Go.RowKit

theorem hide {p : Prop} (h : p) : Hid p := h

/-- Block g holds just the cells L of type t, none of them frozen. -/
def Row (w : World) (g : Nat) (t : TypeId) (L : List Value) : Prop := w.heap[g]? = some (.cells L.toArray t (0, 0))

/-- w' is w with new blocks, and with writes to the blocks of bs alone. -/
structure Fr (w w' : World) (bs : List Nat) : Prop where
  os : w'.os = w.os
  tape : w'.tape = w.tape
  output : w'.output = w.output
  size : w.heap.size ≤ w'.heap.size
  block : ∀ k, k < w.heap.size → k ∉ bs → w'.heap[k]? = w.heap[k]?

theorem Row.lt {w : World} {g : Nat} {t : TypeId} {L : List Value} (h : Row w g t L) : g < w.heap.size := lt_of_block h
theorem Row.cell {w : World} {g : Nat} {t : TypeId} {L : List Value} (h : Row w g t L) (j : Nat) {v : Value} (hj : L[j]? = some v) : w.cell? ⟨g, j, none⟩ = some v := by
  rw [cell_of_row w g j _ t _ h]; simpa using hj
theorem Row.free {w : World} {g : Nat} {t : TypeId} {L : List Value} (h : Row w g t L) (j : Nat) : w.frozen? ⟨g, j, none⟩ = false := frozen_of_row w g j _ t h
theorem Row.set {w : World} {g : Nat} {t : TypeId} {L : List Value} (h : Row w g t L) (j : Nat) (v : Value) : Row (w.setCell ⟨g, j, none⟩ v) g t (L.set j v) := by
  have := heap_setCell_same w g j _ t v h
  unfold Row; rw [this]; simp
theorem Row.other {w : World} {g : Nat} {t : TypeId} {L : List Value} (h : Row w g t L) (a : Addr) (v : Value) (hne : g ≠ a.block) : Row (w.setCell a v) g t L := by
  unfold Row; rw [heap_setCell_other w a g v hne]; exact h
theorem Row.alloc {w : World} {g : Nat} {t : TypeId} {L : List Value} (h : Row w g t L) (o : Obj) : Row (w.alloc o) g t L := by
  unfold Row; rw [Below.heap_alloc w o g h.lt]; exact h
theorem Row.new (w : World) (t : TypeId) (L : List Value) : Row (w.alloc (.cells L.toArray t)) w.heap.size t L := heap_alloc_new w _
theorem Row.fr {w w' : World} {g : Nat} {t : TypeId} {L : List Value} {bs : List Nat} (h : Row w g t L) (hf : Fr w w' bs) (hne : g ∉ bs) : Row w' g t L := by
  unfold Row; rw [hf.block g h.lt hne]; exact h
theorem Row.drewN {w : World} {g : Nat} {t : TypeId} {L : List Value} (h : Row w g t L) (n : Nat) : Row (w.drewN n) g t L := h
theorem Row.drew {w : World} {g : Nat} {t : TypeId} {L : List Value} (h : Row w g t L) : Row w.drew g t L := h

theorem Fr.refl (w : World) (bs : List Nat) : Fr w w bs := ⟨rfl, rfl, rfl, Nat.le_refl _, fun _ _ _ => rfl⟩
theorem Fr.trans {a b c : World} {bs : List Nat} (h : Fr a b bs) (k : Fr b c bs) : Fr a c bs :=
  ⟨k.os.trans h.os, k.tape.trans h.tape, k.output.trans h.output, Nat.le_trans h.size k.size, fun i hi hn => (k.block i (Nat.lt_of_lt_of_le hi h.size) hn).trans (h.block i hi hn)⟩
theorem Fr.alloc {a w : World} {bs : List Nat} (h : Fr a w bs) (o : Obj) : Fr a (w.alloc o) bs :=
  ⟨h.os, h.tape, h.output, by have := h.size; simp; omega, fun k hk hn => (Below.heap_alloc w o k (Nat.lt_of_lt_of_le hk h.size)).trans (h.block k hk hn)⟩
theorem Fr.setCell {a w : World} {bs : List Nat} (h : Fr a w bs) (p : Addr) (u : Value) (hp : p.block ∈ bs ∨ a.heap.size ≤ p.block) : Fr a (w.setCell p u) bs :=
  ⟨h.os, h.tape, h.output, by have := h.size; simpa using this, fun k hk hn => (Below.heap_setCell w p u k (by
    rcases hp with hp | hp
    · intro e; subst e; exact hn hp
    · intro e; subst e; exact absurd hk (by omega))).trans (h.block k hk hn)⟩
theorem Fr.drew {a w : World} {bs : List Nat} (h : Fr a w bs) : Fr a w.drew bs := ⟨h.os, h.tape, h.output, h.size, h.block⟩
theorem Fr.drewN {a w : World} {bs : List Nat} (h : Fr a w bs) (n : Nat) : Fr a (w.drewN n) bs := ⟨h.os, h.tape, h.output, h.size, h.block⟩
theorem Fr.ofBelow {a w w' : World} {bs : List Nat} (h : Fr a w bs) {B : Nat} (k : Below B w w') (hB : w.heap.size ≤ B) : Fr a w' bs :=
  h.trans ⟨k.os, k.tape, k.output, k.size, fun i hi _ => k.block i (Nat.lt_of_lt_of_le hi hB)⟩
theorem Fr.toBelow {a w : World} {bs : List Nat} (h : Fr a w bs) {B : Nat} (hB : B ≤ a.heap.size) (hbs : ∀ b ∈ bs, B ≤ b) : Below B a w :=
  ⟨h.os, h.tape, h.output, h.size, fun k hk => h.block k (by omega) (fun hm => by have := hbs k hm; omega)⟩
theorem Fr.weaken {a w : World} {bs bs' : List Nat} (h : Fr a w bs) (hs : ∀ b ∈ bs, b ∈ bs' ∨ a.heap.size ≤ b) : Fr a w bs' :=
  ⟨h.os, h.tape, h.output, h.size, fun k hk hn => h.block k hk (fun hm => by rcases hs k hm with h' | h'; exact hn h'; omega)⟩

theorem Fr.step {a b c : World} {bs bs' : List Nat} (h : Fr a b bs) (k : Fr b c bs') (hs : ∀ x ∈ bs', x ∈ bs ∨ a.heap.size ≤ x) : Fr a c bs :=
  ⟨k.os.trans h.os, k.tape.trans h.tape, k.output.trans h.output, Nat.le_trans h.size k.size, fun i hi hn => (k.block i (Nat.lt_of_lt_of_le hi h.size) (fun hm => by rcases hs i hm with h' | h'; exact hn h'; omega)).trans (h.block i hi hn)⟩

/-- Block g is a map whose entries, in their order, are the pairs of M: a string, a pointer to the head of a block. -/
def MapIs (w : World) (g : Nat) (M : List (ByteArray × Nat)) : Prop :=
  ∃ es clock, w.heap[g]? = some (.map es clock) ∧ es.toList.map (fun e => (e.key, e.val)) = M.map (fun p => (Value.string p.1, Value.pointer (some ⟨p.2, 0, none⟩)))

theorem MapIs.lt {w : World} {g : Nat} {M : List (ByteArray × Nat)} (h : MapIs w g M) : g < w.heap.size := by
  obtain ⟨es, clock, hb, _⟩ := h
  exact lt_of_block hb
theorem MapIs.fr {w w' : World} {g : Nat} {M : List (ByteArray × Nat)} {bs : List Nat} (h : MapIs w g M) (hf : Fr w w' bs) (hne : g ∉ bs) : MapIs w' g M := by
  have hl := h.lt
  obtain ⟨es, clock, hb, hm⟩ := h
  exact ⟨es, clock, (hf.block g hl hne).trans hb, hm⟩
theorem MapIs.alloc {w : World} {g : Nat} {M : List (ByteArray × Nat)} (h : MapIs w g M) (o : Obj) : MapIs (w.alloc o) g M := h.fr ((Fr.refl w []).alloc o) (by simp)
theorem MapIs.other {w : World} {g : Nat} {M : List (ByteArray × Nat)} (h : MapIs w g M) (a : Addr) (v : Value) (hne : g ≠ a.block) : MapIs (w.setCell a v) g M :=
  h.fr ((Fr.refl w [a.block]).setCell a v (.inl (by simp))) (by simpa using hne)
theorem MapIs.drewN {w : World} {g : Nat} {M : List (ByteArray × Nat)} (h : MapIs w g M) (n : Nat) : MapIs (w.drewN n) g M := h
theorem MapIs.drew {w : World} {g : Nat} {M : List (ByteArray × Nat)} (h : MapIs w g M) : MapIs w.drew g M := h
theorem MapIs.new (w : World) : MapIs (w.alloc (.map #[] 0)) w.heap.size [] := ⟨#[], 0, heap_alloc_new w _, rfl⟩

theorem keys_of {es : Array MapEntry} {M : List (ByteArray × Nat)} (h : es.toList.map (fun e => (e.key, e.val)) = M.map (fun p => (Value.string p.1, Value.pointer (some ⟨p.2, 0, none⟩)))) :
    (∀ x ∈ es.toList, ∃ p ∈ M, x.key = .string p.1 ∧ x.val = .pointer (some ⟨p.2, 0, none⟩)) ∧ (∀ p ∈ M, ∃ x ∈ es.toList, x.key = .string p.1 ∧ x.val = .pointer (some ⟨p.2, 0, none⟩)) := by
  constructor
  · intro x hx
    have : (x.key, x.val) ∈ M.map (fun p => (Value.string p.1, Value.pointer (some ⟨p.2, 0, none⟩))) := h ▸ List.mem_map.2 ⟨x, hx, rfl⟩
    obtain ⟨p, hp, e⟩ := List.mem_map.1 this
    simp only [Prod.mk.injEq] at e
    exact ⟨p, hp, e.1.symm, e.2.symm⟩
  · intro p hp
    have : (Value.string p.1, Value.pointer (some ⟨p.2, 0, none⟩)) ∈ es.toList.map (fun e => (e.key, e.val)) := h ▸ List.mem_map.2 ⟨p, hp, rfl⟩
    obtain ⟨x, hx, e⟩ := List.mem_map.1 this
    simp only [Prod.mk.injEq] at e
    exact ⟨x, hx, e.1, e.2⟩

section
variable {P : Program} {t kt et : TypeId}

theorem isKey_string (s : ByteArray) : MapKept.IsKey .string (.string s) := by simp [MapKept.IsKey]

/-- 'm[q]' -/
theorem MapIs.look {w : World} {g : Nat} {M : List (ByteArray × Nat)} (h : MapIs w g M) (ht : P.underlying t = some (.map kt et)) (hk : P.underlying kt = some .string) (hz : ∀ w, (zeroValue et).run P w = .ok (.pointer none) w) (q : ByteArray) :
    ∃ v, (Instr.lookup t (.map (some g)) (.string q) false).run P w = .ok v w ∧ ((∃ b, (q, b) ∈ M ∧ v = .pointer (some ⟨b, 0, none⟩)) ∨ ((∀ p ∈ M, p.1 ≠ q) ∧ v = .pointer none)) := by
  obtain ⟨es, clock, hb, hm⟩ := h
  have hks := keys_of hm
  rcases MapKept.findNow_spec (isKey_string q) es.toList 0 (fun x hx => by obtain ⟨p, _, e, _⟩ := hks.1 x hx; rw [e]; exact isKey_string _) with ⟨h1, h2⟩ | ⟨j, e, h1, h2, h3⟩
  · refine ⟨_, by simp [Instr.lookup, run_underlying ht, MapKept.run_getObj_map hb, MapKept.run_checkKey hk (isKey_string q), MapKept.run_findKey hk h1, hz, Result.andThen], .inr ⟨fun p hp e => ?_, rfl⟩⟩
    obtain ⟨x, hx, ex, _⟩ := hks.2 p hp
    exact h2 x hx (by rw [ex, e])
  · obtain ⟨p, hp, e1, e2⟩ := hks.1 e (List.mem_of_getElem? h2)
    refine ⟨_, by simp [Instr.lookup, run_underlying ht, MapKept.run_getObj_map hb, MapKept.run_checkKey hk (isKey_string q), MapKept.run_findKey hk h1, Result.andThen], .inl ⟨p.2, ?_, e2⟩⟩
    rw [e1] at h3
    simp at h3
    rw [← h3]
    exact hp

/-- 'm[k] = v' at a key that is not there. -/
theorem MapIs.push {w : World} {g : Nat} {M : List (ByteArray × Nat)} (h : MapIs w g M) (ht : P.underlying t = some (.map kt et)) (hk : P.underlying kt = some .string) (q : ByteArray) (b : Nat) (hno : ∀ p ∈ M, p.1 ≠ q) :
    ∃ w', (Instr.mapUpdate t (.map (some g)) (.string q) (.pointer (some ⟨b, 0, none⟩))).run P w = .ok () w' ∧ MapIs w' g (M ++ [(q, b)]) ∧ Fr w w' [g] ∧ w'.heap.size = w.heap.size := by
  obtain ⟨es, clock, hb, hm⟩ := h
  have hks := keys_of hm
  rcases MapKept.findNow_spec (isKey_string q) es.toList 0 (fun x hx => by obtain ⟨p, _, e, _⟩ := hks.1 x hx; rw [e]; exact isKey_string _) with ⟨h1, h2⟩ | ⟨j, e, h1, h2, h3⟩
  · refine ⟨{ w with heap := w.heap.setIfInBounds g (.map (es.push ⟨.string q, .pointer (some ⟨b, 0, none⟩), clock⟩) (clock + 1)) }, by simp [Instr.mapUpdate, run_underlying ht, MapKept.run_getObj_map hb, MapKept.run_checkKey hk (isKey_string q), MapKept.run_findKey hk h1, MapKept.run_setObj_map _ hb, Result.andThen], ⟨_, _, (MapKept.heap_set hb).1, ?_⟩, ⟨rfl, rfl, rfl, by simp, fun k hk' hn => (MapKept.heap_set hb).2 k (by simpa using hn)⟩, by simp⟩
    simp [hm]
  · exfalso
    obtain ⟨p, hp, e1, e2⟩ := hks.1 e (List.mem_of_getElem? h2)
    rw [e1] at h3
    simp at h3
    exact hno p hp h3

/-- 'm[k] = v' where v is what is there. -/
theorem MapIs.again {w : World} {g : Nat} {M : List (ByteArray × Nat)} (h : MapIs w g M) (ht : P.underlying t = some (.map kt et)) (hk : P.underlying kt = some .string) (q : ByteArray) (b : Nat) (hin : ∃ p ∈ M, p.1 = q) (hone : ∀ p ∈ M, p.1 = q → p.2 = b) :
    ∃ w', (Instr.mapUpdate t (.map (some g)) (.string q) (.pointer (some ⟨b, 0, none⟩))).run P w = .ok () w' ∧ MapIs w' g M ∧ Fr w w' [g] ∧ w'.heap.size = w.heap.size := by
  obtain ⟨es, clock, hb, hm⟩ := h
  have hks := keys_of hm
  rcases MapKept.findNow_spec (isKey_string q) es.toList 0 (fun x hx => by obtain ⟨p, _, e, _⟩ := hks.1 x hx; rw [e]; exact isKey_string _) with ⟨h1, h2⟩ | ⟨j, e, h1, h2, h3⟩
  · exfalso
    obtain ⟨p, hp, e⟩ := hin
    obtain ⟨x, hx, ex, _⟩ := hks.2 p hp
    exact h2 x hx (by rw [ex, e])
  · have hj : es[j]? = some e := by simpa using h2
    obtain ⟨p, hp, e1, e2⟩ := hks.1 e (List.mem_of_getElem? h2)
    have hval : e.val = .pointer (some ⟨b, 0, none⟩) := by
      rw [e2, hone p hp (by rw [e1] at h3; simpa using h3)]
    refine ⟨{ w with heap := w.heap.setIfInBounds g (.map (es.modify j fun e => { e with key := .string q, val := .pointer (some ⟨b, 0, none⟩) }) clock) }, by simp [Instr.mapUpdate, run_underlying ht, MapKept.run_getObj_map hb, MapKept.run_checkKey hk (isKey_string q), MapKept.run_findKey hk h1, hj, h3, MapKept.run_keyThatStays (isKey_string q), MapKept.run_setObj_map _ hb, Result.andThen], ⟨_, _, (MapKept.heap_set hb).1, ?_⟩, ⟨rfl, rfl, rfl, by simp, fun k hk' hn => (MapKept.heap_set hb).2 k (by simpa using hn)⟩, by simp⟩
    rw [← hm]
    apply List.ext_getElem?
    intro i
    simp only [Array.toList_modify, List.getElem?_map, List.getElem?_modify]
    by_cases hi : j = i
    · subst hi
      simp [h2, h3, hval]
    · simp [hi]

/-- 'len(m)' -/
theorem MapIs.len {w : World} {g : Nat} {M : List (ByteArray × Nat)} (h : MapIs w g M) (ht : P.underlying t = some (.map kt et)) (ty : TypeId) : (Builtin.len_ #[t] ty #[.map (some g)]).run P w = .ok (.int .i64 M.length) w := by
  obtain ⟨es, clock, hb, hm⟩ := h
  have hl : es.size = M.length := by
    have := congrArg List.length hm
    simpa using this
  simp [Builtin.len_, run_underlying ht, MapKept.run_getObj_map hb, Result.andThen, hl, goInt]
end

end Go.Proofs.Ybulkaqnk
