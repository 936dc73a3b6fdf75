/-
  The contract of zzs2108cclient (function 5).
-/
import Derived.Test.YbulkaqqcRows
import Derived.Test.YbulkaqqcMem
namespace Go.Proofs.Ybulkaqqc
open Go.RowKit

/-- The zero Client but for its open and pending slices. -/
def clientL (o p : Value) : List Value := [.string ⟨#[]⟩, .string ⟨#[]⟩, .string ⟨#[]⟩, .pointer none, .pointer none, .int .i32 0, .int .u32 0, .map none, .map none, .int .u64 0, .int .u64 0, p, o, .pointer none, .int .u64 0, .nilIface, .pointer none, .bool false, .bool false, .int .i64 0, .slice none 0 0, .slice none 0 0, .bool false, .chan none, .int .u32 0, .int .u64 0, .int .u64 0, .int .u64 0, .int .u64 0, .int .u64 0, .chan none, .nilIface, .bool false, .int .u64 0, .nilIface, .int .u64 0, .int .u64 0, .chan none, .nilFunc, .chan none, .int .i64 0, .int .i64 0, .nilIface]
def clientA : Array Value := (clientL (.slice none 0 0) (.slice none 0 0)).toArray
theorem zero61 (w : World) : (zeroValue 61).run Yba.prog w = .ok (.agg clientA) w := by kernel_rfl
theorem clientA_size : clientA.size = 43 := by kernel_rfl
theorem client_set12 (o o' p : Value) : (clientL o p).set 12 o' = clientL o' p := rfl
theorem client_set11 (o p p' : Value) : (clientL o p).set 11 p' = clientL o p' := rfl

def updA : Array Value := #[.int .u8 0, .string ⟨#[]⟩, .string ⟨#[]⟩, .string ⟨#[]⟩, .string ⟨#[]⟩, .string ⟨#[]⟩, .int .i64 0]
def openA (m : Nat) : Array Value := madeCells updA (m * 7)
theorem info144 : (Yba.prog.info? 144).map (fun i => (i.zero, i.size, i.bytes)) = some (some (.agg updA), 7, 96) := by kernel_rfl
theorem make_open (m : Nat) (h : m ≤ 1024) (w : World) : (Instr.makeSlice 40 (.int .i64 (m : Int)) (.int .i64 (m : Int))).run Yba.prog w = .ok (.slice (some ⟨w.heap.size, 0, none⟩) m m) (w.alloc (.cells (openA m) 144)) := by
  obtain ⟨i0, hi, hz0, hz1, hz2⟩ := info_parts info144
  have := run_make (P := Yba.prog) w 40 144 i0 (.agg updA) Yba.underlying40 hi hz0 .i64 .i64 (m : Int) (m : Int) (by omega) (by omega) (by rw [hz2]; omega) (by omega)
  rw [this, hz1]
  simp [openA, Value.cells]

/-- The cells of m transactions, numbered from 1. -/
def txns : Nat → List Value
  | 0 => []
  | m + 1 => txns m ++ [.int .u64 ((m : Int) + 1), .slice none 0 0]
theorem info66 : (Yba.prog.info? 66).map (fun i => (i.zero, i.size, i.bytes)) = some (some (.agg #[.int .u64 0, .slice none 0 0]), 2, 32) := by kernel_rfl

/-- The loop's relation. -/
structure Cl (w wr : World) (ov v : Value) (k : Nat) : Prop where
  rc : Row wr w.heap.size 61 (clientL ov v)
  own : wr.ownsRow (w.heap.size + 1) 66 2 v k (txns k)
  fr : Fr w wr []

theorem own_apart {w wr : World} {ov v : Value} {k : Nat} (R : Cl w wr ov v k) : ∀ g, v.ownBlock = some g → w.heap.size + 1 ≤ g := fun g hg => (R.own.lt g hg).1
theorem next_cl {w wr w1 : World} {ov v v' : Value} {k : Nat} {o : Obj} (R : Cl w wr ov v k) (own' : w1.ownsRow (w.heap.size + 1) 66 2 v' (k + 1) (txns k ++ [.int .u64 ((k : Int) + 1), .slice none 0 0])) (hg : (wr.alloc o).grownBy w1 v.ownBlock) :
    Row w1 w.heap.size 61 (clientL ov v) ∧ Cl w (w1.setCell ⟨w.heap.size, 11, none⟩ v') ov v' (k + 1) := by
  have hap := own_apart R
  have hr : Row w1 w.heap.size 61 (clientL ov v) := (R.rc.alloc o).grown hg (fun e => by have := hap _ e.symm; omega)
  refine ⟨hr, ?_, ?_, ?_⟩
  · rw [← client_set11 ov v v']; exact hr.set 11 v'
  · exact ownsRow_setCell_below own' (by simp) v'
  · exact ((R.fr.alloc o).grown hg (fun g e => by have := hap _ e; omega)).setCell _ _ (.inr (Nat.le_refl _))

theorem own_shape {w : World} {base : Nat} {v : Value} {k : Nat} {xs : List Value} (h : w.ownsRow base 66 2 v (k + 1) xs) : ∃ g cap, v = .slice (some ⟨g, 0, none⟩) (k + 1) cap := by
  rcases h.2 with ⟨_, h'⟩ | ⟨g, cap, cur, e, _⟩
  · omega
  · exact ⟨g, cap, e⟩
theorem news_at (w : World) (t : TypeId) (x : Int) : ∀ j u, [Value.int .u64 x, .slice none 0 0][j]? = some u → (w.alloc (.cells #[.int .u64 x, .slice none 0 0] t)).cell? ((⟨w.heap.size, 0, none⟩ : Addr).add j) = some u := by
  intro j u hj
  have hadd : (⟨w.heap.size, 0, none⟩ : Addr).add j = ⟨w.heap.size, j, none⟩ := by unfold Addr.add; split <;> simp_all
  rw [hadd]
  exact (Row.new w t [Value.int .u64 x, .slice none 0 0]).cell j hj
theorem news_one (x : Int) : ∀ u ∈ [Value.int .u64 x, .slice none 0 0], u.oneCell' = true := by
  intro u hu
  simp at hu
  rcases hu with rfl | rfl <;> rfl

set_option maxRecDepth 10000 in
set_option maxHeartbeats 400000 in
theorem client_any (no np : Nat) (h1 : no ≤ 1024) (h2 : np ≤ 1024) (w : World) :
    Calls Yba.prog 5 #[.int .i64 no, .int .i64 np] w fun e w' => e = .returned (.pointer (some ⟨w.heap.size, 0, none⟩)) ∧ ∃ oa oc v, Cl w w' (.slice oa no oc) v np := by
  have hz0 := zero61
  have hzs := clientA_size
  have hmk := make_open no h1
  obtain ⟨i0, hi, hi0, hi1, hi2⟩ := info_parts info66
  have hst : (¬ 0 < no ∧ ¬ (0 : Int) < no ∧ ∃ ov, Hid (∃ oa oc, ov = Value.slice oa no oc) ∧ Hid (Cl w (w.alloc (.cells clientA 61)) ov (.slice none 0 0) 0)) ∨
      (0 < no ∧ (0 : Int) < no ∧ ∃ ov, Hid (∃ oa oc, ov = Value.slice oa no oc) ∧ Hid (Cl w ((w.alloc (.cells (clientA.setIfInBounds 12 (.slice (some ⟨w.heap.size + 1, 0, none⟩) no no)) 61)).alloc (.cells (openA no) 144)) ov (.slice none 0 0) 0)) := by
    by_cases h0 : 0 < no
    · refine .inr ⟨h0, by omega, .slice (some ⟨w.heap.size + 1, 0, none⟩) no no, ⟨_, _, rfl⟩, ?_, World.ownsRow_nil _ _ _ _, ((Fr.refl _ _).alloc _).alloc _⟩
      have := Row.new w 61 (clientL (.slice (some ⟨w.heap.size + 1, 0, none⟩) no no) (.slice none 0 0))
      rw [← client_set12 (.slice none 0 0)] at this
      have e : ((clientL (.slice none 0 0) (.slice none 0 0)).set 12 (.slice (some ⟨w.heap.size + 1, 0, none⟩) no no)).toArray = clientA.setIfInBounds 12 (.slice (some ⟨w.heap.size + 1, 0, none⟩) no no) := by simp [clientA]
      rw [e, client_set12] at this
      exact this.alloc _
    · exact .inl ⟨h0, by omega, .slice none 0 0, ⟨none, 0, by rw [show no = 0 by omega]⟩, Row.new w 61 (clientL (.slice none 0 0) (.slice none 0 0)), World.ownsRow_nil _ _ _ _, (Fr.refl _ _).alloc _⟩
  rcases hst with ⟨h0, h0', ov, HOV, HS⟩ | ⟨h0, h0', ov, HOV, HS⟩
  all_goals
    go_enter Yba.func5, Yba.ntmps5
    go_wp2_with fail
    clear hz0 hzs hmk
    go_loopw [6] (fun i wr => ∃ k : Nat, k ≤ np ∧ i = .int .i64 k ∧ ∃ v, Cl w wr ov v k) (fun i _ => np - (intOf i).toNat)
    case atStart => exact ⟨0, Nat.zero_le _, rfl, _, HS.out⟩
    case round =>
      obtain ⟨k, hk, rfl, v, R⟩ := hrel
      clear HS
      by_cases hlt : k < np
      · have c11 := R.rc.cell 11 (v := v) rfl
        have hsz := R.rc.lt
        have hown := R.own
        have HR := hide R
        clear R
        go_wp2_with (at_builtin; refine wpList_append_own _ rfl (.tmp 25) (.tmp 30) 39 rfl (w.heap.size + 1) 66 i0 _ 2 32 Yba.underlying39 hi hi0 hi1 hi2 rfl (by decide) v k (txns k) rfl (hown.alloc _) ⟨wr.heap.size, 0, none⟩ 1 1 [.int .u64 ((k : Int) + 1), .slice none 0 0] rfl rfl (news_at wr _ _) (news_one _) (by unfold maxLen; omega) (by omega) (by rw [World.size_alloc]; omega) ?_; intro v' w1 own' hg _; obtain ⟨g', cap', hv⟩ := own_shape own'; subst hv; have hn := next_cl HR.out own' hg; have c11' := hn.1.cell 11 (v := v) rfl; have z11 := hn.1.free 11; have HN := hide hn.2; clear own' hg hn c11)
        go_roundw
        case rel => exact ⟨k + 1, by omega, by go_num, _, HN.out⟩
        case measure => simp [intOf]; omega
      · obtain rfl : k = np := by omega
        obtain ⟨oa, oc, ho⟩ := HOV.out
        go_wp2
        go_ret
        exact ⟨rfl, oa, oc, v, ho ▸ R⟩

end Go.Proofs.Ybulkaqqc
