/-
  The walk of zzs2101bcheck (function 6).
-/
import Derived.Test.YbulkaqmiFmtIndex
namespace Go.Proofs.YbulkaqmiFmt
open Go.RowKit Go.Extern.Stop Go.Stop Go.Extern

theorem splice_all {α : Type} (Z X : List α) (h : Z.length = X.length) : splice Z 0 X = X := by
  simp only [splice, List.take_zero, List.nil_append, Nat.zero_add]
  rw [List.drop_eq_nil_of_le (by omega), List.append_nil]
theorem extract_trim (x : ByteArray) (h : Lib.hasPrefix x.data.toList [239, 187, 191] = true) : x.extract 3 x.size = trimP x := by
  have e1 : (x.extract 3 x.size).data.toList = x.data.toList.drop 3 := by
    rw [Lib.extract_data, List.take_of_length_le]
    rw [List.length_drop, Array.length_toList]
    exact Nat.le_refl _
  have e2 : (trimP x).data.toList = x.data.toList.drop 3 := by simp [trimP, Lib.trimPrefix, h]
  have : (x.extract 3 x.size).data = (trimP x).data := Array.toList_inj.1 (by rw [e1, e2])
  cases hx : x.extract 3 x.size
  cases ht : trimP x
  rw [hx, ht] at this
  simp at this
  rw [this]
theorem three_le (x : ByteArray) (h : Lib.hasPrefix x.data.toList [239, 187, 191] = true) : 3 ≤ x.size := by
  have := (List.isPrefixOf_iff_prefix.1 h).length_le
  rw [Array.length_toList] at this
  exact this
theorem trim_same {hs : List ByteArray} {x : ByteArray} (h : hs[0]? = some x) (hp : Lib.hasPrefix x.data.toList [239, 187, 191] = false) : trim hs = hs := by
  cases hs with
  | nil => simp at h
  | cons y ys =>
    simp at h
    subst h
    have : trimP y = y := by
      have e2 : (trimP y).data.toList = y.data.toList := by simp [trimP, Lib.trimPrefix, hp]
      have : (trimP y).data = y.data := Array.toList_inj.1 e2
      cases ht : trimP y
      cases y
      rw [ht] at this
      simp at this
      rw [this]
    simp [trim, this]

def okB (T cs : List ByteArray) (k : Nat) : Bool := (cs.take k).all fun c => cntK T c T.length == 1

theorem copy_any (w : World) (hs : List ByteArray) (bh : Nat) (Rh : Row w bh 9 (strs hs)) : ∃ w2, (Builtin.copy_ #[23, 23] 3 #[.slice (some ⟨w.heap.size, 0, none⟩) hs.length hs.length, .slice (some ⟨bh, 0, none⟩) hs.length hs.length]).run Ybaf.prog (w.alloc (.cells (zStrsA hs.length) 9)) = .ok (.int .i64 hs.length) w2 ∧
    Row w2 w.heap.size 9 (strs hs) ∧ Fr w w2 [] ∧ w2.heap.size = w.heap.size + 1 := by
  have hl : (strs hs).length = hs.length := by simp [strs]
  have hz : (zStrs hs.length).length = hs.length := by simp [zStrs]
  have h := run_copy_row (P := Ybaf.prog) (w.alloc (.cells (zStrsA hs.length) 9)) 23 23 3 9 w.heap.size 0 hs.length hs.length ⟨bh, 0, none⟩ hs.length hs.length (zStrsA hs.length) 9 (strs hs) Ybaf.underlying23 (by kernel_rfl)
    (row_strs w hs.length) (by rw [hl]; simp) (fun j v hj => by
      have hadd : (⟨bh, 0, none⟩ : Addr).add j = ⟨bh, j, none⟩ := by unfold Addr.add; split <;> simp_all
      rw [hadd]
      exact (Rh.alloc (.cells (zStrsA hs.length) 9)).cell j hj) (by rw [hl]; simp [zStrsA, hz]) (by intro v hv; simp [strs] at hv; obtain ⟨a, _, rfl⟩ := hv; rfl)
  rw [hl] at h
  refine ⟨_, h, ?_, ?_, ?_⟩
  · have := setRow_heap (w.alloc (.cells (zStrsA hs.length) 9)) w.heap.size _ ((zStrsA hs.length).toList.take 0 ++ strs hs ++ (zStrsA hs.length).toList.drop (0 + hs.length)).toArray 9 _ (row_strs w hs.length)
    have e : (zStrsA hs.length).toList.take 0 ++ strs hs ++ (zStrsA hs.length).toList.drop (0 + hs.length) = strs hs := by
      simp [zStrsA, zStrs]
    rw [e] at this ⊢
    exact this
  · exact ⟨rfl, rfl, rfl, by simp [World.setRow], fun k hk _ => (setRow_other _ _ k _ (by omega)).trans (Below.heap_alloc w _ k hk)⟩
  · simp [World.setRow]

/-- The first pair of loops' relation, outer and inner. -/
structure Pre (w wr : World) (bh bc gt gw : Nat) (hs T cs : List ByteArray) (k : Nat) : Prop where
  fr : Fr w wr []
  rh : Row wr bh 9 (strs hs)
  rc : Row wr bc 9 (strs cs)
  rt : Row wr gt 9 (strs T)
  rp : Row wr gw 3 (posRow T cs k)

theorem okB_succ {T cs : List ByteArray} {k : Nat} {c : ByteArray} (h : cs[k]? = some c) : okB T cs (k + 1) = (okB T cs k && (cntK T c T.length == 1)) := by
  obtain ⟨hlt, hc⟩ := List.getElem?_eq_some_iff.1 h
  unfold okB
  rw [List.take_succ_eq_append_getElem hlt, List.all_append, hc]
  simp
theorem rel_hit {T : List ByteArray} {c x2 : ByteArray} {k2 n q : Nat} {a : Int} (hx : T[k2]? = some x2) (hs : (x2.toList == c.toList) = true) (hn : a < 0) (ha : a = atK T c k2) (hq : q = cntK T c k2) (hlt : k2 < n) :
    ∃ k' : Nat, k' ≤ n ∧ Value.int .i64 ((k2 : Int) + 1) = .int .i64 k' ∧ Value.int .i64 ((q : Int) + 1) = .int .i64 (cntK T c k') ∧ Value.int .i64 (k2 : Int) = .int .i64 (atK T c k') := by
  refine ⟨k2 + 1, hlt, by simp, ?_, ?_⟩
  · rw [cntK_hit hx hs, ← hq]; simp
  · rw [atK_hit hx hs (by rw [← ha]; exact hn)]
theorem rel_old {T : List ByteArray} {c x2 : ByteArray} {k2 n q : Nat} {a : Int} (hx : T[k2]? = some x2) (hs : (x2.toList == c.toList) = true) (hn : 0 ≤ a) (ha : a = atK T c k2) (hq : q = cntK T c k2) (hlt : k2 < n) :
    ∃ k' : Nat, k' ≤ n ∧ Value.int .i64 ((k2 : Int) + 1) = .int .i64 k' ∧ Value.int .i64 ((q : Int) + 1) = .int .i64 (cntK T c k') ∧ Value.int .i64 a = .int .i64 (atK T c k') := by
  refine ⟨k2 + 1, hlt, by simp, ?_, ?_⟩
  · rw [cntK_hit hx hs, ← hq]; simp
  · rw [atK_old (by rw [← ha]; omega), ha]
theorem rel_miss {T : List ByteArray} {c x2 : ByteArray} {k2 n q : Nat} {a : Int} (hx : T[k2]? = some x2) (hs : (x2.toList == c.toList) = false) (ha : a = atK T c k2) (hq : q = cntK T c k2) (hlt : k2 < n) :
    ∃ k' : Nat, k' ≤ n ∧ Value.int .i64 ((k2 : Int) + 1) = .int .i64 k' ∧ Value.int .i64 (q : Int) = .int .i64 (cntK T c k') ∧ Value.int .i64 a = .int .i64 (atK T c k') := by
  refine ⟨k2 + 1, hlt, by simp, ?_, ?_⟩
  · rw [cntK_miss hx hs, ← hq]
  · rw [atK_miss hx hs, ha]
theorem pre_next {w wr : World} {bh bc gt gw : Nat} {hs T cs : List ByteArray} {k : Nat} {c : ByteArray} (R : Pre w wr bh bc gt gw hs T cs k) (hc : cs[k]? = some c) (h1 : w.heap.size ≤ gw) (h2 : bh < gw) (h3 : bc < gw) (h4 : gt < gw) :
    Pre w (wr.setCell ⟨gw, k, none⟩ (.int .i64 (atK T c T.length))) bh bc gt gw hs T cs (k + 1) := by
  refine ⟨R.fr.setCell _ _ (.inr h1), R.rh.other _ _ (by simp; omega), R.rc.other _ _ (by simp; omega), R.rt.other _ _ (by simp; omega), ?_⟩
  rw [← posRow_set T cs k hc]
  exact R.rp.set k _
theorem out_bad {w wr : World} {bh bc gt gw : Nat} {hs T cs : List ByteArray} {k : Nat} {c : ByteArray} (R : Pre w wr bh bc gt gw hs T cs k) (hc : cs[k]? = some c) (h1 : w.heap.size ≤ gw) (h2 : bh < gw) (h3 : bc < gw) (h4 : gt < gw)
    {k2 n q : Nat} {a : Int} (hq1 : ((q : Int) != 1) = true) (ha : a = atK T c k2) (hq : q = cntK T c k2) (hk : k2 ≤ n) (hge : ¬ k2 < n) (hT : T.length = n) :
    ∃ k' : Nat, k' ≤ cs.length ∧ Value.int .i64 ((k : Int) + 1) = .int .i64 k' ∧ Value.bool false = .bool (okB T cs k') ∧ Pre w (wr.setCell ⟨gw, k, none⟩ (.int .i64 a)) bh bc gt gw hs T cs k' := by
  obtain rfl : k2 = T.length := by omega
  refine ⟨k + 1, (List.getElem?_eq_some_iff.1 hc).1, by simp, ?_, by rw [ha]; exact pre_next R hc h1 h2 h3 h4⟩
  have : (cntK T c T.length == 1) = false := by
    rw [bne_iff_ne] at hq1
    rw [← hq, beq_eq_false_iff_ne]; omega
  rw [okB_succ hc, this, Bool.and_false]
theorem out_good {w wr : World} {bh bc gt gw : Nat} {hs T cs : List ByteArray} {k : Nat} {c : ByteArray} (R : Pre w wr bh bc gt gw hs T cs k) (hc : cs[k]? = some c) (h1 : w.heap.size ≤ gw) (h2 : bh < gw) (h3 : bc < gw) (h4 : gt < gw)
    {k2 n q : Nat} {a : Int} (hq1 : ((q : Int) != 1) = false) (ha : a = atK T c k2) (hq : q = cntK T c k2) (hk : k2 ≤ n) (hge : ¬ k2 < n) (hT : T.length = n) :
    ∃ k' : Nat, k' ≤ cs.length ∧ Value.int .i64 ((k : Int) + 1) = .int .i64 k' ∧ Value.bool (okB T cs k) = .bool (okB T cs k') ∧ Pre w (wr.setCell ⟨gw, k, none⟩ (.int .i64 a)) bh bc gt gw hs T cs k' := by
  obtain rfl : k2 = T.length := by omega
  refine ⟨k + 1, (List.getElem?_eq_some_iff.1 hc).1, by simp, ?_, by rw [ha]; exact pre_next R hc h1 h2 h3 h4⟩
  have : (cntK T c T.length == 1) = true := by
    simp only [bne_eq_false_iff_eq] at hq1
    rw [← hq, beq_iff_eq]; omega
  rw [okB_succ hc, this, Bool.and_true]
theorem okB_true {T cs : List ByteArray} {k : Nat} (hk : k ≤ cs.length) (hge : ¬ k < cs.length) (h : ∀ c ∈ cs, cntK T c T.length = 1) : okB T cs k = true := by
  unfold okB
  rw [List.take_of_length_le (by omega), List.all_eq_true]
  intro c hc
  simp [h c hc]
theorem okB_false {T cs : List ByteArray} {k : Nat} (hk : k ≤ cs.length) (hge : ¬ k < cs.length) (h : ∃ c ∈ cs, cntK T c T.length ≠ 1) : okB T cs k = false := by
  unfold okB
  rw [List.take_of_length_le (by omega), List.all_eq_false]
  obtain ⟨c, hc, hn⟩ := h
  exact ⟨c, hc, by simpa using hn⟩

theorem posRow_at (T cs : List ByteArray) {j : Nat} {c : ByteArray} (h : cs[j]? = some c) : (posRow T cs cs.length)[j]? = some (.int .i64 (atK T c T.length)) := by
  rw [posRow_all]; simp [h]
theorem posRow_at2 (T cs : List ByteArray) {k j : Nat} {c : ByteArray} (hk : k ≤ cs.length) (hge : ¬ k < cs.length) (h : cs[j]? = some c) : (posRow T cs k)[j]? = some (.int .i64 (atK T c T.length)) := by
  obtain rfl : k = cs.length := by omega
  exact posRow_at T cs h

set_option maxHeartbeats 400000 in
theorem check_any (F : Interp) (w : World) (hs T cs : List ByteArray) (bh bc : Nat) (hF : F.answers w.tape) (Rh : Row w bh 9 (strs hs)) (Rc : Row w bc 9 (strs cs)) (hne : bh ≠ bc)
    (hl : hs.length ≤ 1024) (cl : cs.length ≤ 1024) (HT : Hid (T = trim hs)) (hsz : Hid (∀ c ∈ cs, c.size ≤ 4)) :
    Calls Ybaf.prog 6 #[.slice (some ⟨bh, 0, none⟩) hs.length hs.length, .slice (some ⟨bc, 0, none⟩) cs.length cs.length] w fun e w' => e = .returned (.bool true) ∧ Fr w w' [bh] := by
  have hlh := Rh.lt
  have hlc := Rc.lt
  have hmk := make_ints cs.length cl
  have hmk2 := make_strs hs.length hl
  obtain ⟨w2, hcp, hrow2, hfr2, hsize2⟩ := copy_any w hs bh Rh
  have hst : (¬ (0 : Int) < hs.length ∧ Hid (Pre w (w2.alloc (.cells (zIntsA cs.length) 3)) bh bc w.heap.size w2.heap.size hs T cs 0)) ∨
      (∃ x, (0 : Int) < hs.length ∧ 3 ≤ x.size ∧ Lib.hasPrefix x.data.toList [239, 187, 191] = true ∧ w2.cell? ⟨w.heap.size, 0, none⟩ = some (.string x) ∧ w2.frozen? ⟨w.heap.size, 0, none⟩ = false ∧
        Hid (Pre w ((w2.setCell ⟨w.heap.size, 0, none⟩ (.string (x.extract 3 x.size))).alloc (.cells (zIntsA cs.length) 3)) bh bc w.heap.size w2.heap.size hs T cs 0)) ∨
      (∃ x, (0 : Int) < hs.length ∧ Lib.hasPrefix x.data.toList [239, 187, 191] = false ∧ w2.cell? ⟨w.heap.size, 0, none⟩ = some (.string x) ∧
        Hid (Pre w (w2.alloc (.cells (zIntsA cs.length) 3)) bh bc w.heap.size w2.heap.size hs T cs 0)) := by
    have Rh2 := Rh.fr hfr2 (by simp)
    have Rc2 := Rc.fr hfr2 (by simp)
    by_cases h0 : hs.length = 0
    · refine .inl ⟨by omega, hfr2.alloc _, Rh2.alloc _, Rc2.alloc _, ?_, ?_⟩
      · rw [HT.out, show trim hs = hs by rw [List.length_eq_zero_iff.1 h0]; rfl]; exact hrow2.alloc _
      · rw [posRow_zero]; exact row_ints w2 cs.length
    · obtain ⟨x, hx⟩ : ∃ x, hs[0]? = some x := ⟨_, List.getElem?_eq_getElem (by omega)⟩
      refine .inr ?_
      cases hp : Lib.hasPrefix x.data.toList [239, 187, 191]
      · refine .inr ⟨x, by omega, hp, hrow2.cell 0 (strs_get hx), hfr2.alloc _, Rh2.alloc _, Rc2.alloc _, ?_, ?_⟩
        · rw [HT.out, trim_same hx hp]; exact hrow2.alloc _
        · rw [posRow_zero]; exact row_ints w2 cs.length
      · refine .inl ⟨x, by omega, three_le x hp, hp, hrow2.cell 0 (strs_get hx), hrow2.free 0, (hfr2.setCell _ _ (.inr (Nat.le_refl _))).alloc _, (Rh2.other _ _ (by simp; omega)).alloc _, (Rc2.other _ _ (by simp; omega)).alloc _, ?_, ?_⟩
        · rw [HT.out, extract_trim x hp, ← trim_set hx]; exact (hrow2.set 0 _).alloc _
        · rw [posRow_zero]
          show Row _ _ _ (zInts cs.length)
          have := row_ints (w2.setCell ⟨w.heap.size, 0, none⟩ (.string (x.extract 3 x.size))) cs.length
          simpa using this
  have hgt : w.heap.size < w2.heap.size := by omega
  clear hrow2 hfr2 hsize2
  rcases hst with ⟨h0, HS⟩ | ⟨x, h0, h3, hp, hcx, hfx, HS⟩ | ⟨x, h0, hp, hcx, HS⟩
  all_goals
    go_enter Ybaf.func6, Ybaf.ntmps6
    go_wp2_with (go_at_call 7; refine (Ybaf.strings_HasPrefix _ _ _).mono ?_; rintro e w' ⟨rfl, hw⟩; rw [hw])
    clear hcp hmk hmk2
    try clear hcx
    try clear hfx
    go_loopw [7, 44] (fun ok i wr => ∃ k : Nat, k ≤ cs.length ∧ i = .int .i64 k ∧ ok = .bool (okB T cs k) ∧ Pre w wr bh bc w.heap.size w2.heap.size hs T cs k) (fun _ i _ => cs.length - (intOf i).toNat)
    case atStart => exact ⟨0, Nat.zero_le _, rfl, rfl, HS.out⟩
    case round =>
      obtain ⟨k, hk, rfl, rfl, R⟩ := hrel
      clear HS
      have hTl : Hid (T.length = hs.length) := by show T.length = hs.length; rw [HT.out, trim_length]
      by_cases hlt : k < cs.length
      · obtain ⟨c, hc⟩ : ∃ c, cs[k]? = some c := ⟨_, List.getElem?_eq_getElem hlt⟩
        have hcc := R.rc.cell k (strs_get hc)
        have hfr := R.rp.free k
        have hlen : (posRow T cs k).length = cs.length := posRow_length T cs k hk
        obtain ⟨v, hv⟩ : ∃ v, (posRow T cs k)[k]? = some v := ⟨_, List.getElem?_eq_getElem (by omega)⟩
        have hcv := R.rp.cell k hv
        have HC := hide hc
        clear hc hlen hv
        go_wp2_with fail
        go_loop [10, 11, 51] (fun n a j => ∃ k2 : Nat, k2 ≤ hs.length ∧ j = .int .i64 k2 ∧ n = .int .i64 (cntK T c k2) ∧ a = .int .i64 (atK T c k2)) (fun _ _ j => hs.length - (intOf j).toNat)
        case atStart => exact ⟨0, Nat.zero_le _, rfl, rfl, rfl⟩
        case round =>
          obtain ⟨k2, hk2, rfl, rfl, rfl⟩ := hrel
          have hab := atK_cntK T c k2
          obtain ⟨a, ha⟩ : ∃ a, a = atK T c k2 := ⟨_, rfl⟩
          obtain ⟨q, hq⟩ : ∃ q, q = cntK T c k2 := ⟨_, rfl⟩
          rw [← ha, ← hq] at hab
          rw [← ha, ← hq]
          have HA := hide ha
          have HQ := hide hq
          have ha1 : -1 ≤ a := hab.2.1
          have ha2 : a < k2 := hab.2.2.1
          have hq1 : q ≤ k2 := hab.2.2.2
          clear ha hq hab
          by_cases hlt2 : k2 < hs.length
          · obtain ⟨x2, hx2⟩ : ∃ x2, T[k2]? = some x2 := ⟨_, List.getElem?_eq_getElem (by rw [hTl.out]; exact hlt2)⟩
            have hch := R.rt.cell k2 (strs_get hx2)
            have HX := hide hx2
            clear hx2
            go_wp2
            all_goals
              go_round
              case rel => first | (refine rel_hit HX.out ?_ ?_ HA.out HQ.out hlt2 <;> assumption) | (refine rel_old HX.out ?_ ?_ HA.out HQ.out hlt2 <;> assumption) | (refine rel_miss HX.out ?_ HA.out HQ.out hlt2 <;> assumption)
              case measure => simp [intOf]; omega
          · go_wp2
            all_goals
              go_roundw
              case rel => first | (refine out_bad R HC.out (by omega) (by omega) (by omega) (by omega) ?_ HA.out HQ.out hk2 hlt2 hTl.out <;> assumption) | (refine out_good R HC.out (by omega) (by omega) (by omega) (by omega) ?_ HA.out HQ.out hk2 hlt2 hTl.out <;> assumption)
              case measure => simp [intOf]; omega
      · go_wp2_with fail
        refine (index_any F wr hs T cs bh bc (by rw [R.fr.tape]; exact hF) R.rh R.rc hne hl cl HT hsz).mono ?_
        rintro e w3 ⟨f3, r3, hres⟩
        have rt3 := R.rt.fr f3 (by simp; omega)
        have rp3 := R.rp.fr f3 (by simp; omega)
        have fr3 : Fr w w3 [bh] := (R.fr.weaken (by simp)).trans f3
        have hwr := R.rp.lt
        have hu28 : ∀ (a : Option Addr) (n c : Nat) (w : World), (binOp .eql 28 (.slice a n c) (.slice none 0 0)).run Ybaf.prog w = .ok (.bool a.isNone) w := fun a n c w => Lib.run_eql_slice_nil w 28 3 a n c 0 0 Ybaf.underlying28
        rcases hres with ⟨hall, rfl, ri3⟩ | ⟨hex, adr, rfl⟩
        · have hok := okB_true hk hlt hall
          clear hall
          go_wp2_with fail
          go_loopw [85] (fun j wr3 => ∃ k3 : Nat, k3 ≤ hs.length ∧ j = .int .i64 k3 ∧ ∃ nq, wr3 = w3.drewN nq) (fun j _ => hs.length - (intOf j).toNat)
          case atStart => exact ⟨0, Nat.zero_le _, rfl, 0, rfl⟩
          case round =>
            obtain ⟨k3, hk3, rfl, nq, rfl⟩ := hrel
            by_cases hlt3 : k3 < hs.length
            · obtain ⟨y, hy⟩ : ∃ y, T[k3]? = some y := ⟨_, List.getElem?_eq_getElem (by rw [hTl.out]; exact hlt3)⟩
              have hch := r3.cell k3 (strs_get hy)
              have hct := rt3.cell k3 (strs_get hy)
              clear hy
              go_wp2_with fail
              go_quiet (fail)
              go_wp2
              all_goals
                go_roundw
                case rel => exact ⟨k3 + 1, by omega, by go_num, _, rfl⟩
                case measure => simp [intOf]; omega
            · go_wp2_with fail
              go_loopw [117] (fun j wr4 => ∃ k4 : Nat, k4 ≤ cs.length ∧ j = .int .i64 k4 ∧ ∃ nq, wr4 = w3.drewN nq) (fun j _ => cs.length - (intOf j).toNat)
              case atStart => exact ⟨0, Nat.zero_le _, rfl, nq, rfl⟩
              case round =>
                obtain ⟨k4, hk4, rfl, nq4, rfl⟩ := hrel
                by_cases hlt4 : k4 < cs.length
                · obtain ⟨y, hy⟩ : ∃ y, cs[k4]? = some y := ⟨_, List.getElem?_eq_getElem hlt4⟩
                  have hcg := ri3.cell k4 (posRow_at T cs hy)
                  have hcw := rp3.cell k4 (posRow_at2 T cs hk hlt hy)
                  clear hy
                  obtain ⟨z, hz⟩ : ∃ z, z = atK T y T.length := ⟨_, rfl⟩
                  rw [← hz] at hcg hcw
                  clear hz
                  go_wp2_with fail
                  go_quiet (fail)
                  go_wp2
                  all_goals
                    go_roundw
                    case rel => exact ⟨k4 + 1, by omega, by go_num, _, rfl⟩
                    case measure => simp [intOf]; omega
                · go_wp2
                  go_ret
                  exact ⟨rfl, fr3.drewN _⟩
        · have hok := okB_false hk hlt hex
          clear hex
          go_wp2_with fail
          go_loopw [85] (fun j wr3 => ∃ k3 : Nat, k3 ≤ hs.length ∧ j = .int .i64 k3 ∧ ∃ nq, wr3 = w3.drewN nq) (fun j _ => hs.length - (intOf j).toNat)
          case atStart => exact ⟨0, Nat.zero_le _, rfl, 0, rfl⟩
          case round =>
            obtain ⟨k3, hk3, rfl, nq, rfl⟩ := hrel
            by_cases hlt3 : k3 < hs.length
            · obtain ⟨y, hy⟩ : ∃ y, T[k3]? = some y := ⟨_, List.getElem?_eq_getElem (by rw [hTl.out]; exact hlt3)⟩
              have hch := r3.cell k3 (strs_get hy)
              have hct := rt3.cell k3 (strs_get hy)
              clear hy
              go_wp2_with fail
              go_quiet (fail)
              go_wp2
              all_goals
                go_roundw
                case rel => exact ⟨k3 + 1, by omega, by go_num, _, rfl⟩
                case measure => simp [intOf]; omega
            · go_wp2
              go_ret
              exact ⟨rfl, fr3.drewN _⟩

end Go.Proofs.YbulkaqmiFmt
