/-
  The walk of columnIndex (function 8).
-/
import Derived.Test.YbulkaqmiFmtFmt
import Derived.Test.YbulkaqmiFmtMem
import Derived.Test.YbulkaqmiFmtShelf
namespace Go.Proofs.YbulkaqmiFmt
open Go.RowKit Go.Extern.Stop Go.Stop Go.Extern

theorem info3 : (Ybaf.prog.info? 3).map (fun i => (i.zero, i.size, i.bytes)) = some (some (.int .i64 0), 1, 8) := by kernel_rfl
theorem info9 : (Ybaf.prog.info? 9).map (fun i => (i.zero, i.size, i.bytes)) = some (some (.string ⟨#[]⟩), 1, 16) := by kernel_rfl

/-- One leading byte order mark is cut. -/
def trimP (x : ByteArray) : ByteArray := ⟨(Lib.trimPrefix x.data.toList [239, 187, 191]).toArray⟩
def trim : List ByteArray → List ByteArray
  | [] => []
  | x :: xs => trimP x :: xs
def strs (l : List ByteArray) : List Value := l.map Value.string
theorem strs_get {l : List ByteArray} {j : Nat} {x : ByteArray} (h : l[j]? = some x) : (strs l)[j]? = some (.string x) := by simp [strs, h]
theorem trim_length (l : List ByteArray) : (trim l).length = l.length := by cases l <;> rfl
theorem trim_set {l : List ByteArray} {x : ByteArray} (h : l[0]? = some x) : (strs l).set 0 (.string ⟨(Lib.trimPrefix x.data.toList [239, 187, 191]).toArray⟩) = strs (trim l) := by
  cases l with
  | nil => simp at h
  | cons y ys => simp at h; subst h; simp [strs, trim, trimP]

def zInts (m : Nat) : List Value := List.replicate m (.int .i64 0)
def zStrs (m : Nat) : List Value := List.replicate m (.string ⟨#[]⟩)
def zIntsA (m : Nat) : Array Value := (zInts m).toArray
def zStrsA (m : Nat) : Array Value := (zStrs m).toArray

theorem make_ints (m : Nat) (h : m ≤ 1024) (w : World) : (Instr.makeSlice 28 (.int .i64 (m : Int)) (.int .i64 (m : Int))).run Ybaf.prog w = .ok (.slice (some ⟨w.heap.size, 0, none⟩) m m) (w.alloc (.cells (zIntsA m) 3)) := by
  obtain ⟨i0, hi, hz0, hz1, hz2⟩ := info_parts info3
  have := run_make (P := Ybaf.prog) w 28 3 i0 (.int .i64 0) Ybaf.underlying28 hi hz0 .i64 .i64 (m : Int) (m : Int) (by omega) (by omega) (by rw [hz2]; omega) (by omega)
  rw [this, hz1]
  have e : madeCells (Value.int .i64 0).cells ((m : Int).toNat * 1) = zIntsA m := by
    apply Array.toList_inj.1
    rw [Int.toNat_natCast, Nat.mul_one]
    exact toList_madeCells_one _ _
  rw [e]; simp
theorem make_strs (m : Nat) (h : m ≤ 1024) (w : World) : (Instr.makeSlice 23 (.int .i64 (m : Int)) (.int .i64 (m : Int))).run Ybaf.prog w = .ok (.slice (some ⟨w.heap.size, 0, none⟩) m m) (w.alloc (.cells (zStrsA m) 9)) := by
  obtain ⟨i0, hi, hz0, hz1, hz2⟩ := info_parts info9
  have := run_make (P := Ybaf.prog) w 23 9 i0 (.string ⟨#[]⟩) Ybaf.underlying23 hi hz0 .i64 .i64 (m : Int) (m : Int) (by omega) (by omega) (by rw [hz2]; omega) (by omega)
  rw [this, hz1]
  have e : madeCells (Value.string ⟨#[]⟩).cells ((m : Int).toNat * 1) = zStrsA m := by
    apply Array.toList_inj.1
    rw [Int.toNat_natCast, Nat.mul_one]
    exact toList_madeCells_one _ _
  rw [e]; simp
theorem row_ints (w : World) (m : Nat) : Row (w.alloc (.cells (zIntsA m) 3)) w.heap.size 3 (zInts m) := Row.new w 3 (zInts m)
theorem row_strs (w : World) (m : Nat) : Row (w.alloc (.cells (zStrsA m) 9)) w.heap.size 9 (zStrs m) := Row.new w 9 (zStrs m)

/-- What columnIndex leaves. -/
def IndexPost (w : World) (bh : Nat) (T cs : List ByteArray) (e : Ending) (w' : World) : Prop :=
  Fr w w' [bh] ∧ Row w' bh 9 (strs T) ∧
    (((∀ c ∈ cs, cntK T c T.length = 1) ∧ e = .returned (.tuple #[.slice (some ⟨w.heap.size, 0, none⟩) cs.length cs.length, .nilIface]) ∧ Row w' w.heap.size 3 (posRow T cs cs.length)) ∨
     ((∃ c ∈ cs, cntK T c T.length ≠ 1) ∧ ∃ a, e = .returned (.tuple #[.slice none 0 0, .iface 46 (.pointer (some a))])))

/-- The loops' relation, outer and inner. -/
structure Out (w wr : World) (bh bc : Nat) (T cs : List ByteArray) (k : Nat) : Prop where
  fr : Fr w wr [bh]
  rh : Row wr bh 9 (strs T)
  rc : Row wr bc 9 (strs cs)
  rp : Row wr w.heap.size 3 (posRow T cs k)
  one : ∀ j c, j < k → cs[j]? = some c → cntK T c T.length = 1
structure Inn (w wr : World) (bh bc : Nat) (T cs : List ByteArray) (k : Nat) (c : ByteArray) (k2 : Nat) : Prop where
  fr : Fr w wr [bh]
  rh : Row wr bh 9 (strs T)
  rc : Row wr bc 9 (strs cs)
  rp : Row wr w.heap.size 3 ((posRow T cs k).set k (.int .i64 (atK T c k2)))
  one : ∀ j c, j < k → cs[j]? = some c → cntK T c T.length = 1
  le : cntK T c k2 ≤ 1

theorem fin_ok {w wr : World} {bh bc : Nat} {T cs : List ByteArray} {k : Nat} (R : Out w wr bh bc T cs k) (hk : k ≤ cs.length) (hge : ¬ k < cs.length) :
    IndexPost w bh T cs (.returned (.tuple #[.slice (some ⟨w.heap.size, 0, none⟩) cs.length cs.length, .nilIface])) wr := by
  obtain rfl : k = cs.length := by omega
  refine ⟨R.fr, R.rh, .inl ⟨fun c hc => ?_, rfl, R.rp⟩⟩
  obtain ⟨j, hj, e⟩ := List.getElem_of_mem hc
  exact R.one j c hj (by rw [List.getElem?_eq_getElem hj, e])
theorem fin_err {w wr w' : World} {bh bc : Nat} {T cs : List ByteArray} {k : Nat} {c : ByteArray} {k2 : Nat} (R : Inn w wr bh bc T cs k c k2) (hc : cs[k]? = some c) (hbad : cntK T c T.length ≠ 1) (hf : Fr wr w' []) (a : Addr) :
    IndexPost w bh T cs (.returned (.tuple #[.slice none 0 0, .iface 46 (.pointer (some a))])) w' :=
  ⟨R.fr.trans (hf.weaken (by simp)), R.rh.fr hf (by simp), .inr ⟨⟨c, List.mem_of_getElem? hc, hbad⟩, a, rfl⟩⟩
theorem inn_hit {w wr : World} {bh bc : Nat} {T cs : List ByteArray} {k : Nat} {c x : ByteArray} {k2 : Nat} (R : Inn w wr bh bc T cs k c k2) (h1 : bh < w.heap.size) (h2 : bc < w.heap.size) (hx : T[k2]? = some x) (hs : seq x c = true) (hn : atK T c k2 < 0) :
    Inn w (wr.setCell ⟨w.heap.size, k, none⟩ (.int .i64 k2)) bh bc T cs k c (k2 + 1) := by
  have h0 := (atK_cntK T c k2).1
  refine ⟨R.fr.setCell _ _ (.inr (Nat.le_refl _)), R.rh.other _ _ (by simp; omega), R.rc.other _ _ (by simp; omega), ?_, R.one, ?_⟩
  · have := R.rp.set k (.int .i64 k2)
    rw [set_set] at this
    rw [atK_hit hx hs hn]
    exact this
  · rw [cntK_hit hx hs]; omega
theorem inn_miss {w wr : World} {bh bc : Nat} {T cs : List ByteArray} {k : Nat} {c x : ByteArray} {k2 : Nat} (R : Inn w wr bh bc T cs k c k2) (hx : T[k2]? = some x) (hs : seq x c = false) :
    Inn w wr bh bc T cs k c (k2 + 1) :=
  ⟨R.fr, R.rh, R.rc, by rw [atK_miss hx hs]; exact R.rp, R.one, by rw [cntK_miss hx hs]; exact R.le⟩
theorem bad_twice {T : List ByteArray} {c x : ByteArray} {k2 : Nat} (hx : T[k2]? = some x) (hs : seq x c = true) (hn : 0 ≤ atK T c k2) : cntK T c T.length ≠ 1 := by
  have h0 := (atK_cntK T c k2).1
  have h1 := cntK_hit hx hs
  have h2 := cntK_mono T c (k := k2 + 1) (k' := T.length) (List.getElem?_eq_some_iff.1 hx).1
  omega
theorem bad_none {T : List ByteArray} {c : ByteArray} {k2 : Nat} (hk : k2 = T.length) (hn : atK T c k2 < 0) : cntK T c T.length ≠ 1 := by
  have h0 := (atK_cntK T c k2).1
  subst hk; omega
theorem out_next {w wr : World} {bh bc : Nat} {T cs : List ByteArray} {k : Nat} {c : ByteArray} {k2 : Nat} (R : Inn w wr bh bc T cs k c k2) (hc : cs[k]? = some c) (hk : k2 = T.length) (hn : 0 ≤ atK T c k2) : Out w wr bh bc T cs (k + 1) := by
  have h0 := (atK_cntK T c k2).1
  have hle := R.le
  subst hk
  refine ⟨R.fr, R.rh, R.rc, ?_, ?_⟩
  · rw [← posRow_set T cs k hc]; exact R.rp
  · intro j c' hj hc'
    by_cases e : j = k
    · subst e
      rw [hc] at hc'
      simp at hc'
      subst hc'
      omega
    · exact R.one j c' (by omega) hc'
theorem join_le (cs : List ByteArray) (h : ∀ c ∈ cs, c.size ≤ 4) : (Lib.join (cs.map (·.data.toList)) [44, 32]).length ≤ 6 * cs.length := by
  have hl : ∀ l : List ByteArray, (∀ c ∈ l, c.size ≤ 4) → Lib.lens (l.map (·.data.toList)) ≤ 4 * l.length := by
    intro l hl
    induction l with
    | nil => simp [Lib.lens]
    | cons c r ih =>
      have h1 := hl c (by simp)
      have h2 := ih (fun c hc => hl c (by simp [hc]))
      have h3 : c.data.toList.length = c.size := Array.length_toList
      simp only [Lib.lens, List.map_cons, List.sum_cons, List.length_cons] at h2 ⊢
      omega
  cases cs with
  | nil => simp [Lib.join_nil]
  | cons c r =>
    have h1 := h c (by simp)
    have h2 := hl r (fun c hc => h c (by simp [hc]))
    have h3 : c.data.toList.length = c.size := Array.length_toList
    rw [List.map_cons, Lib.join_cons, List.length_append, Lib.joinTail_length]
    simp only [List.length_map, List.length_cons, List.length_nil] at h2 ⊢
    omega

set_option maxHeartbeats 400000 in
theorem index_any (F : Interp) (w : World) (hs T cs : List ByteArray) (bh bc : Nat) (hF : F.answers w.tape) (Rh : Row w bh 9 (strs hs)) (Rc : Row w bc 9 (strs cs)) (hne : bh ≠ bc)
    (hl : hs.length ≤ 1024) (cl : cs.length ≤ 1024) (HT : Hid (T = trim hs)) (hsz : Hid (∀ c ∈ cs, c.size ≤ 4)) :
    Calls Ybaf.prog 8 #[.slice (some ⟨bh, 0, none⟩) hs.length hs.length, .slice (some ⟨bc, 0, none⟩) cs.length cs.length] w (IndexPost w bh T cs) := by
  have hlh := Rh.lt
  have hlc := Rc.lt
  have hmk := make_ints cs.length cl
  have hgb : ¬ w.heap.size = bh := by omega
  have hst : (¬ (0 : Int) < hs.length ∧ Hid (Out w (w.alloc (.cells (zIntsA cs.length) 3)) bh bc T cs 0)) ∨
      (∃ x, (0 : Int) < hs.length ∧ w.cell? ⟨bh, 0, none⟩ = some (.string x) ∧ w.frozen? ⟨bh, 0, none⟩ = false ∧ Hid (Out w ((w.setCell ⟨bh, 0, none⟩ (.string ⟨(Lib.trimPrefix x.data.toList [239, 187, 191]).toArray⟩)).alloc (.cells (zIntsA cs.length) 3)) bh bc T cs 0)) := by
    by_cases h0 : hs.length = 0
    · refine .inl ⟨by omega, (Fr.refl _ _).alloc _, ?_, Rc.alloc _, ?_, fun j c h _ => absurd h (by omega)⟩
      · rw [HT.out, show trim hs = hs by rw [List.length_eq_zero_iff.1 h0]; rfl]; exact Rh.alloc _
      · rw [posRow_zero]
        exact row_ints w cs.length
    · obtain ⟨x, hx⟩ : ∃ x, hs[0]? = some x := ⟨_, List.getElem?_eq_getElem (by omega)⟩
      refine .inr ⟨x, by omega, Rh.cell 0 (strs_get hx), Rh.free 0, ((Fr.refl _ _).setCell _ _ (.inl (by simp))).alloc _, ?_, (Rc.other _ _ (by simpa using Ne.symm hne)).alloc _, ?_, fun j c h _ => absurd h (by omega)⟩
      · rw [HT.out, ← trim_set hx]; exact (Rh.set 0 _).alloc _
      · rw [posRow_zero]
        show Row _ _ _ (zInts cs.length)
        have := row_ints (w.setCell ⟨bh, 0, none⟩ (.string ⟨(Lib.trimPrefix x.data.toList [239, 187, 191]).toArray⟩)) cs.length
        simpa using this
  rcases hst with ⟨h0, HS⟩ | ⟨x, h0, hcx, hfx, HS⟩
  all_goals
    go_enter Ybaf.func8, Ybaf.ntmps8
    go_wp2_with (go_at_call 10; refine (Ybaf.strings_TrimPrefix _ _ _).mono ?_; rintro e w' ⟨rfl, hw⟩; rw [hw])
    try clear hcx hfx
    go_loopw [25] (fun i wr => ∃ k : Nat, k ≤ cs.length ∧ i = .int .i64 k ∧ Out w wr bh bc T cs k) (fun i _ => cs.length - (intOf i).toNat)
    case atStart => exact ⟨0, Nat.zero_le _, rfl, HS.out⟩
    case round =>
      obtain ⟨k, hk, rfl, R⟩ := hrel
      clear HS
      by_cases hlt : k < cs.length
      · obtain ⟨c, hc⟩ : ∃ c, cs[k]? = some c := ⟨_, List.getElem?_eq_getElem hlt⟩
        have hcc := R.rc.cell k (strs_get hc)
        have hfr := R.rp.free k
        have hlen : (posRow T cs k).length = cs.length := posRow_length T cs k hk
        obtain ⟨v, hv⟩ : ∃ v, (posRow T cs k)[k]? = some v := ⟨_, List.getElem?_eq_getElem (by omega)⟩
        have hcv := R.rp.cell k hv
        have HC := hide hc
        have HL := hide hlen
        clear hc hlen hv
        go_wp2_with fail
        clear hcc hfr hcv
        go_loopw [35] (fun j wr2 => ∃ k2 : Nat, k2 ≤ hs.length ∧ j = .int .i64 k2 ∧ Inn w wr2 bh bc T cs k c k2) (fun j _ => hs.length - (intOf j).toNat)
        case atStart =>
          refine ⟨0, Nat.zero_le _, rfl, R.fr.setCell _ _ (.inr (Nat.le_refl _)), R.rh.other _ _ (by simpa using Ne.symm hgb), R.rc.other _ _ (by simp; omega), ?_, R.one, by simp [cntK]⟩
          exact R.rp.set k _
        case round =>
          obtain ⟨k2, hk2, rfl, R2⟩ := hrel
          have hTl : T.length = hs.length := by rw [HT.out, trim_length]
          have hca := R2.rp.cell k (get_set _ k _ (by rw [HL.out]; exact hlt))
          have hfa := R2.rp.free k
          have hab := atK_cntK T c k2
          obtain ⟨a, ha⟩ : ∃ a, a = atK T c k2 := ⟨_, rfl⟩
          rw [← ha] at hca hab
          have HA := hide ha
          have HTl := hide hTl
          have ha1 : -1 ≤ a := hab.2.1
          have ha2 : a < k2 := hab.2.2.1
          clear ha hTl hab
          by_cases hlt2 : k2 < hs.length
          rotate_left
          · have HK : Hid (k2 = T.length) := by show k2 = T.length; rw [HTl.out]; omega
            by_cases hge : 0 ≤ a
            · have HO : Hid _ := out_next R2 HC.out HK.out (by rw [← HA.out]; exact hge)
              go_wp2
              all_goals
                go_roundw
                case rel => exact ⟨k + 1, by omega, by go_num, HO.out⟩
                case measure => simp [intOf]; omega
            · have HB : Hid (cntK T c T.length ≠ 1) := bad_none HK.out (by rw [← HA.out]; omega)
              go_wp2_with fail
              refine (Ybaf.strings_Join bc 0 cs.length cs _ _ (fun j x hj => by rw [Nat.zero_add]; exact R2.rc.cell j (strs_get hj)) (R2.rc.lt) (by omega) (Nat.le_refl _) (by have := join_le cs hsz.out; exact Nat.le_trans this (by omega))).mono ?_
              rintro e w2 ⟨rfl, hb⟩
              obtain ⟨J, hJ⟩ : ∃ J : ByteArray, J = ⟨(Lib.join (cs.map (·.data.toList)) [44, 32]).toArray⟩ := ⟨_, rfl⟩
              rw [← hJ]
              clear hJ
              have HF1 : Hid (Fr wr w2 []) := (Fr.refl _ _).ofBelow hb (Nat.le_refl _)
              clear hb
              go_wp2_with fail
              refine (errorf_none F c J w2.heap.size (w2.alloc (.cells #[.iface 9 (.string c), .iface 9 (.string J)] 20)) (by show F.answers w2.tape; rw [HF1.out.tape, R2.fr.tape]; exact hF) (by go_simp) (by go_simp)).mono ?_
              rintro e w3 ⟨rfl, hb⟩
              have HF : Hid (Fr wr w3 []) := (HF1.out.alloc _).ofBelow hb (Nat.le_refl _)
              clear hb
              go_wp2
              go_ret2
              exact fin_err R2 HC.out HB.out HF.out _
          first | (exfalso; omega) | skip
          all_goals
            obtain ⟨x2, hx2⟩ : ∃ x2, T[k2]? = some x2 := ⟨_, List.getElem?_eq_getElem (by rw [HTl.out]; exact hlt2)⟩
            have hch := R2.rh.cell k2 (strs_get hx2)
            have HX := hide hx2
            clear hx2
            by_cases hsq : (x2.toList == c.toList) = true
            · by_cases hge : 0 ≤ a
              · have HB : Hid (cntK T c T.length ≠ 1) := bad_twice HX.out hsq (by rw [← HA.out]; exact hge)
                go_wp2_with fail
                refine (errorf_twice F c wr.heap.size (wr.alloc (.cells #[.iface 9 (.string c)] 20)) (by show F.answers wr.tape; rw [R2.fr.tape]; exact hF) (by go_simp)).mono ?_
                rintro e w2 ⟨rfl, hb⟩
                have HF : Hid (Fr wr w2 []) := ((Fr.refl _ _).alloc _).ofBelow hb (Nat.le_refl _)
                clear hb
                go_wp2
                go_ret2
                exact fin_err R2 HC.out HB.out HF.out _
              · have HI : Hid _ := inn_hit R2 hlh hlc HX.out hsq (by rw [← HA.out]; omega)
                go_wp2
                go_roundw
                case rel => exact ⟨k2 + 1, by omega, by go_num, HI.out⟩
                case measure => simp [intOf]; omega
            · have hsq' : (x2.toList == c.toList) = false := by simpa using hsq
              have HI : Hid _ := inn_miss R2 HX.out hsq'
              clear hsq
              go_wp2
              go_roundw
              case rel => exact ⟨k2 + 1, by omega, by go_num, HI.out⟩
              case measure => simp [intOf]; omega
      · go_wp2
        go_ret2
        exact fin_ok R hk hlt

end Go.Proofs.YbulkaqmiFmt
