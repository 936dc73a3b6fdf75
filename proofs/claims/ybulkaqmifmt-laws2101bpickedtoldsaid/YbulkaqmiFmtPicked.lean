/-
  The walk of LawS2101BPicked (function 3).
-/
import Derived.Test.YbulkaqmiFmtCheck
namespace Go.Proofs.YbulkaqmiFmt
open Go.RowKit Go.Extern.Stop Go.Stop Go.Extern

/-- What the walk asks of a slice of bytes that came in. -/
structure Bytes8 (w : World) (b off n : Nat) (zs : List Int) : Prop where
  cell : ∀ j, j < n → w.cell? ⟨b, off + j, none⟩ = some (.int .u8 (zs.getD j 0))
  low : ∀ j, 0 ≤ zs.getD j 0
  high : ∀ j, zs.getD j 0 ≤ 255

/-- A row that is filled from the front. -/
structure Fill (w : World) (g n k : Nat) (L : List ByteArray) : Prop where
  len : L.length = k
  small : ∀ c ∈ L, c.size ≤ 4
  row : Row w g 9 (strs L ++ zStrs (n - k))

theorem Fill.start (w : World) (n : Nat) : Fill (w.alloc (.cells (zStrsA n) 9)) w.heap.size n 0 [] := ⟨rfl, by simp, row_strs w n⟩
theorem Fill.next {w : World} {g n k : Nat} {L : List ByteArray} (h : Fill w g n k L) (hk : k < n) (s : ByteArray) (hs : s.size ≤ 4) : Fill (w.setCell ⟨g, k, none⟩ (.string s)) g n (k + 1) (L ++ [s]) := by
  refine ⟨by simp [h.len], ?_, ?_⟩
  · intro c hc
    simp at hc
    rcases hc with hc | rfl
    · exact h.small c hc
    · exact hs
  · have h1 := h.row.set k (.string s)
    have e1 : (strs L).length = k := by simp [strs, h.len]
    have e : (strs L ++ zStrs (n - k)).set k (.string s) = strs (L ++ [s]) ++ zStrs (n - (k + 1)) := by
      rw [List.set_append_right (h := by omega), e1, Nat.sub_self]
      have : n - k = (n - (k + 1)) + 1 := by omega
      rw [this, zStrs, List.replicate_succ, List.set_cons_zero]
      simp [strs, zStrs]
    rwa [e] at h1
theorem Fill.cell {w : World} {g n k : Nat} {L : List ByteArray} (h : Fill w g n k L) (hk : k < n) : w.cell? ⟨g, k, none⟩ = some (.string ⟨#[]⟩) := by
  refine h.row.cell k ?_
  have e1 : (strs L).length = k := by simp [strs, h.len]
  rw [List.getElem?_append_right (by omega), e1, Nat.sub_self]
  have : n - k = (n - (k + 1)) + 1 := by omega
  rw [this, zStrs, List.replicate_succ]; rfl
theorem Fill.full {w : World} {g n k : Nat} {L : List ByteArray} (h : Fill w g n k L) (hk : k ≤ n) (hge : ¬ k < n) : Row w g 9 (strs L) ∧ L.length = n := by
  obtain rfl : k = n := by omega
  refine ⟨?_, h.len⟩
  have := h.row
  simpa [zStrs] using this
theorem Fill.other {w : World} {g n k : Nat} {L : List ByteArray} (h : Fill w g n k L) {w' : World} (hr : ∀ X, Row w g 9 X → Row w' g 9 X) : Fill w' g n k L := ⟨h.len, h.small, hr _ h.row⟩

set_option maxHeartbeats 400000 in
theorem picked_long (ha ca : Option Addr) (hn hc cn cc : Nat) (w : World) (h : 1024 < hn ∨ 1024 < cn) :
    Calls Ybaf.prog 3 #[.slice ha hn hc, .slice ca cn cc] w fun e w' => e = .returned (.bool true) ∧ w' = w := by
  by_cases h1 : 1024 < hn
  · have h1' : (1024 : Int) < hn := by omega
    clear h h1
    go_enter Ybaf.func3, Ybaf.ntmps3
    go_wp2
    go_ret
    exact ⟨rfl, rfl⟩
  · have h1' : ¬ (1024 : Int) < hn := by omega
    have h2' : (1024 : Int) < cn := by omega
    clear h h1
    go_enter Ybaf.func3, Ybaf.ntmps3
    go_wp2
    go_ret
    exact ⟨rfl, rfl⟩

set_option maxHeartbeats 400000 in
theorem picked_any (F : Interp) (ha ca : Option Addr) (hn hc cn cc : Nat) (w : World) (hF : F.answers w.tape) (h1 : hn ≤ 1024) (h2 : cn ≤ 1024) (b1 o1 b2 o2 : Nat) (zs1 zs2 : List Int)
    (A1 : Bytes8 w b1 o1 hn zs1) (A2 : Bytes8 w b2 o2 cn zs2) (e1 : 0 < hn → ha = some ⟨b1, o1, none⟩) (e2 : 0 < cn → ca = some ⟨b2, o2, none⟩) :
    Calls Ybaf.prog 3 #[.slice ha hn hc, .slice ca cn cc] w fun e w' => e = .returned (.bool true) ∧ Below w.heap.size w w' := by
  have hmk1 := make_strs hn h1
  have hmk2 := make_strs cn h2
  have g1 : (0 < hn ∧ ha = some ⟨b1, o1, none⟩ ∧ b1 < w.heap.size) ∨ hn ≤ 0 := by
    by_cases h : 0 < hn
    · exact .inl ⟨h, e1 h, World.block_lt_of_cell? w ⟨b1, o1 + 0, none⟩ (A1.cell 0 h)⟩
    · exact .inr (by omega)
  have g2 : (0 < cn ∧ ca = some ⟨b2, o2, none⟩ ∧ b2 < w.heap.size) ∨ cn ≤ 0 := by
    by_cases h : 0 < cn
    · exact .inl ⟨h, e2 h, World.block_lt_of_cell? w ⟨b2, o2 + 0, none⟩ (A2.cell 0 h)⟩
    · exact .inr (by omega)
  clear e1 e2
  rcases g1 with ⟨p1, rfl, l1⟩ | p1 <;> rcases g2 with ⟨p2, rfl, l2⟩ | p2
  all_goals
    go_enter Ybaf.func3, Ybaf.ntmps3
    go_wp2_with fail
    go_loopw [24] (fun i wr => ∃ k : Nat, k ≤ hn ∧ i = .int .i64 k ∧ ∃ L, Fill wr w.heap.size hn k L ∧ Fr w wr []) (fun i _ => hn - (intOf i).toNat)
    case atStart => exact ⟨0, Nat.zero_le _, rfl, [], Fill.start w hn, (Fr.refl _ _).alloc _⟩
    case round =>
      obtain ⟨k, hk, rfl, L, hL, hfr⟩ := hrel
      by_cases hlt : k < hn
      · first | (exfalso; omega) | skip
        all_goals
          have hcell : wr.cell? ⟨b1, o1 + k, none⟩ = some (.int .u8 (zs1.getD k 0)) := (World.cell?_of_block (hfr.block b1 l1 (by simp))).trans (A1.cell k hlt)
          have hz0 := A1.low k
          have hz1 := A1.high k
          obtain ⟨z, hz⟩ : ∃ z, z = zs1.getD k 0 := ⟨_, rfl⟩
          rw [← hz] at hcell hz0 hz1
          clear hz
          have hc0 := hL.cell hlt
          have hf0 := hL.row.free k
          have HL := hide hL
          clear hL
          go_wp2_with fail
          refine (name_any z _ hz0 hz1).mono ?_
          rintro e w1 ⟨⟨s, hs, rfl⟩, rfl⟩
          have HN := hide (HL.out.next hlt s hs)
          have HR := hide (hfr.setCell ⟨w.heap.size, k, none⟩ (.string s) (.inr (Nat.le_refl _)))
          go_wp2
          go_roundw
          case rel => exact ⟨k + 1, by omega, by go_num, _, HN.out, HR.out⟩
          case measure => simp [intOf]; omega
      · obtain ⟨r1, hl1⟩ := hL.full hk hlt
        have HS1 := hide hL.small
        have HL1 := hide hl1
        have hlw := r1.lt
        clear hL hl1
        go_wp2_with fail
        go_loopw [40] (fun i wr2 => ∃ k : Nat, k ≤ cn ∧ i = .int .i64 k ∧ ∃ L2, Fill wr2 wr.heap.size cn k L2 ∧ Fr w wr2 [] ∧ Row wr2 w.heap.size 9 (strs L)) (fun i _ => cn - (intOf i).toNat)
        case atStart => exact ⟨0, Nat.zero_le _, rfl, [], Fill.start wr cn, hfr.alloc _, r1.alloc _⟩
        case round =>
          obtain ⟨k2, hk2, rfl, L2, hL2, hfr2, r2⟩ := hrel
          by_cases hlt2 : k2 < cn
          · first | (exfalso; omega) | skip
            all_goals
              have hcell : wr.cell? ⟨b2, o2 + k2, none⟩ = some (.int .u8 (zs2.getD k2 0)) := (World.cell?_of_block (hfr2.block b2 l2 (by simp))).trans (A2.cell k2 hlt2)
              have hz0 := A2.low k2
              have hz1 := A2.high k2
              obtain ⟨z, hz⟩ : ∃ z, z = zs2.getD k2 0 := ⟨_, rfl⟩
              rw [← hz] at hcell hz0 hz1
              clear hz
              have hc0 := hL2.cell hlt2
              have hf0 := hL2.row.free k2
              have HL := hide hL2
              clear hL2
              go_wp2_with fail
              refine (name_any z _ hz0 hz1).mono ?_
              rintro e w1 ⟨⟨s, hs, rfl⟩, rfl⟩
              have HN := hide (HL.out.next hlt2 s hs)
              go_wp2
              go_roundw
              case rel => exact ⟨k2 + 1, by omega, by go_num, _, HN.out, hfr2.setCell _ _ (.inr hfr.size), r2.other _ _ (by simp; omega)⟩
              case measure => simp [intOf]; omega
          · obtain ⟨r3, hl3⟩ := hL2.full hk2 hlt2
            have hck := check_any F wr L (trim L) L2 _ _ (by rw [hfr2.tape]; exact hF) r2 r3 (by omega) (by rw [HL1.out]; exact h1) (by rw [hl3]; exact h2) (hide rfl) (hide hL2.small)
            rw [HL1.out, hl3] at hck
            have HK := hide hck
            clear hck hL2 hl3
            go_wp2_with fail
            refine HK.out.mono ?_
            rintro e w4 ⟨rfl, hfr4⟩
            go_wp2
            go_ret
            exact ⟨rfl, ((hfr2.weaken (by simp)).trans hfr4).toBelow (Nat.le_refl _) (by simp)⟩

end Go.Proofs.YbulkaqmiFmt
