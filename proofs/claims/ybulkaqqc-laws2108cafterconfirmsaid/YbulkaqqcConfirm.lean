/-
  The contract of (*Client).confirm (function 7).
-/
import Derived.Test.YbulkaqqcDelete
import Derived.Test.YbulkaqqcSearch
import Derived.Deep.RegionWith
namespace Go.Proofs.Ybulkaqqc
open Go.RowKit

set_option maxHeartbeats 400000 in
theorem search_zero (p1 p2 : Nat) (w : World) :
    Calls Yba.prog 10 #[.int .i64 0, .func (.func 11) #[] #[.pointer (some ⟨p1, 0, none⟩), .pointer (some ⟨p2, 0, none⟩)]] w fun e w' => e = .returned (.int .i64 0) ∧ w' = w := by
  go_enter Yba.func10, Yba.ntmps10
  go_wp2_with fail
  go_loopg [5, 6] 0 (fun _ s5 s6 wr => s5 = .int .i64 0 ∧ s6 = .int .i64 0 ∧ wr = w)
  case atStart => exact ⟨rfl, rfl, rfl⟩
  case round =>
    obtain ⟨rfl, rfl, rfl⟩ := hrel
    go_wp2
    go_ret
    exact ⟨rfl, rfl⟩

theorem delete_any (g n cap j : Nat) (L : List Value) (w : World) (r : Row w g 66 L) (hl : L.length = cap * 2) (hcap : n ≤ cap) (hm : cap ≤ 9223372036854775807) (hone : ∀ u ∈ L.take (n * 2), u.oneCell' = true) (hj : j ≤ n) :
    Calls Yba.prog 12 #[.slice (some ⟨g, 0, none⟩) n cap, .int .i64 0, .int .i64 j] w fun e w' => e = .returned (.slice (some ⟨g, 0, none⟩) (n - j) cap) ∧ Fr w w' [g] := by
  by_cases h0 : j = 0
  · subst h0
    refine (delete_none (some ⟨g, 0, none⟩) n cap hcap (fun h => by cases h) hm w).mono ?_
    rintro e w' ⟨rfl, rfl⟩
    exact ⟨rfl, Fr.refl _ _⟩
  · exact delete_some g n cap j L w r hl hcap hm hone (by omega) hj

theorem hmf : ∀ (fn : Fn) (first cap : Array Value) (w : World), (Instr.makeFunc fn first cap).run Yba.prog w = .ok (.func fn first cap) w := fun _ _ _ _ => rfl

set_option maxHeartbeats 1000000 in
theorem confirm_some (c g cap np k : Nat) (ov : Value) (LG : List Value) (w : World) (hnp : np ≤ 1024) (rc : Row w c 61 (clientL ov (.slice (some ⟨g, 0, none⟩) np cap))) (rg : Row w g 66 LG) (hl : LG.length = cap * 2) (hcap : np ≤ cap) (hm : cap ≤ 9223372036854775807) (ht : LG.take (np * 2) = txns np) (hne : c < g) :
    Calls Yba.prog 7 #[.pointer (some ⟨c, 0, none⟩), .int .u64 k] w fun e w' => e = .returned (.tuple #[]) ∧ Row w' c 61 (clientL ov (.slice (some ⟨g, 0, none⟩) (np - min k np) cap)) ∧ Fr w w' [c, g] := by
  have hone : ∀ u ∈ LG.take (np * 2), u.oneCell' = true := by rw [ht]; exact txns_one np
  have hmf' := hmf
  have ids : ∀ i : Nat, i < np → LG[i * 2]? = some (.int .u64 ((i : Int) + 1)) := fun i hi => by
    rw [← txns_id np i hi, ← ht, List.getElem?_take_of_lt (by omega)]
  have glt := rg.lt
  have rc2 := (rc.alloc (.cells #[.pointer (some ⟨c, 0, none⟩)] 22)).alloc (.cells #[.int .u64 k] 38)
  have rg2 := (rg.alloc (.cells #[.pointer (some ⟨c, 0, none⟩)] 22)).alloc (.cells #[.int .u64 k] 38)
  have rp1 := (Row.new w 22 [.pointer (some ⟨c, 0, none⟩)]).alloc (.cells #[.int .u64 k] 38)
  have rp2 := Row.new (w.alloc (.cells #[.pointer (some ⟨c, 0, none⟩)] 22)) 38 [.int .u64 k]
  rw [World.size_alloc] at rp2
  have b1 := rp1.cell 0 (v := .pointer (some ⟨c, 0, none⟩)) rfl
  have b3 := rc2.cell 11 (v := .slice (some ⟨g, 0, none⟩) np cap) rfl
  have HS : Hid (Sees ((w.alloc (.cells #[.pointer (some ⟨c, 0, none⟩)] 22)).alloc (.cells #[.int .u64 k] 38)) w.heap.size (w.heap.size + 1) c g cap np k) := ⟨b1, rp2.cell 0 rfl, b3, fun i hi => rg2.cell _ (ids i hi)⟩
  have HF : Hid (Fr w ((w.alloc (.cells #[.pointer (some ⟨c, 0, none⟩)] 22)).alloc (.cells #[.int .u64 k] 38)) [c, g]) := ((Fr.refl _ _).alloc _).alloc _
  have HRC := hide rc2
  have HRG := hide rg2
  have HP1 := hide rp1
  have HO := hide hone
  have HL := hide hl
  have hs := search_any w.heap.size (w.heap.size + 1) c g cap np k hnp _ HS.out
  have hjn : min k np ≤ np := Nat.min_le_right _ _
  generalize min k np = j at hs hjn ⊢
  clear rc rg hl ht hone ids rc2 rg2 rp1 rp2 HS
  go_enter Yba.func7, Yba.ntmps7
  go_wp2_with fail
  refine hs.mono ?_
  rintro e w1 ⟨rfl, q, hw⟩
  have HF1 : Hid (Fr w w1 [c, g]) := by rw [hw]; exact HF.out.drewN q
  have HRC1 : Hid (Row w1 c 61 (clientL ov (.slice (some ⟨g, 0, none⟩) np cap))) := by rw [hw]; exact HRC.out.drewN q
  have HRG1 : Hid (Row w1 g 66 LG) := by rw [hw]; exact HRG.out.drewN q
  have HP11 : Hid (Row w1 w.heap.size 22 [.pointer (some ⟨c, 0, none⟩)]) := by rw [hw]; exact HP1.out.drewN q
  clear hw hs HF HRC HRG HP1 b1 b3 hmf'
  have b1 := HP11.out.cell 0 (v := .pointer (some ⟨c, 0, none⟩)) rfl
  have b3 := HRC1.out.cell 11 (v := .slice (some ⟨g, 0, none⟩) np cap) rfl
  have hd : Calls Yba.prog 12 #[.slice (some ⟨g, 0, none⟩) np cap, .int .i64 0, .int .i64 j] w1.drew fun e w3 => e = .returned (.slice (some ⟨g, 0, none⟩) (np - j) cap) ∧ w3.cell? ⟨c, 11, none⟩ = some (.slice (some ⟨g, 0, none⟩) np cap) ∧ w3.frozen? ⟨c, 11, none⟩ = false ∧ w3.cell? ⟨w.heap.size, 0, none⟩ = some (.pointer (some ⟨c, 0, none⟩)) ∧ Hid (Row (w3.setCell ⟨c, 11, none⟩ (.slice (some ⟨g, 0, none⟩) (np - j) cap)) c 61 (clientL ov (.slice (some ⟨g, 0, none⟩) (np - j) cap)) ∧ Fr w (w3.setCell ⟨c, 11, none⟩ (.slice (some ⟨g, 0, none⟩) (np - j) cap)) [c, g]) := by
    refine (delete_any g np cap j LG w1.drew HRG1.out.drew HL.out hcap hm HO.out hjn).mono ?_
    rintro e w3 ⟨rfl, f3⟩
    have r3 := HRC1.out.drew.fr f3 (by rw [List.mem_singleton]; omega)
    have rb := HP11.out.drew.fr f3 (by rw [List.mem_singleton]; omega)
    refine ⟨rfl, r3.cell 11 rfl, r3.free 11, rb.cell 0 rfl, ?_, ?_⟩
    · rw [← client_set11 ov (.slice (some ⟨g, 0, none⟩) np cap)]
      exact r3.set 11 _
    · exact (HF1.out.drew.step f3 (fun x hx => .inl (by rw [List.mem_singleton] at hx; subst hx; simp))).setCell _ _ (.inl (by simp))
  clear HRG1 HL HO HF1 HRC1 HP11 hm hcap hnp hjn
  go_wp2_with fail
  go_region_with (go_at_call 12; refine hd.mono ?_; rintro e w3 ⟨rfl, c11, z11, b13, H3⟩)
  all_goals
    go_end0
    exact ⟨rfl, H3.out.1, H3.out.2⟩

set_option maxHeartbeats 1000000 in
theorem confirm_nil (c k : Nat) (ov : Value) (w : World) (rc : Row w c 61 (clientL ov (.slice none 0 0))) :
    Calls Yba.prog 7 #[.pointer (some ⟨c, 0, none⟩), .int .u64 k] w fun e w' => e = .returned (.tuple #[]) ∧ Row w' c 61 (clientL ov (.slice none 0 0)) ∧ Fr w w' [c] := by
  have hmf' := hmf
  have clt := rc.lt
  have rc2 := (rc.alloc (.cells #[.pointer (some ⟨c, 0, none⟩)] 22)).alloc (.cells #[.int .u64 k] 38)
  have rp1 := (Row.new w 22 [.pointer (some ⟨c, 0, none⟩)]).alloc (.cells #[.int .u64 k] 38)
  have b1 := rp1.cell 0 (v := .pointer (some ⟨c, 0, none⟩)) rfl
  have b3 := rc2.cell 11 (v := .slice none 0 0) rfl
  have HF : Hid (Fr w ((w.alloc (.cells #[.pointer (some ⟨c, 0, none⟩)] 22)).alloc (.cells #[.int .u64 k] 38)) [c]) := ((Fr.refl _ _).alloc _).alloc _
  have HRC := hide rc2
  have HP1 := hide rp1
  have hs := search_zero w.heap.size (w.heap.size + 1)
  clear rc rc2 rp1
  go_enter Yba.func7, Yba.ntmps7
  go_wp2_with fail
  refine (hs _).mono ?_
  rintro e w1 ⟨rfl, hw⟩
  have HF1 : Hid (Fr w w1 [c]) := by rw [hw]; exact HF.out
  have HRC1 : Hid (Row w1 c 61 (clientL ov (.slice none 0 0))) := by rw [hw]; exact HRC.out
  have HP11 : Hid (Row w1 w.heap.size 22 [.pointer (some ⟨c, 0, none⟩)]) := by rw [hw]; exact HP1.out
  clear hw hs HF HRC HP1 b1 b3 hmf'
  have b1 := HP11.out.cell 0 (v := .pointer (some ⟨c, 0, none⟩)) rfl
  have b3 := HRC1.out.cell 11 (v := .slice none 0 0) rfl
  have hd : Calls Yba.prog 12 #[.slice none 0 0, .int .i64 0, .int .i64 0] w1.drew fun e w3 => e = .returned (.slice none 0 0) ∧ w3.cell? ⟨c, 11, none⟩ = some (.slice none 0 0) ∧ w3.frozen? ⟨c, 11, none⟩ = false ∧ w3.cell? ⟨w.heap.size, 0, none⟩ = some (.pointer (some ⟨c, 0, none⟩)) ∧ Hid (Row (w3.setCell ⟨c, 11, none⟩ (.slice none 0 0)) c 61 (clientL ov (.slice none 0 0)) ∧ Fr w (w3.setCell ⟨c, 11, none⟩ (.slice none 0 0)) [c]) := by
    refine (delete_none none 0 0 (Nat.le_refl _) (fun _ => rfl) (by omega) w1.drew).mono ?_
    rintro e w3 ⟨rfl, rfl⟩
    have r3 := HRC1.out.drew
    have rb := HP11.out.drew
    refine ⟨rfl, r3.cell 11 rfl, r3.free 11, rb.cell 0 rfl, ?_, ?_⟩
    · have := r3.set 11 (.slice none 0 0)
      rw [client_set11] at this
      exact this
    · exact HF1.out.drew.setCell _ _ (.inl (by simp))
  clear HF1 HRC1 HP11
  go_wp2_with fail
  go_region_with (go_at_call 12; refine hd.mono ?_; rintro e w3 ⟨rfl, c11, z11, b13, H3⟩)
  all_goals
    go_end0
    exact ⟨rfl, H3.out.1, H3.out.2⟩

end Go.Proofs.Ybulkaqqc
