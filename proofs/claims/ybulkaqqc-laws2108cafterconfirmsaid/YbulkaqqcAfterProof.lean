/-
  Rows.LawS2108CAfterConfirmSaid, proved.
-/
import Derived.Test.YbulkaqqcAfter
import Derived.ProofKit
import Derived.OpenShut
namespace Go.Proofs.Ybulkaqqc
open Go.ChangeShapes Go.WideShapes Go.ChangeAt Go.RowKit

theorem after_own : ownKnob Yba.prog.godebug = none := by kernel_rfl

theorem after_walk (a0 a1 a2 : Int) (w2 : (Lit.int .u64 a2).wf = true) (w : World) : Calls Yba.prog 4 #[.int .i64 a0, .int .i64 a1, .int .u64 a2] w fun e w' => e = .returned (.bool true) ∧ Below w.heap.size w w' := by
  by_cases h : a0 < 0 ∨ 1024 < a0 ∨ a1 < 0 ∨ 1024 < a1
  · refine (after_out a0 a1 a2 w h).mono ?_
    rintro e w' ⟨rfl, rfl⟩
    exact ⟨rfl, Below.refl _ _⟩
  · obtain ⟨no, rfl⟩ := Int.eq_ofNat_of_zero_le (show 0 ≤ a0 by omega)
    obtain ⟨np, rfl⟩ := Int.eq_ofNat_of_zero_le (show 0 ≤ a1 by omega)
    have hb := bounds_u64 w2
    obtain ⟨k, rfl⟩ := Int.eq_ofNat_of_zero_le (show 0 ≤ a2 by omega)
    exact after_in no np k w (by omega) (by omega)

set_option maxRecDepth 100000 in
theorem after_lifted (os : Os) (started : os.Started) (H : Type) (enc : TypeId × Value → H) :
    ReturnsInHanded {} Yba.checked os 4 .any (Rows.lawS2108CAfterConfirmSpec.pre6 enc Yba.prog Yba.f4 Rows.lawS2108CAfterConfirmRow.domain false) (Rows.lawS2108CAfterConfirmSpec.post enc Yba.prog Yba.f4 false true false false) := by
  refine returnsInHanded_of_change (C := Yba.checked) after_own started (by kernel_rfl) Yba.func4
    (ChangeSpec.witness6 (enc := enc) (C := Yba.checked) false ⟨#[], #[.int .i64 0, .int .i64 0, .int .u64 0], []⟩ 8 (by kernel_rfl) (by kernel_rfl) (by kernel_rfl) (by kernel_rfl)) ?_
  intro W base args ds gs before hval0 hW hcnd _
  have hval : ∀ (j : Nat) t v, Yba.f4.params[j]? = some t → args[j]? = some v → Value.okWide Yba.prog W .any base t v := hval0
  have hW' := hW
  obtain ⟨p, q, hA0, hV, rfl, hfz, hnd⟩ := hW
  have hA : DataW.TrodAll enc Yba.prog W 0 (fun _ => true) true Yba.f4.params.toList args.toList ds p := hA0
  rw [Yba.params4] at hA hval
  obtain ⟨v0, vs0, d0, ds0, p0, q0, hargs, rfl, rfl, h0, r0⟩ := trodAll_cons hA
  obtain ⟨v1, vs1, d1, ds1, p1, q1, rfl, rfl, rfl, h1, r1⟩ := trodAll_cons r0
  obtain ⟨v2, vs2, d2, ds2, p2, q2, rfl, rfl, rfl, h2, r2⟩ := trodAll_cons r1
  obtain ⟨rfl, rfl, rfl⟩ := trodAll_nil r2
  obtain rfl : args = #[v0, v1, v2] := by cases args; simp_all
  obtain ⟨rfl, rfl⟩ := trodVars_none hV
  obtain ⟨a0, rfl, rfl, rfl, w0⟩ := open_int Yba.underlying3 (hval 0 3 v0 rfl rfl) h0
  obtain ⟨a1, rfl, rfl, rfl, w1⟩ := open_int Yba.underlying3 (hval 1 3 v1 rfl rfl) h1
  obtain ⟨a2, rfl, rfl, rfl, w2⟩ := open_int Yba.underlying38 (hval 2 38 v2 rfl rfl) h2
  clear hA0 hval0
  simp only [List.append_nil] at hW'
  refine (after_walk a0 a1 a2 w2 W).mono fun e W' ⟨he, hg⟩ => ?_
  subst he
  exact ⟨_, rfl, _, _, _, [], [], [], hW', (trodAll_cons_mk (shut_bool Yba.underlying4 _) trodAll_mk0), (trodAll_cons_mk (shut_int Yba.underlying3 w0) (trodAll_cons_mk (shut_int Yba.underlying3 w1) (trodAll_cons_mk (shut_int Yba.underlying38 w2) trodAll_mk0))), rfl, hg.frame _, fun h => by cases h⟩

theorem after_holds : Rows.LawS2108CAfterConfirmSaid :=
  OpenClaim.holds_of_wide 4 Yba.f4 rfl rfl rfl rfl rfl rfl rfl ⟨rfl, rfl, rfl, rfl, rfl⟩ rfl rfl rfl rfl rfl (by kernel_rfl) Yba.func4 (by kernel_rfl)
    (of_decide_eq_true (by kernel_rfl)) (by unfold Func.isWrapper; first | (rw [if_pos (by decide +kernel)]; kernel_rfl) | (rw [if_neg (by decide +kernel)]; exact ⟨rfl, rfl⟩))
    (fun os started H enc _ => after_lifted os started H enc)

end Go.Proofs.Ybulkaqqc
