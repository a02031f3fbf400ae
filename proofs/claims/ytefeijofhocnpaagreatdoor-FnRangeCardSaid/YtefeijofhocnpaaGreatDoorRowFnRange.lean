/- For the claim of laws.FnRange: RowFnRange. -/
import Derived.Test.YtefeijofhocnpaaGreatDoorFactsFnRange
import Derived.Test.YtefeijofhocnpaaGreatDoorLawRange
set_option linter.unusedVariables false
set_option linter.unusedSimpArgs false
/- The row of laws.FnRange. -/
namespace Go.Proofs.YtefeijofhocnpaaGreatDoor
open Go.ChangeShapes Go.WideShapes Go.ChangeAt Go.RowKit

theorem fnRange_door (os : Os) (args : Array Value) : laidMetH Tryz.prog Rows.fnRangeRow.laid ((World.doorLaid Tryz.prog 4000 os).forCall (fun _ _ => 0) ⟨#[], args, []⟩).memory :=
  laidMetH_of_parts3 (fuel := 8) (laidMet_of_run' 8 (by kernel_rfl) (by kernel_rfl)) (by kernel_rfl) (by kernel_rfl)

set_option maxRecDepth 100000 in
theorem fnRange_lifted (os : Os) (started : os.Started) (H : Type) (enc : TypeId × Value → H) :
    ReturnsInHanded {} Tryz.checked os 3 .any (fun w args => (Rows.fnRangeSpec.pre enc Tryz.prog Tryz.f3 Rows.fnRangeRow.domain false w args ∧ laidMetH Tryz.prog Rows.fnRangeRow.laid w) ∧ sizedMet enc Tryz.prog Tryz.f3 (OpenSpec.ofChange Rows.fnRangeSpec) false w args)
      (Rows.fnRangeSpec.post enc Tryz.prog Tryz.f3 false true false false) := by
  refine handed_shaped (C := Tryz.checked) (X := fun w _ => laidMetH Tryz.prog Rows.fnRangeRow.laid w) prog_own started (by kernel_rfl) Tryz.func3
    (ChangeSpec.witness_shaped (enc := enc) (C := Tryz.checked) (os := os) (X := fun w _ => laidMetH Tryz.prog Rows.fnRangeRow.laid w) false (World.doorLaid Tryz.prog 4000 os) #[.int .i64 0, .int .i64 0] 8 rfl (World.shaped_of_RefB (by kernel_rfl) (by kernel_rfl)) (by kernel_rfl) (by kernel_rfl) (by kernel_rfl) (fnRange_door os _)) ?_
  intro W base args ds gs before hval0 hW hsh0 hlaid0
  have hsh : W.ShapedOpen Tryz.prog := hsh0
  have hlaid : laidMetH Tryz.prog Rows.fnRangeRow.laid W.memory := hlaid0
  have hval : ∀ (j : Nat) t v, Tryz.f3.params[j]? = some t → args[j]? = some v → Value.okWide Tryz.prog W .any base t v := hval0
  have hW' := hW
  obtain ⟨p, q, hA0, hV0, rfl, hfz, hnd⟩ := hW
  have hA : DataW.TrodAll enc Tryz.prog W 0 (fun _ => true) true Tryz.f3.params.toList args.toList ds p := hA0
  have hV : DataW.TrodVars enc Tryz.prog W (fun _ => true) Rows.fnRangeSpec.vars gs q := hV0
  rw [Tryz.params3] at hA hval
  obtain ⟨v0, v1, d0, d1, p0, p1, rfl, rfl, rfl, h0, h1⟩ := trodAll_two hA
  have lt0 : ∀ x ∈ p0, x.block < W.heap.size := by obtain ⟨m, hm⟩ := h0; exact DataW.trod_lt m _ _ _ hm
  have lt1 : ∀ x ∈ p1, x.block < W.heap.size := by obtain ⟨m, hm⟩ := h1; exact DataW.trod_lt m _ _ _ hm
  obtain ⟨z0, e0, _, _, f0⟩ := open_int Tryz.underlying3 (hval 0 3 v0 rfl rfl) h0
  subst e0
  have b0 := bounds_i64 f0
  obtain ⟨z1, e1, _, _, f1⟩ := open_int Tryz.underlying3 (hval 1 3 v1 rfl rfl) h1
  subst e1
  have b1 := bounds_i64 f1
  obtain ⟨T, hT⟩ := thr_of (i := 0) hsh hV rfl
  clear hA0 hval0 hV0 hsh0 hlaid0
  refine (FnRange_any T z0 z1 W hT b0.1 (by omega) b1.1 (by omega)).mono fun e W' ⟨he, u⟩ => ?_
  subst he
  have bel : Below W.heap.size W W' := u.below _ (Nat.le_refl _) (fun _ _ _ h => h)
  obtain ⟨g1, g2, g3, g4, g5, g6, g7, rfl⟩ := seven_of (trodVars_len hV)
  have TV := Below.trodVars prog_laidOut bel (by kernel_rfl) hV
  exact ⟨_, rfl, _, _, _, [], _, _, hW', trodAll_mk1 (shut_bool Tryz.underlying4 _), (trodAll_cons_mk (Below.trod prog_laidOut (by kernel_rfl) (of_decide_eq_true (by kernel_rfl)) h0 bel lt0) (trodAll_cons_mk (Below.trod prog_laidOut (by kernel_rfl) (of_decide_eq_true (by kernel_rfl)) h1 bel lt1) trodAll_mk0)), TV, bel.frame _, fun h => by cases h⟩

theorem fnRange_holds : Rows.FnRangeSaid :=
  OpenClaim.holds_of_wide 3 Tryz.f3 rfl rfl rfl rfl rfl rfl rfl ⟨rfl, rfl, rfl, rfl, rfl⟩ rfl rfl rfl rfl rfl (by kernel_rfl) Tryz.func3 fnRange_closed
    (of_decide_eq_true (by kernel_rfl)) (by unfold Func.isWrapper; first | (rw [if_pos (by decide +kernel)]; kernel_rfl) | (rw [if_neg (by decide +kernel)]; exact ⟨rfl, rfl⟩))
    (fun os started H enc _ => fnRange_lifted os started H enc)
#print axioms fnRange_holds
end Go.Proofs.YtefeijofhocnpaaGreatDoor
