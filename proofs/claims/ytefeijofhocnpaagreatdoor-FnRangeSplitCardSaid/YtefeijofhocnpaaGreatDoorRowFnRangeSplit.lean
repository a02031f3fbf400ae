/- For the claim of laws.FnRange: RowFnRangeSplit. -/
import Derived.Test.YtefeijofhocnpaaGreatDoorFactsFnRangeSplit
import Derived.Test.YtefeijofhocnpaaGreatDoorLawRangeSplit
set_option linter.unusedVariables false
set_option linter.unusedSimpArgs false
/- The row of laws.FnRangeSplit. -/
namespace Go.Proofs.YtefeijofhocnpaaGreatDoor
open Go.ChangeShapes Go.WideShapes Go.ChangeAt Go.RowKit

theorem fnRangeSplit_door (os : Os) (args : Array Value) : laidMetH Tryz.prog Rows.fnRangeSplitRow.laid ((World.doorLaid Tryz.prog 4000 os).forCall (fun _ _ => 0) ⟨#[], args, []⟩).memory :=
  laidMetH_of_parts3 (fuel := 8) (laidMet_of_run' 8 (by kernel_rfl) (by kernel_rfl)) (by kernel_rfl) (by kernel_rfl)

set_option maxRecDepth 100000 in
theorem fnRangeSplit_lifted (os : Os) (started : os.Started) (H : Type) (enc : TypeId × Value → H) :
    ReturnsInHanded {} Tryz.checked os 4 .any (fun w args => (Rows.fnRangeSplitSpec.pre enc Tryz.prog Tryz.f4 Rows.fnRangeSplitRow.domain false w args ∧ laidMetH Tryz.prog Rows.fnRangeSplitRow.laid w) ∧ sizedMet enc Tryz.prog Tryz.f4 (OpenSpec.ofChange Rows.fnRangeSplitSpec) false w args)
      (Rows.fnRangeSplitSpec.post enc Tryz.prog Tryz.f4 false true false false) := by
  refine handed_shaped (C := Tryz.checked) (X := fun w _ => laidMetH Tryz.prog Rows.fnRangeSplitRow.laid w) prog_own started (by kernel_rfl) Tryz.func4
    (ChangeSpec.witness_shaped (enc := enc) (C := Tryz.checked) (os := os) (X := fun w _ => laidMetH Tryz.prog Rows.fnRangeSplitRow.laid w) false (World.doorLaid Tryz.prog 4000 os) #[.int .i16 0, .int .u8 0, .int .u8 0] 8 rfl (World.shaped_of_RefB (by kernel_rfl) (by kernel_rfl)) (by kernel_rfl) (by kernel_rfl) (by kernel_rfl) (fnRangeSplit_door os _)) ?_
  intro W base args ds gs before hval0 hW hsh0 hlaid0
  have hsh : W.ShapedOpen Tryz.prog := hsh0
  have hlaid : laidMetH Tryz.prog Rows.fnRangeSplitRow.laid W.memory := hlaid0
  have hval : ∀ (j : Nat) t v, Tryz.f4.params[j]? = some t → args[j]? = some v → Value.okWide Tryz.prog W .any base t v := hval0
  have hW' := hW
  obtain ⟨p, q, hA0, hV0, rfl, hfz, hnd⟩ := hW
  have hA : DataW.TrodAll enc Tryz.prog W 0 (fun _ => true) true Tryz.f4.params.toList args.toList ds p := hA0
  have hV : DataW.TrodVars enc Tryz.prog W (fun _ => true) Rows.fnRangeSplitSpec.vars gs q := hV0
  rw [Tryz.params4] at hA hval
  obtain ⟨v0, v1, v2, d0, d1, d2, p0, p1, p2, rfl, rfl, rfl, h0, h1, h2⟩ := trodAll_three hA
  have lt0 : ∀ x ∈ p0, x.block < W.heap.size := by obtain ⟨m, hm⟩ := h0; exact DataW.trod_lt m _ _ _ hm
  have lt1 : ∀ x ∈ p1, x.block < W.heap.size := by obtain ⟨m, hm⟩ := h1; exact DataW.trod_lt m _ _ _ hm
  have lt2 : ∀ x ∈ p2, x.block < W.heap.size := by obtain ⟨m, hm⟩ := h2; exact DataW.trod_lt m _ _ _ hm
  obtain ⟨z0, e0, _, _, f0⟩ := open_int Tryz.underlying36 (hval 0 36 v0 rfl rfl) h0
  subst e0
  have b0 := bounds_i16 f0
  obtain ⟨z1, e1, _, _, f1⟩ := open_int Tryz.underlying5 (hval 1 5 v1 rfl rfl) h1
  subst e1
  have b1 := bounds_u8 f1
  obtain ⟨z2, e2, _, _, f2⟩ := open_int Tryz.underlying5 (hval 2 5 v2 rfl rfl) h2
  subst e2
  have b2 := bounds_u8 f2
  obtain ⟨T, hT⟩ := thr_of (i := 0) hsh hV rfl
  clear hA0 hval0 hV0 hsh0 hlaid0
  refine (FnRangeSplit_any T z0 z1 z2 W hT b0.1 b0.2 b1.1 b1.2 b2.1 b2.2).mono fun e W' ⟨he, u⟩ => ?_
  subst he
  have bel : Below W.heap.size W W' := u.below _ (Nat.le_refl _) (fun _ _ _ h => h)
  obtain ⟨g1, g2, g3, g4, g5, g6, g7, rfl⟩ := seven_of (trodVars_len hV)
  have TV := Below.trodVars prog_laidOut bel (by kernel_rfl) hV
  exact ⟨_, rfl, _, _, _, [], _, _, hW', trodAll_mk1 (shut_bool Tryz.underlying4 _), (trodAll_cons_mk (Below.trod prog_laidOut (by kernel_rfl) (of_decide_eq_true (by kernel_rfl)) h0 bel lt0) (trodAll_cons_mk (Below.trod prog_laidOut (by kernel_rfl) (of_decide_eq_true (by kernel_rfl)) h1 bel lt1) (trodAll_cons_mk (Below.trod prog_laidOut (by kernel_rfl) (of_decide_eq_true (by kernel_rfl)) h2 bel lt2) trodAll_mk0))), TV, bel.frame _, fun h => by cases h⟩

theorem fnRangeSplit_holds : Rows.FnRangeSplitSaid :=
  OpenClaim.holds_of_wide 4 Tryz.f4 rfl rfl rfl rfl rfl rfl rfl ⟨rfl, rfl, rfl, rfl, rfl⟩ rfl rfl rfl rfl rfl (by kernel_rfl) Tryz.func4 fnRangeSplit_closed
    (of_decide_eq_true (by kernel_rfl)) (by unfold Func.isWrapper; first | (rw [if_pos (by decide +kernel)]; kernel_rfl) | (rw [if_neg (by decide +kernel)]; exact ⟨rfl, rfl⟩))
    (fun os started H enc _ => fnRangeSplit_lifted os started H enc)
#print axioms fnRangeSplit_holds
end Go.Proofs.YtefeijofhocnpaaGreatDoor
