/- For the claim of laws.FnBinomial and FnBinomialSum: RowFnBinomialSum. -/
import Derived.Test.YtefeijofhocnpaaGreatDoorKbFactsFnBinomialSum
import Derived.Test.YtefeijofhocnpaaGreatDoorKbLawBinom
import Derived.Test.YtefeijofhocnpaaGreatDoorKbE1
set_option linter.unusedVariables false
set_option linter.unusedSimpArgs false
namespace Go.Proofs.YtefeijofhocnpaaGreatDoor
open Go.ChangeShapes Go.WideShapes Go.ChangeAt Go.RowKit
theorem fnBinomialSum_door (os : Os) (args : Array Value) : laidMetH Tryz.prog Rows.fnBinomialSumRow.laid ((World.doorLaid Tryz.prog 4000 os).forCall (fun _ _ => 0) ⟨#[], args, []⟩).memory :=
  laidMetH_of_parts3 (fuel := 8) (laidMet_of_run' 8 (by kernel_rfl) (by kernel_rfl)) (by kernel_rfl) (by kernel_rfl)
set_option maxRecDepth 100000 in
theorem fnBinomialSum_lifted (os : Os) (started : os.Started) (H : Type) (enc : TypeId × Value → H) :
    ReturnsInHanded {} Tryz.checked os 6 .any (fun w args => (Rows.fnBinomialSumSpec.pre enc Tryz.prog Tryz.f6 Rows.fnBinomialSumRow.domain false w args ∧ laidMetH Tryz.prog Rows.fnBinomialSumRow.laid w) ∧ sizedMet enc Tryz.prog Tryz.f6 (OpenSpec.ofChange Rows.fnBinomialSumSpec) false w args)
      (Rows.fnBinomialSumSpec.post enc Tryz.prog Tryz.f6 false true false false) := by
  refine handed_shaped (C := Tryz.checked) (X := fun w _ => laidMetH Tryz.prog Rows.fnBinomialSumRow.laid w) prog_own started (by kernel_rfl) Tryz.func6
    (ChangeSpec.witness_shaped (enc := enc) (C := Tryz.checked) (os := os) (X := fun w _ => laidMetH Tryz.prog Rows.fnBinomialSumRow.laid w) false (World.doorLaid Tryz.prog 4000 os) #[.int .u16 0, .int .u16 0] 8 rfl (World.shaped_of_RefB (by kernel_rfl) (by kernel_rfl)) (by kernel_rfl) (by kernel_rfl) (by kernel_rfl) (fnBinomialSum_door os _)) ?_
  intro W base args ds gs before hval0 hW hsh0 hlaid0
  have hsh : W.ShapedOpen Tryz.prog := hsh0
  have hlaid : laidMetH Tryz.prog Rows.fnBinomialSumRow.laid W.memory := hlaid0
  have hval : ∀ (j : Nat) t v, Tryz.f6.params[j]? = some t → args[j]? = some v → Value.okWide Tryz.prog W .any base t v := hval0
  have hW' := hW
  obtain ⟨p, q, hA0, hV0, rfl, hfz, hnd⟩ := hW
  have hA : DataW.TrodAll enc Tryz.prog W 0 (fun _ => true) true Tryz.f6.params.toList args.toList ds p := hA0
  have hV : DataW.TrodVars enc Tryz.prog W (fun _ => true) Rows.fnBinomialSumSpec.vars gs q := hV0
  rw [Tryz.params6] at hA hval
  obtain ⟨v0, v1, d0, d1, p0, p1, rfl, rfl, rfl, h0, h1⟩ := trodAll_two hA
  have lt0 : ∀ x ∈ p0, x.block < W.heap.size := by obtain ⟨m, hm⟩ := h0; exact DataW.trod_lt m _ _ _ hm
  have lt1 : ∀ x ∈ p1, x.block < W.heap.size := by obtain ⟨m, hm⟩ := h1; exact DataW.trod_lt m _ _ _ hm
  obtain ⟨z0, e0, _, _, f0⟩ := open_int Tryz.underlying40 (hval 0 40 v0 rfl rfl) h0
  subst e0
  have b0 := bounds_u16 f0
  obtain ⟨z1, e1, _, _, f1⟩ := open_int Tryz.underlying40 (hval 1 40 v1 rfl rfl) h1
  subst e1
  have b1 := bounds_u16 f1
  obtain ⟨T, hT⟩ := thr_of (i := 5) hsh hV rfl
  have hO := oneI_of hsh hlaid (by kernel_rfl) (by exact List.Mem.tail _ (List.Mem.tail _ (List.Mem.head _)))

  clear hA0 hval0 hV0 hsh0 hlaid0
  refine (FnBinomialSum_any T z0 z1 W hT hO b0.1 b0.2 b1.1 b1.2).mono fun e W' ⟨he, u⟩ => ?_
  subst he
  have bel : Below W.heap.size W W' := u.below _ (Nat.le_refl _) (fun _ _ _ h => h)
  obtain ⟨g1, g2, g3, g4, g5, g6, g7, rfl⟩ := seven_of (trodVars_len hV)
  have TV := Below.trodVars prog_laidOut bel (by kernel_rfl) hV
  exact ⟨_, rfl, _, _, _, [], _, _, hW', trodAll_mk1 (shut_bool Tryz.underlying4 _), (trodAll_cons_mk (Below.trod prog_laidOut (by kernel_rfl) (of_decide_eq_true (by kernel_rfl)) h0 bel lt0) (trodAll_cons_mk (Below.trod prog_laidOut (by kernel_rfl) (of_decide_eq_true (by kernel_rfl)) h1 bel lt1) trodAll_mk0)), TV, bel.frame _, fun h => by cases h⟩
theorem fnBinomialSum_holds : Rows.FnBinomialSumSaid :=
  OpenClaim.holds_of_wide 6 Tryz.f6 rfl rfl rfl rfl rfl rfl rfl ⟨rfl, rfl, rfl, rfl, rfl⟩ rfl rfl rfl rfl rfl (by kernel_rfl) Tryz.func6 fnBinomialSum_closed
    (of_decide_eq_true (by kernel_rfl)) (by unfold Func.isWrapper; first | (rw [if_pos (by decide +kernel)]; kernel_rfl) | (rw [if_neg (by decide +kernel)]; exact ⟨rfl, rfl⟩))
    (fun os started H enc _ => fnBinomialSum_lifted os started H enc)
end Go.Proofs.YtefeijofhocnpaaGreatDoor
