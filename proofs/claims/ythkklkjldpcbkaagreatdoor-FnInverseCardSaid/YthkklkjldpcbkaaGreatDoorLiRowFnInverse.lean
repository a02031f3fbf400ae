/- For the claim of laws.FnInverse: RowFnInverse. -/
import Derived.Test.YthkklkjldpcbkaaGreatDoorLiFactsFnInverse
import Derived.Test.YthkklkjldpcbkaaGreatDoorLiLawInv
import Derived.Test.YthkklkjldpcbkaaGreatDoorLiE2
set_option linter.unusedVariables false
set_option linter.unusedSimpArgs false
namespace Go.Proofs.YthkklkjldpcbkaaGreatDoor
open Go.ChangeShapes Go.WideShapes Go.ChangeAt Go.RowKit
theorem fnInverse_door (os : Os) (args : Array Value) : laidMetH Tryz.prog Rows.fnInverseRow.laid ((World.doorLaid Tryz.prog 4000 os).forCall (fun _ _ => 0) ⟨#[], args, []⟩).memory :=
 laidMetH_of_parts3 (fuel := 8) (laidMet_of_run' 8 (by kernel_rfl) (by kernel_rfl)) (by kernel_rfl) (by kernel_rfl)
set_option maxRecDepth 100000 in
theorem fnInverse_lifted (os : Os) (started : os.Started) (H : Type) (enc : TypeId × Value -> H) :
  ReturnsInHanded {} Tryz.checked os 5 .any (fun w args => (Rows.fnInverseSpec.pre enc Tryz.prog Tryz.f5 Rows.fnInverseRow.domain false w args /\ laidMetH Tryz.prog Rows.fnInverseRow.laid w) /\ sizedMet enc Tryz.prog Tryz.f5 (OpenSpec.ofChange Rows.fnInverseSpec) false w args)
   (Rows.fnInverseSpec.post enc Tryz.prog Tryz.f5 false true false false) := by
 refine handed_shaped (C := Tryz.checked) (X := fun w _ => laidMetH Tryz.prog Rows.fnInverseRow.laid w) prog_own started (by kernel_rfl) Tryz.func5
  (ChangeSpec.witness_shaped (enc := enc) (C := Tryz.checked) (os := os) (X := fun w _ => laidMetH Tryz.prog Rows.fnInverseRow.laid w) false (World.doorLaid Tryz.prog 4000 os) #[.agg #[.bool false, .slice none 0 0], .agg #[.bool false, .slice none 0 0]] 8 rfl (World.shaped_of_RefB (by kernel_rfl) (by kernel_rfl)) (by kernel_rfl) (by kernel_rfl) (by kernel_rfl) (fnInverse_door os _)) ?_
 intro W base args ds gs before hval0 hW hsh0 hlaid0
 have hsh : W.ShapedOpen Tryz.prog := hsh0
 have hlaid : laidMetH Tryz.prog Rows.fnInverseRow.laid W.memory := hlaid0
 have hval : ∀ (j : Nat) t v, Tryz.f5.params[j]? = some t -> args[j]? = some v -> Value.okWide Tryz.prog W .any base t v := hval0
 have hW' := hW
 obtain ⟨p, q, hA0, hV0, rfl, hfz, hnd⟩ := hW
 have hA : DataW.TrodAll enc Tryz.prog W 0 (fun _ => true) true Tryz.f5.params.toList args.toList ds p := hA0
 have hV : DataW.TrodVars enc Tryz.prog W (fun _ => true) Rows.fnInverseSpec.vars gs q := hV0
 rw [Tryz.params5] at hA hval
 obtain ⟨v0, v1, d0, d1, p0, p1, rfl, rfl, rfl, h0, h1⟩ := trodAll_two hA
 have lt0 : ∀ x ∈ p0, x.block < W.heap.size := by obtain ⟨m, hm⟩ := h0; exact DataW.trod_lt m _ _ _ hm
 have lt1 : ∀ x ∈ p1, x.block < W.heap.size := by obtain ⟨m, hm⟩ := h1; exact DataW.trod_lt m _ _ _ hm
 obtain ⟨n0, V0, x0⟩ := open_number (hval 0 24 v0 rfl rfl) h0
 obtain ⟨n1, V1, x1⟩ := open_number (hval 1 24 v1 rfl rfl) h1
 have hO := oneI_of hsh hlaid (by kernel_rfl) (by exact List.Mem.tail _ (List.Mem.tail _ (List.Mem.head _)))
 have hK := thr_laid hsh hlaid (by kernel_rfl) (T := 40) (by exact List.Mem.tail _ (List.Mem.tail _ (List.Mem.tail _ (List.Mem.tail _ (List.Mem.head _)))))
 have hD := dthr_of hsh hlaid (by kernel_rfl) (T := 40) (by exact List.Mem.tail _ (List.Mem.tail _ (List.Mem.tail _ (List.Mem.head _))))
 clear hA0 hval0 hV0 hsh0 hlaid0
 refine (FnInverse_any v0 v1 n0 n1 V0 V1 W x0 x1 hK hD hO).mono fun e W' ⟨he, u⟩ => ?_
 subst he
 have bel : Below W.heap.size W W' := u.below _ (Nat.le_refl _) (fun _ _ _ h => h)
 obtain ⟨g1, g2, g3, g4, g5, g6, g7, rfl⟩ := seven_of (trodVars_len hV)
 have TV := Below.trodVars prog_laidOut bel (by kernel_rfl) hV
 exact ⟨_, rfl, _, _, _, [], _, _, hW', trodAll_mk1 (shut_bool Tryz.underlying4 _), (trodAll_cons_mk (Below.trod prog_laidOut (by kernel_rfl) (of_decide_eq_true (by kernel_rfl)) h0 bel lt0) (trodAll_cons_mk (Below.trod prog_laidOut (by kernel_rfl) (of_decide_eq_true (by kernel_rfl)) h1 bel lt1) trodAll_mk0)), TV, bel.frame _, fun h => by cases h⟩
theorem fnInverse_holds : Rows.FnInverseSaid :=
 OpenClaim.holds_of_wide 5 Tryz.f5 rfl rfl rfl rfl rfl rfl rfl ⟨rfl, rfl, rfl, rfl, rfl⟩ rfl rfl rfl rfl rfl (by kernel_rfl) Tryz.func5 fnInverse_closed
  (of_decide_eq_true (by kernel_rfl)) (by unfold Func.isWrapper; first | (rw [if_pos (by decide +kernel)]; kernel_rfl) | (rw [if_neg (by decide +kernel)]; exact ⟨rfl, rfl⟩))
  (fun os started H enc _ => fnInverse_lifted os started H enc)
end Go.Proofs.YthkklkjldpcbkaaGreatDoor
