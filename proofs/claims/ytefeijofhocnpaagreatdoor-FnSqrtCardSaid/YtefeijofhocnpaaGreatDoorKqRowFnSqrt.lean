/- For the claim of laws.The greatest number whose square is at most x (FnSqrt).: RowFnSqrt. -/
import Derived.Test.YtefeijofhocnpaaGreatDoorKqFactsFnSqrt
import Derived.Test.YtefeijofhocnpaaGreatDoorKqL1
import Derived.Test.YtefeijofhocnpaaGreatDoorKqE2
set_option linter.unusedVariables false
set_option linter.unusedSimpArgs false
namespace Go.Proofs.YtefeijofhocnpaaGreatDoor
open Go.ChangeShapes Go.WideShapes Go.ChangeAt Go.RowKit
theorem fnSqrt_door (os : Os) (args : Array Value) : laidMetH Tryz.prog Rows.fnSqrtRow.laid ((World.doorLaid Tryz.prog 4000 os).forCall (fun _ _ => 0) ⟨#[], args, []⟩).memory :=
  laidMetH_of_parts3 (fuel := 8) (laidMet_of_run' 8 (by kernel_rfl) (by kernel_rfl)) (by kernel_rfl) (by kernel_rfl)
set_option maxRecDepth 100000 in
theorem fnSqrt_lifted (os : Os) (started : os.Started) (H : Type) (enc : TypeId × Value → H) :
    ReturnsInHanded {} Tryz.checked os 9 .any (fun w args => (Rows.fnSqrtSpec.pre enc Tryz.prog Tryz.f9 Rows.fnSqrtRow.domain false w args ∧ laidMetH Tryz.prog Rows.fnSqrtRow.laid w) ∧ sizedMet enc Tryz.prog Tryz.f9 (OpenSpec.ofChange Rows.fnSqrtSpec) false w args)
      (Rows.fnSqrtSpec.post enc Tryz.prog Tryz.f9 false true false false) := by
  refine handed_shaped (C := Tryz.checked) (X := fun w _ => laidMetH Tryz.prog Rows.fnSqrtRow.laid w) prog_own started (by kernel_rfl) Tryz.func9
    (ChangeSpec.witness_shaped (enc := enc) (C := Tryz.checked) (os := os) (X := fun w _ => laidMetH Tryz.prog Rows.fnSqrtRow.laid w) false (World.doorLaid Tryz.prog 4000 os) #[.agg #[.bool false, .slice none 0 0]] 8 rfl (World.shaped_of_RefB (by kernel_rfl) (by kernel_rfl)) (by kernel_rfl) (by kernel_rfl) (by kernel_rfl) (fnSqrt_door os _)) ?_
  intro W base args ds gs before hval0 hW hsh0 hlaid0
  have hsh : W.ShapedOpen Tryz.prog := hsh0
  have hlaid : laidMetH Tryz.prog Rows.fnSqrtRow.laid W.memory := hlaid0
  have hval : ∀ (j : Nat) t v, Tryz.f9.params[j]? = some t → args[j]? = some v → Value.okWide Tryz.prog W .any base t v := hval0
  have hW' := hW
  obtain ⟨p, q, hA0, hV0, rfl, hfz, hnd⟩ := hW
  have hA : DataW.TrodAll enc Tryz.prog W 0 (fun _ => true) true Tryz.f9.params.toList args.toList ds p := hA0
  have hV : DataW.TrodVars enc Tryz.prog W (fun _ => true) Rows.fnSqrtSpec.vars gs q := hV0
  rw [Tryz.params9] at hA hval
  obtain ⟨v0, d0, rfl, rfl, h0⟩ := trodAll_one hA
  have lt0 : ∀ x ∈ p, x.block < W.heap.size := by obtain ⟨m, hm⟩ := h0; exact DataW.trod_lt m _ _ _ hm
  obtain ⟨n0, V0, x0⟩ := open_number (hval 0 33 v0 rfl rfl) h0
  have hD := dthr_of hsh hlaid (by kernel_rfl) (T := 40) (by exact List.Mem.tail _ (List.Mem.tail _ (List.Mem.tail _ (List.Mem.head _))))
  have hO := natOne_of hsh hlaid (by kernel_rfl) (by exact List.Mem.tail _ (List.Mem.tail _ (List.Mem.head _)))

  clear hA0 hval0 hV0 hsh0 hlaid0
  refine (FnSqrt_any v0 n0 V0 W x0 hO hD).mono fun e W' ⟨he, u⟩ => ?_
  subst he
  have bel : Below W.heap.size W W' := u.below _ (Nat.le_refl _) (fun _ _ _ h => h)
  obtain ⟨g1, g2, g3, g4, g5, g6, g7, rfl⟩ := seven_of (trodVars_len hV)
  have TV := Below.trodVars prog_laidOut bel (by kernel_rfl) hV
  exact ⟨_, rfl, _, _, _, [], _, _, hW', trodAll_mk1 (shut_bool Tryz.underlying4 _), (trodAll_cons_mk (Below.trod prog_laidOut (by kernel_rfl) (of_decide_eq_true (by kernel_rfl)) h0 bel lt0) trodAll_mk0), TV, bel.frame _, fun h => by cases h⟩
theorem fnSqrt_holds : Rows.FnSqrtSaid :=
  OpenClaim.holds_of_wide 9 Tryz.f9 rfl rfl rfl rfl rfl rfl rfl ⟨rfl, rfl, rfl, rfl, rfl⟩ rfl rfl rfl rfl rfl (by kernel_rfl) Tryz.func9 fnSqrt_closed
    (of_decide_eq_true (by kernel_rfl)) (by unfold Func.isWrapper; first | (rw [if_pos (by decide +kernel)]; kernel_rfl) | (rw [if_neg (by decide +kernel)]; exact ⟨rfl, rfl⟩))
    (fun os started H enc _ => fnSqrt_lifted os started H enc)
end Go.Proofs.YtefeijofhocnpaaGreatDoor
