/- The end. -/
import Derived.Test.YthkklkjldpcbkaaGreatDoorKgFactsFnGcdDivides
import Derived.Test.YthkklkjldpcbkaaGreatDoorKgL2
import Derived.Test.YthkklkjldpcbkaaGreatDoorKgE2
set_option linter.unusedVariables false
namespace Go.Proofs.YthkklkjldpcbkaaGreatDoor
open Go.ChangeShapes Go.WideShapes Go.ChangeAt Go.RowKit
theorem fnGcdDivides_door (os : Os) (args : Array Value) : laidMetH Tryz.prog Rows.fnGcdDividesRow.laid ((World.doorLaid Tryz.prog 4000 os).forCall (fun _ _ => 0) ⟨#[], args, []⟩).memory :=
 laidMetH_of_parts3 (fuel := 8) (laidMet_of_run' 8 (by kernel_rfl) (by kernel_rfl)) (by kernel_rfl) (by kernel_rfl)
set_option maxRecDepth 100000 in
theorem fnGcdDivides_lifted (os : Os) (started : os.Started) (H : Type) (enc : TypeId × Value → H) :
  ReturnsInHanded {} Tryz.checked os 4 .any (fun w args => (Rows.fnGcdDividesSpec.pre enc Tryz.prog Tryz.f4 Rows.fnGcdDividesRow.domain false w args ∧ laidMetH Tryz.prog Rows.fnGcdDividesRow.laid w) ∧ sizedMet enc Tryz.prog Tryz.f4 (OpenSpec.ofChange Rows.fnGcdDividesSpec) false w args)
   (Rows.fnGcdDividesSpec.post enc Tryz.prog Tryz.f4 false true false false) := by
 refine handed_shaped (C := Tryz.checked) (X := fun w _ => laidMetH Tryz.prog Rows.fnGcdDividesRow.laid w) prog_own started (by kernel_rfl) Tryz.func4
  (ChangeSpec.witness_shaped (enc := enc) (C := Tryz.checked) (os := os) (X := fun w _ => laidMetH Tryz.prog Rows.fnGcdDividesRow.laid w) false (World.doorLaid Tryz.prog 4000 os) #[.agg #[.bool false, .slice none 0 0], .agg #[.bool false, .slice none 0 0], .agg #[.bool false, .slice none 0 0]] 8 rfl (World.shaped_of_RefB (by kernel_rfl) (by kernel_rfl)) (by kernel_rfl) (by kernel_rfl) (by kernel_rfl) (fnGcdDivides_door os _)) ?_
 intro W base args ds gs before hval0 hW hsh0 hlaid0
 have hsh : W.ShapedOpen Tryz.prog := hsh0
 have hlaid : laidMetH Tryz.prog Rows.fnGcdDividesRow.laid W.memory := hlaid0
 have hval : ∀ (j : Nat) t v, Tryz.f4.params[j]? = some t → args[j]? = some v → Value.okWide Tryz.prog W .any base t v := hval0
 have hW' := hW
 obtain ⟨p, q, hA0, hV0, rfl, hfz, hnd⟩ := hW
 have hA : DataW.TrodAll enc Tryz.prog W 0 (fun _ => true) true Tryz.f4.params.toList args.toList ds p := hA0
 have hV : DataW.TrodVars enc Tryz.prog W (fun _ => true) Rows.fnGcdDividesSpec.vars gs q := hV0
 rw [Tryz.params4] at hA hval
 obtain ⟨v0, v1, v2, d0, d1, d2, p0, p1, p2, rfl, rfl, rfl, h0, h1, h2⟩ := trodAll_three hA
 have lt0 : ∀ x ∈ p0, x.block < W.heap.size := by obtain ⟨m, hm⟩ := h0; exact DataW.trod_lt m _ _ _ hm
 have lt1 : ∀ x ∈ p1, x.block < W.heap.size := by obtain ⟨m, hm⟩ := h1; exact DataW.trod_lt m _ _ _ hm
 have lt2 : ∀ x ∈ p2, x.block < W.heap.size := by obtain ⟨m, hm⟩ := h2; exact DataW.trod_lt m _ _ _ hm
 obtain ⟨n0, V0, x0⟩ := open_number (hval 0 24 v0 rfl rfl) h0
 obtain ⟨n1, V1, x1⟩ := open_number (hval 1 24 v1 rfl rfl) h1
 obtain ⟨n2, V2, x2⟩ := open_number (hval 2 24 v2 rfl rfl) h2
 have hK := thr_laid hsh hlaid (by kernel_rfl) (T := 40) (by exact List.Mem.tail _ (List.Mem.tail _ (List.Mem.tail _ (List.Mem.head _))))
 have hD := dthr_of hsh hlaid (by kernel_rfl) (T := 40) (by exact List.Mem.tail _ (List.Mem.tail _ (List.Mem.head _)))
 clear hA0 hval0 hV0 hsh0 hlaid0
 refine (FnGcdDivides_any v0 v1 v2 n0 n1 n2 V0 V1 V2 W x0 x1 x2 hK hD).mono fun e W' ⟨he, u⟩ => ?_
 subst he
 have bel : Below W.heap.size W W' := u.below _ (Nat.le_refl _) (fun _ _ _ h => h)
 obtain ⟨g1, g2, g3, g4, g5, g6, g7, rfl⟩ := seven_of (trodVars_len hV)
 have TV := Below.trodVars prog_laidOut bel (by kernel_rfl) hV
 exact ⟨_, rfl, _, _, _, [], _, _, hW', trodAll_mk1 (shut_bool Tryz.underlying4 _), (trodAll_cons_mk (Below.trod prog_laidOut (by kernel_rfl) (of_decide_eq_true (by kernel_rfl)) h0 bel lt0) (trodAll_cons_mk (Below.trod prog_laidOut (by kernel_rfl) (of_decide_eq_true (by kernel_rfl)) h1 bel lt1) (trodAll_cons_mk (Below.trod prog_laidOut (by kernel_rfl) (of_decide_eq_true (by kernel_rfl)) h2 bel lt2) trodAll_mk0))), TV, bel.frame _, fun h => by cases h⟩
theorem fnGcdDivides_holds : Rows.FnGcdDividesSaid :=
 OpenClaim.holds_of_wide 4 Tryz.f4 rfl rfl rfl rfl rfl rfl rfl ⟨rfl, rfl, rfl, rfl, rfl⟩ rfl rfl rfl rfl rfl (by kernel_rfl) Tryz.func4 fnGcdDivides_closed
  (of_decide_eq_true (by kernel_rfl)) (by unfold Func.isWrapper; first | (rw [if_pos (by decide +kernel)]; kernel_rfl) | (rw [if_neg (by decide +kernel)]; exact ⟨rfl, rfl⟩))
  (fun os started H enc _ => fnGcdDivides_lifted os started H enc)
end Go.Proofs.YthkklkjldpcbkaaGreatDoor
