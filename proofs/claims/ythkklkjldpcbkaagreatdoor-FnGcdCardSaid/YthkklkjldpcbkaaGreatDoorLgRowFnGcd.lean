/- For the claim of laws.FnGcd: RowFnGcd. -/
import Derived.Test.YthkklkjldpcbkaaGreatDoorLgFactsFnGcd
import Derived.Test.YthkklkjldpcbkaaGreatDoorLgL3
import Derived.Test.YthkklkjldpcbkaaGreatDoorLgE2
import Derived.Clock
set_option linter.unusedVariables false
set_option linter.unusedSimpArgs false
namespace Go.Proofs.YthkklkjldpcbkaaGreatDoor
open Go.ChangeShapes Go.WideShapes Go.ChangeAt Go.RowKit
theorem fnGcd_door (os : Os) (args : Array Value) : laidMetH Tryz.prog Rows.fnGcdRow.laid ((World.doorLaid Tryz.prog 4000 os).forCall (fun _ _ => 0) ⟨#[], args, []⟩).memory :=
 laidMetH_of_parts3 (fuel := 8) (laidMet_of_run' 8 (by kernel_rfl) (by kernel_rfl)) (by kernel_rfl) (by kernel_rfl)
set_option maxRecDepth 100000 in
theorem fnGcd_lifted (os : Os) (started : os.Started) (H : Type) (enc : TypeId × Value -> H) (F : Stop.Interp) :
  ReturnsInHanded { calm := true } Tryz.checked os 3 .any (fun w args => (Rows.fnGcdSpec.pre enc Tryz.prog Tryz.f3 Rows.fnGcdRow.domain false w args /\ laidMetH Tryz.prog Rows.fnGcdRow.laid w) /\ sizedMet enc Tryz.prog Tryz.f3 (OpenSpec.ofChange Rows.fnGcdSpec) false w args)
   ((OpenSpec.ofChange Rows.fnGcdSpec).postWith enc Tryz.prog Tryz.f3 F (outsideKept [.timePasses]) false true false) := by
 refine Clock.returns_of_change (C := Tryz.checked) (X := fun w _ => laidMetH Tryz.prog Rows.fnGcdRow.laid w) (fun _ _ _ hh h => h.of_heap hh) prog_own started (by kernel_rfl) Tryz.func3
  (Clock.witness_at (enc := enc) (C := Tryz.checked) (os := os) (X := fun w _ => laidMetH Tryz.prog Rows.fnGcdRow.laid w) (World.doorLaid Tryz.prog 4000 os) #[.agg #[.bool false, .slice none 0 0], .agg #[.bool false, .slice none 0 0]] 8 rfl (World.shaped_of_RefB (by kernel_rfl) (by kernel_rfl)) (by kernel_rfl) (by kernel_rfl) (by kernel_rfl) (fnGcd_door os _)) ?_
 intro W base args ds gs before hval0 hW _ _ hlaid1 hsh0
 have hlaid0 : laidMetH Tryz.prog Rows.fnGcdRow.laid W.memory := hlaid1.of_heap (show W.heap = W.memory.heap from rfl)
 have hsh : W.ShapedOpen Tryz.prog := hsh0
 have hlaid : laidMetH Tryz.prog Rows.fnGcdRow.laid W.memory := hlaid0
 have hval : ∀ (j : Nat) t v, Tryz.f3.params[j]? = some t -> args[j]? = some v -> Value.okWide Tryz.prog W .any base t v := hval0
 have hW' := hW
 obtain ⟨p, q, hA0, hV0, rfl, hfz, hnd⟩ := hW
 have hA : DataW.TrodAll enc Tryz.prog W 0 (fun _ => true) true Tryz.f3.params.toList args.toList ds p := hA0
 have hV : DataW.TrodVars enc Tryz.prog W (fun _ => true) Rows.fnGcdSpec.vars gs q := hV0
 rw [Tryz.params3] at hA hval
 obtain ⟨v0, v1, d0, d1, p0, p1, rfl, rfl, rfl, h0, h1⟩ := trodAll_two hA
 have lt0 : ∀ x ∈ p0, x.block < W.heap.size := by obtain ⟨m, hm⟩ := h0; exact DataW.trod_lt m _ _ _ hm
 have lt1 : ∀ x ∈ p1, x.block < W.heap.size := by obtain ⟨m, hm⟩ := h1; exact DataW.trod_lt m _ _ _ hm
 obtain ⟨n0, V0, x0⟩ := open_number (hval 0 24 v0 rfl rfl) h0
 obtain ⟨n1, V1, x1⟩ := open_number (hval 1 24 v1 rfl rfl) h1
 have hK := thr_laid hsh hlaid (by kernel_rfl) (T := 40) (by exact List.Mem.tail _ (List.Mem.tail _ (List.Mem.tail _ (List.Mem.head _))))
 have hD := dthr_of hsh hlaid (by kernel_rfl) (T := 40) (by exact List.Mem.tail _ (List.Mem.tail _ (List.Mem.head _)))

 clear hA0 hval0 hV0 hsh0 hlaid0 hlaid1
 refine (FnGcd_any v0 v1 n0 n1 V0 V1 W x0 x1 hK hD).mono fun e W' ⟨he, u⟩ => ?_
 subst he
 have bel1 : Below W.heap.size W W' := u.below _ (Nat.le_refl _) (fun _ _ _ h => h)
 have bel := (Clock.Since.of_below bel1).2
 obtain ⟨g1, g2, g3, g4, g5, g6, g7, rfl⟩ := seven_of (trodVars_len hV)
 have TV := Below.trodVars prog_laidOut bel (by kernel_rfl) hV
 exact ⟨_, rfl, ⟨_, _, _, [], _, _, hW', trodAll_mk1 (shut_bool Tryz.underlying4 _), (trodAll_cons_mk (Below.trod prog_laidOut (by kernel_rfl) (of_decide_eq_true (by kernel_rfl)) h0 bel lt0) (trodAll_cons_mk (Below.trod prog_laidOut (by kernel_rfl) (of_decide_eq_true (by kernel_rfl)) h1 bel lt1) trodAll_mk0)), TV, bel.frame _, fun h => by cases h⟩, (Clock.Since.of_below bel1).1⟩
theorem fnGcd_holds : Rows.FnGcdSaid :=
 Clock.holds_of_wide_time 3 Tryz.f3 rfl rfl rfl rfl rfl rfl rfl ⟨rfl, rfl, rfl, rfl, rfl⟩ rfl rfl rfl rfl rfl (by kernel_rfl) Tryz.func3 fnGcd_closed
  (of_decide_eq_true (by kernel_rfl)) (by unfold Func.isWrapper; first | (rw [if_pos (by decide +kernel)]; kernel_rfl) | (rw [if_neg (by decide +kernel)]; exact ⟨rfl, rfl⟩))
  (fun os started H enc _ F => fnGcd_lifted os started H enc F)
end Go.Proofs.YthkklkjldpcbkaaGreatDoor
