/- The reference's functions spec_DivMod, spec_Mod, spec_Gcd, spec_Rest as Lean functions, each with the proof that Go comes to its answer: written for this claim by the kit's print program; these pieces of its texts stand here together. -/
import Derived.Test.YthkklkjldpcbkaaGreatDoorLiSpec1
import Derived.Test.YthkklkjldpcbkaaGreatDoorProg
import Derived.Below
import Derived.Deep.Draws
import Derived.Deep.AppendLies
import Derived.Maps.AppendAt
import Derived.OwnWalk
import Derived.Laws.BytesArg
import Derived.Laws.MakeOwn
import Derived.Laws.OwnMore
import Derived.Deep.OwnRows
import Derived.Tactics
import Derived.Lib.ConvBytes
import Derived.Laws.Slices
import Derived.WalkKit
import Derived.KernelRfl
import Derived.RowKit3
import Derived.Deep.LoopGhost
import Derived.Deep.QuietTactic
import Derived.BigQuiet
import Derived.WideLaws
import Derived.Deep.DeepCutAuto
import Derived.Deep.CutBlock
import Derived.Deep.RegionHeld3
import Derived.Laws.Rows
import Derived.Lib.AppendStr
import Derived.ArgAppend
import Derived.Laws.IdiomCopy
import Derived.OrdersHeld
import Derived.Laws.BitsLemmas
import Derived.RowKit
import Derived.Test.YthkklkjldpcbkaaGreatDoorLiWWords
import Derived.Test.YthkklkjldpcbkaaGreatDoorLiWLast
import Derived.Test.YthkklkjldpcbkaaGreatDoorLiWApart
import Derived.Test.YthkklkjldpcbkaaGreatDoorLiWFoot
import Derived.Test.YthkklkjldpcbkaaGreatDoorLiWKept
import Derived.Test.YthkklkjldpcbkaaGreatDoorLiWShare
import Derived.Laws.StructEq
import Derived.Test.YthkklkjldpcbkaaGreatDoorLiWRepsOne
import Derived.Test.YthkklkjldpcbkaaGreatDoorLiWGuard
import Derived.Test.YthkklkjldpcbkaaGreatDoorLiWMore
set_option maxHeartbeats 16000000
set_option maxRecDepth 1000000
namespace Go.Proofs.YthkklkjldpcbkaaGreatDoor.PSpec
open Go.RowKit Go.Proofs.YthkklkjldpcbkaaGreatDoorW.PrintWords Go.Proofs.YthkklkjldpcbkaaGreatDoorW.PrintLast Go.Proofs.YthkklkjldpcbkaaGreatDoorW.PrintMore
attribute [local go_sem] max2_int min2_int max_two min_two max_three min_three max_four min_four   -- for this text's walks alone
set_option linter.unusedVariables false
set_option linter.unusedSimpArgs false
mutual
def spec_DivMod.l0 : Nat -> List Int -> List Int -> List Int -> List Int -> List Int -> Int -> Option (List Int × List Int)
 | 0, _, _, _, _, _, _ => none
 | k + 1, x8, x9, x10, x11, x12, x13 => if x13 >= 0 then (if 0 <= x13 then (if x13 < (x9.length : Int) then ((some (([rd x9 x13] : List Int) : List Int)).bind fun y277 => (if y277.length + x12.length < 17592186044416 then ((spec_cut.f k (y277 ++ x12)).bind fun t283 => (if (t283.length : Int) >= (x10.length : Int) then (if 0 <= (wrap64 ((x10.length : Int) - 1)) then (if (wrap64 ((x10.length : Int) - 1)) < (t283.length : Int) then (if (t283.length : Int) > (x10.length : Int) then (if 0 <= (x10.length : Int) then (if (x10.length : Int) < (t283.length : Int) then (if (wrap64 ((x10.length : Int) - 1)) < (x10.length : Int) then (if (rd x10 (wrap64 ((x10.length : Int) - 1))) = 0 then (none) else (spec_DivMod.j1 k x8 x9 x10 x11 t283 x13 (mn (wrap64 (Int.tdiv (wrap64 ((rd t283 (wrap64 ((x10.length : Int) - 1))) + (wrap64 (65536 * (rd t283 (x10.length : Int)))))) (rd x10 (wrap64 ((x10.length : Int) - 1))))) 65535))) else (none)) else (none)) else (none)) else (if (wrap64 ((x10.length : Int) - 1)) < (x10.length : Int) then (if (rd x10 (wrap64 ((x10.length : Int) - 1))) = 0 then (none) else (spec_DivMod.j1 k x8 x9 x10 x11 t283 x13 (mn (wrap64 (Int.tdiv (rd t283 (wrap64 ((x10.length : Int) - 1))) (rd x10 (wrap64 ((x10.length : Int) - 1))))) 65535))) else (none))) else (none)) else (none)) else (spec_DivMod.j1 k x8 x9 x10 x11 t283 x13 0))) else (none))) else (none)) else (none)) else ((spec_byDigit.f k x12 x8).bind fun bt269 => ((spec_cut.f k x11).bind fun t273 => (some (t273, bt269.1))))
def spec_DivMod.j1 : Nat -> List Int -> List Int -> List Int -> List Int -> List Int -> Int -> Int -> Option (List Int × List Int)
 | 0, _, _, _, _, _, _, _ => none
 | k + 1, x8, x9, x10, x11, x12, x13, x14 => (spec_Small.f k x14).bind fun t290 => ((spec_Mul.f k x10 t290).bind fun t293 => (spec_DivMod.l1 k x8 x9 x10 x11 x12 x13 x14 t293))
def spec_DivMod.l1 : Nat -> List Int -> List Int -> List Int -> List Int -> List Int -> Int -> Int -> List Int -> Option (List Int × List Int)
 | 0, _, _, _, _, _, _, _, _ => none
 | k + 1, x8, x9, x10, x11, x12, x13, x14, x15 => (spec_Cmp.f k x15 x12).bind fun t296 => (if t296 > 0 then ((spec_Sub.f k x15 x10).bind fun t297 => (spec_DivMod.l1 k x8 x9 x10 x11 x12 x13 (wrap64 (x14 - 1)) t297)) else ((spec_Sub.f k x12 x15).bind fun t300 => (if 0 <= x13 then (if x13 < (x11.length : Int) then (spec_DivMod.l0 k x8 x9 x10 (x11.set (x13 : Int).toNat x14) t300 (wrap64 (x13 - 1))) else (none)) else (none))))
end
def spec_DivMod.f (k : Nat) (l0 : List Int) (l1 : List Int) : Option (List Int × List Int) := if (l1.length : Int) = 1 then ((spec_byDigit.f k l0 l1).bind fun bt246 => ((spec_Small.f k bt246.2).bind fun t250 => (some (bt246.1, t250)))) else (if 0 <= (wrap64 ((l1.length : Int) - 1)) then (if (wrap64 ((l1.length : Int) - 1)) < (l1.length : Int) then (if (wrap64 ((rd l1 (wrap64 ((l1.length : Int) - 1))) + 1)) = 0 then (none) else ((spec_Small.f k (wrap64 (Int.tdiv (65536 : Int) (wrap64 ((rd l1 (wrap64 ((l1.length : Int) - 1))) + 1))))).bind fun t254 => ((spec_Mul.f k l0 t254).bind fun t257 => ((spec_Mul.f k l1 t254).bind fun t260 => (if 0 <= (t257.length : Int) then (if ((t257.length : Int) : Int).toNat <= 35184372088832 then (spec_DivMod.l0 k t254 t257 t260 (List.replicate ((t257.length : Int) : Int).toNat 0) (([] : List Int)) (wrap64 ((t257.length : Int) - 1))) else (none)) else (none)))))) else (none)) else (none))
theorem spec_DivMod.mono_l : ∀ k, (∀ y0 y1 y2 y3 y4 y5, LeO (spec_DivMod.l0 k y0 y1 y2 y3 y4 y5) (spec_DivMod.l0 (k + 1) y0 y1 y2 y3 y4 y5)) /\ (∀ y0 y1 y2 y3 y4 y5 y6, LeO (spec_DivMod.j1 k y0 y1 y2 y3 y4 y5 y6) (spec_DivMod.j1 (k + 1) y0 y1 y2 y3 y4 y5 y6)) /\ (∀ y0 y1 y2 y3 y4 y5 y6 y7, LeO (spec_DivMod.l1 k y0 y1 y2 y3 y4 y5 y6 y7) (spec_DivMod.l1 (k + 1) y0 y1 y2 y3 y4 y5 y6 y7))
 | 0 => ⟨fun _ _ _ _ _ _ r h => by simp [spec_DivMod.l0] at h, fun _ _ _ _ _ _ _ r h => by simp [spec_DivMod.j1] at h, fun _ _ _ _ _ _ _ _ r h => by simp [spec_DivMod.l1] at h⟩
 | k + 1 => by
  obtain ⟨ih0, ih1, ih2⟩ := spec_DivMod.mono_l k
  refine ⟨?_, ?_, ?_⟩
  .
   intro y0 y1 y2 y3 y4 y5
   unfold spec_DivMod.l0
   repeat' first
   | (with_reducible exact ih0 _ _ _ _ _ _)
   | (with_reducible exact ih1 _ _ _ _ _ _ _)
   | (with_reducible exact ih2 _ _ _ _ _ _ _ _)
   | (with_reducible exact spec_Cmp.mono _ _ _)
   | (with_reducible exact spec_Mul.mono _ _ _)
   | (with_reducible exact spec_Small.mono _ _)
   | (with_reducible exact spec_Sub.mono _ _ _)
   | (with_reducible exact spec_byDigit.mono _ _ _)
   | (with_reducible exact spec_cut.mono _ _)
   | (with_reducible exact LeO.refl _)
   | (with_reducible exact LeO.none _)
   | (with_reducible refine LeO.ite ?_ ?_)
   | (with_reducible refine LeO.bind ?_ (fun _ => ?_))
   | exact ih0 _ _ _ _ _ _
   | exact ih1 _ _ _ _ _ _ _
   | exact ih2 _ _ _ _ _ _ _ _
   | exact spec_Cmp.mono _ _ _
   | exact spec_Mul.mono _ _ _
   | exact spec_Small.mono _ _
   | exact spec_Sub.mono _ _ _
   | exact spec_byDigit.mono _ _ _
   | exact spec_cut.mono _ _
   | exact LeO.none _
   | refine LeO.ite ?_ ?_
   | refine LeO.bind ?_ (fun _ => ?_)
  .
   intro y0 y1 y2 y3 y4 y5 y6
   unfold spec_DivMod.j1
   repeat' first
   | (with_reducible exact ih0 _ _ _ _ _ _)
   | (with_reducible exact ih1 _ _ _ _ _ _ _)
   | (with_reducible exact ih2 _ _ _ _ _ _ _ _)
   | (with_reducible exact spec_Cmp.mono _ _ _)
   | (with_reducible exact spec_Mul.mono _ _ _)
   | (with_reducible exact spec_Small.mono _ _)
   | (with_reducible exact spec_Sub.mono _ _ _)
   | (with_reducible exact spec_byDigit.mono _ _ _)
   | (with_reducible exact spec_cut.mono _ _)
   | (with_reducible exact LeO.refl _)
   | (with_reducible exact LeO.none _)
   | (with_reducible refine LeO.ite ?_ ?_)
   | (with_reducible refine LeO.bind ?_ (fun _ => ?_))
   | exact ih0 _ _ _ _ _ _
   | exact ih1 _ _ _ _ _ _ _
   | exact ih2 _ _ _ _ _ _ _ _
   | exact spec_Cmp.mono _ _ _
   | exact spec_Mul.mono _ _ _
   | exact spec_Small.mono _ _
   | exact spec_Sub.mono _ _ _
   | exact spec_byDigit.mono _ _ _
   | exact spec_cut.mono _ _
   | exact LeO.none _
   | refine LeO.ite ?_ ?_
   | refine LeO.bind ?_ (fun _ => ?_)
  .
   intro y0 y1 y2 y3 y4 y5 y6 y7
   unfold spec_DivMod.l1
   repeat' first
   | (with_reducible exact ih0 _ _ _ _ _ _)
   | (with_reducible exact ih1 _ _ _ _ _ _ _)
   | (with_reducible exact ih2 _ _ _ _ _ _ _ _)
   | (with_reducible exact spec_Cmp.mono _ _ _)
   | (with_reducible exact spec_Mul.mono _ _ _)
   | (with_reducible exact spec_Small.mono _ _)
   | (with_reducible exact spec_Sub.mono _ _ _)
   | (with_reducible exact spec_byDigit.mono _ _ _)
   | (with_reducible exact spec_cut.mono _ _)
   | (with_reducible exact LeO.refl _)
   | (with_reducible exact LeO.none _)
   | (with_reducible refine LeO.ite ?_ ?_)
   | (with_reducible refine LeO.bind ?_ (fun _ => ?_))
   | exact ih0 _ _ _ _ _ _
   | exact ih1 _ _ _ _ _ _ _
   | exact ih2 _ _ _ _ _ _ _ _
   | exact spec_Cmp.mono _ _ _
   | exact spec_Mul.mono _ _ _
   | exact spec_Small.mono _ _
   | exact spec_Sub.mono _ _ _
   | exact spec_byDigit.mono _ _ _
   | exact spec_cut.mono _ _
   | exact LeO.none _
   | refine LeO.ite ?_ ?_
   | refine LeO.bind ?_ (fun _ => ?_)
theorem spec_DivMod.mono : ∀ a0 a1 k, LeO (spec_DivMod.f k a0 a1) (spec_DivMod.f (k + 1) a0 a1) := by
 intro a0 a1 k
 obtain ⟨ih0, ih1, ih2⟩ := spec_DivMod.mono_l k
 unfold spec_DivMod.f
 repeat' first
   | (with_reducible exact ih0 _ _ _ _ _ _)
   | (with_reducible exact ih1 _ _ _ _ _ _ _)
   | (with_reducible exact ih2 _ _ _ _ _ _ _ _)
   | (with_reducible exact spec_Cmp.mono _ _ _)
   | (with_reducible exact spec_Mul.mono _ _ _)
   | (with_reducible exact spec_Small.mono _ _)
   | (with_reducible exact spec_Sub.mono _ _ _)
   | (with_reducible exact spec_byDigit.mono _ _ _)
   | (with_reducible exact spec_cut.mono _ _)
   | (with_reducible exact LeO.refl _)
   | (with_reducible exact LeO.none _)
   | (with_reducible refine LeO.ite ?_ ?_)
   | (with_reducible refine LeO.bind ?_ (fun _ => ?_))
   | exact ih0 _ _ _ _ _ _
   | exact ih1 _ _ _ _ _ _ _
   | exact ih2 _ _ _ _ _ _ _ _
   | exact spec_Cmp.mono _ _ _
   | exact spec_Mul.mono _ _ _
   | exact spec_Small.mono _ _
   | exact spec_Sub.mono _ _ _
   | exact spec_byDigit.mono _ _ _
   | exact spec_cut.mono _ _
   | exact LeO.none _
   | refine LeO.ite ?_ ?_
   | refine LeO.bind ?_ (fun _ => ?_)
theorem spec_DivMod.calls (k : Nat) (A0 : Option Addr) (c0 : Nat) (l0 : List Int) (A1 : Option Addr) (c1 : Nat) (l1 : List Int) (r1 : List Int) (r2 : List Int) (w : World) (hr0 : Kd.C (Kd.int .i64) w A0 l0.length l0) (hc0 : l0.length <= c0) (hr1 : Kd.C (Kd.int .i64) w A1 l1.length l1) (hc1 : l1.length <= c1) (h : spec_DivMod.f k l0 l1 = some (r1, r2)) :
  Calls Tryz.prog 45 #[.slice A0 l0.length c0, .slice A1 l1.length c1] w fun e w' => ∃ v0_ v1_ : Value, e = .returned (.tuple #[v0_, v1_]) /\ Kd.V (Kd.int .i64) 3 w' w.heap.size (fun k_ => (w.heap.size <= k_)) v0_ r1 /\ Kd.V (Kd.int .i64) 3 w' w.heap.size (fun k_ => (w.heap.size <= k_)) v1_ r2 /\ Below w.heap.size w w' := by
 have HR0 := Zd.mk hr0
 have HC0 := Zd.mk hc0
 clear hr0 hc0
 have HR1 := Zd.mk hr1
 have HC1 := Zd.mk hc1
 clear hr1 hc1
 have HB := Zd.mk (Below.refl w.heap.size w)
 have H : (if (l1.length : Int) = 1 then ((spec_byDigit.f k l0 l1).bind fun bt246 => ((spec_Small.f k bt246.2).bind fun t250 => (some (bt246.1, t250)))) else (if 0 <= (wrap64 ((l1.length : Int) - 1)) then (if (wrap64 ((l1.length : Int) - 1)) < (l1.length : Int) then (if (wrap64 ((rd l1 (wrap64 ((l1.length : Int) - 1))) + 1)) = 0 then (none) else ((spec_Small.f k (wrap64 (Int.tdiv (65536 : Int) (wrap64 ((rd l1 (wrap64 ((l1.length : Int) - 1))) + 1))))).bind fun t254 => ((spec_Mul.f k l0 t254).bind fun t257 => ((spec_Mul.f k l1 t254).bind fun t260 => (if 0 <= (t257.length : Int) then (if ((t257.length : Int) : Int).toNat <= 35184372088832 then (spec_DivMod.l0 k t254 t257 t260 (List.replicate ((t257.length : Int) : Int).toNat 0) (([] : List Int)) (wrap64 ((t257.length : Int) - 1))) else (none)) else (none)))))) else (none)) else (none))) = some (r1, r2) := h
 clear h
 by_cases c3 : (l1.length : Int) = 1
 .
  rw [if_pos c3] at H
  have c3b0 : ((l1.length : Int) == 1) = true := beq_iff_eq.mpr c3
  have c3b1 : ((l1.length : Int) != 1) = false := bne_eq_false_iff_eq.mpr c3
  clear c3
  replace H := Option.bind_eq_some_iff.mp H
  obtain ⟨⟨t246, t249⟩, A40, H⟩ := H
  replace H : ((spec_Small.f k t249).bind fun t250 => (some (t246, t250))) = some (r1, r2) := H
  have A4 := Zd.mk A40
  clear A40
  replace H := Option.bind_eq_some_iff.mp H
  obtain ⟨t250, A50, H⟩ := H
  replace H : (some (t246, t250)) = some (r1, r2) := H
  have A5 := Zd.mk A50
  clear A50
  simp only [Option.some.injEq, Prod.mk.injEq] at H
  obtain ⟨rfl, rfl⟩ := H
  go_enter Tryz.func45, Tryz.ntmps45
  go_wp2_with (first | ((with_reducible refine Zr (f := 65) rfl ?_); refine goesL_ (some 24) rfl rfl Tryz.func65 (by kernel_rfl) rfl #[.slice A0 l0.length c0, .slice A1 l1.length c1] rfl (by (try simp only [List.map_toArray, List.map_cons, List.map_nil]); first | done | rfl | (simp only [List.length_drop, List.length_take]; rfl)) ?_; (with_reducible refine (spec_byDigit.calls k _ _ l0 _ _ l1 t246 t249 _ ?side1 ?side2 ?side3 ?side4 A4.out).mono ?_); (case side1 => repeat (first | exact HR0.out | (with_reducible refine Kd.C_alloc ?_ _) | (with_reducible refine Kd.C_drewN ?_ _) | (with_reducible refine Kd.C_drew ?_))); (case side2 => exact HC0.out); (case side3 => repeat (first | exact HR1.out | (with_reducible refine Kd.C_alloc ?_ _) | (with_reducible refine Kd.C_drewN ?_ _) | (with_reducible refine Kd.C_drew ?_))); (case side4 => exact HC1.out); rintro e w6 ⟨v247, rfl, ho0, hb⟩; refine ⟨_, rfl, ?_⟩; have n0_ := Zd.mk (Kd.V_lower (Kd.V_mono (ok' := fun k_ => (w.heap.size <= k_)) ho0 (fun k_ hk_ => (Nat.le_trans (Ze (by repeat (first | (with_reducible first | exact HB.out | apply Zb | apply Za | apply Zc) | exact HB.out))) hk_))) (Ze (by repeat (first | (with_reducible first | exact HB.out | apply Zb | apply Za | apply Zc) | exact HB.out)))); have n1_ := Zd.mk (Zi (by repeat (first | (with_reducible first | exact HB.out | apply Zb | apply Za | apply Zc) | exact HB.out)) hb); clear HB; have HO248 := n0_; have HB := n1_; clear n0_ n1_; (try clear hb); (try clear hb2); (try clear hk); (try clear hi); (try clear ho0)) | ((with_reducible refine Zr (f := 19) rfl ?_); refine goesL_ (some 29) rfl rfl Tryz.func19 (by kernel_rfl) rfl #[.int .i64 t249] rfl (by (try simp only [List.map_toArray, List.map_cons, List.map_nil]); first | done | rfl | (simp only [List.length_drop, List.length_take]; rfl)) ?_; (with_reducible refine (spec_Small.calls k t249 t250 _ A5.out).mono ?_); rintro e w7 ⟨v251, rfl, ho0, hb⟩; refine ⟨_, rfl, ?_⟩; have n0_ := Zd.mk (Kd.V_elder' (by (with_reducible repeat (first | apply Kd.V_alloc | apply Kd.V_drewN | apply Kd.V_drew)); exact HO248.out) (Kd.R_base ho0) hb); have n1_ := Zd.mk (Kd.R_lower (Kd.R_newM (M := fun k_ => (w.heap.size <= k_)) ho0 (Ze (by repeat (first | (with_reducible first | exact HB.out | apply Zb | apply Za | apply Zc) | exact HB.out))) (fun k_ h_ => h_)) (Ze (by repeat (first | (with_reducible first | exact HB.out | apply Zb | apply Za | apply Zc) | exact HB.out)))); have n2_ := Zd.mk (Zi (by repeat (first | (with_reducible first | exact HB.out | apply Zb | apply Za | apply Zc) | exact HB.out)) hb); clear HO248; clear HB; have HO248 := n0_; have HO252 := n1_; have HB := n2_; clear n0_ n1_ n2_; (try clear hb); (try clear hb2); (try clear hk); (try clear hi); (try clear ho0)))
  go_ret2
  exact ⟨_, _, by first | rfl | (simp [errW_none, errW_some] <;> rfl) | (simp [*, errW_none, errW_some] <;> rfl), by (with_reducible repeat (first | apply Kd.V_alloc | apply Kd.V_drewN | apply Kd.V_drew)); exact Kd.V_mono HO248.out (fun _ hk => hk.1), Kd.R_V (by (with_reducible repeat (first | apply Kd.R_alloc | apply Kd.R_drewN | apply Kd.R_drew)); exact Kd.R_mono HO252.out (fun _ hk => hk.1)), by repeat (first | (with_reducible first | exact HB.out | apply Zb | apply Za | apply Zc) | exact HB.out)⟩
 .
  rw [if_neg c3] at H
  have c3b0 : ((l1.length : Int) == 1) = false := beq_eq_false_iff_ne.mpr c3
  have c3b1 : ((l1.length : Int) != 1) = true := bne_iff_ne.mpr c3
  obtain ⟨ji8, hji8⟩ : ∃ j_ : Int, (wrap64 ((l1.length : Int) - 1)) = j_ := ⟨_, rfl⟩
  replace H : (if 0 <= (ji8) then (if (ji8) < (l1.length : Int) then (if (wrap64 ((rd l1 (ji8)) + 1)) = 0 then (none) else ((spec_Small.f k (wrap64 (Int.tdiv (65536 : Int) (wrap64 ((rd l1 (ji8)) + 1))))).bind fun t254 => ((spec_Mul.f k l0 t254).bind fun t257 => ((spec_Mul.f k l1 t254).bind fun t260 => (if 0 <= (t257.length : Int) then (if ((t257.length : Int) : Int).toNat <= 35184372088832 then (spec_DivMod.l0 k t254 t257 t260 (List.replicate ((t257.length : Int) : Int).toNat 0) (([] : List Int)) (wrap64 ((t257.length : Int) - 1))) else (none)) else (none)))))) else (none)) else (none)) = some (r1, r2) := by first | (rw [hji8] at H; exact H) | (simp only [hji8] at H ⊢; exact H)
  have hji8w : (IntKind.i64.wrap ((l1.length : Int) - 1)) = ji8 := (i64_w _).trans hji8
  by_cases c9 : 0 <= (ji8)
  .
   rw [if_pos c9] at H
   have c9b0 : decide (0 <= (ji8)) = true := decide_eq_true c9
   clear c9
   by_cases c10 : (ji8) < (l1.length : Int)
   .
    rw [if_pos c10] at H
    have c10b0 : decide ((ji8) < (l1.length : Int)) = true := decide_eq_true c10
    clear c10
    by_cases c11 : (wrap64 ((rd l1 (ji8)) + 1)) = 0
    .
     rw [if_pos c11] at H
     exact absurd H (by simp)
    .
     rw [if_neg c11] at H
     have c11b0 : ((wrap64 ((rd l1 (ji8)) + 1)) == 0) = false := beq_eq_false_iff_ne.mpr c11
     have c11b1 : ((wrap64 ((rd l1 (ji8)) + 1)) != 0) = true := bne_iff_ne.mpr c11
     replace H := Option.bind_eq_some_iff.mp H
     obtain ⟨t254, A120, H⟩ := H
     replace H : ((spec_Mul.f k l0 t254).bind fun t257 => ((spec_Mul.f k l1 t254).bind fun t260 => (if 0 <= (t257.length : Int) then (if ((t257.length : Int) : Int).toNat <= 35184372088832 then (spec_DivMod.l0 k t254 t257 t260 (List.replicate ((t257.length : Int) : Int).toNat 0) (([] : List Int)) (wrap64 ((t257.length : Int) - 1))) else (none)) else (none)))) = some (r1, r2) := H
     have A12 := Zd.mk A120
     clear A120
     replace H := Option.bind_eq_some_iff.mp H
     obtain ⟨t257, A130, H⟩ := H
     replace H : ((spec_Mul.f k l1 t254).bind fun t260 => (if 0 <= (t257.length : Int) then (if ((t257.length : Int) : Int).toNat <= 35184372088832 then (spec_DivMod.l0 k t254 t257 t260 (List.replicate ((t257.length : Int) : Int).toNat 0) (([] : List Int)) (wrap64 ((t257.length : Int) - 1))) else (none)) else (none))) = some (r1, r2) := H
     have A13 := Zd.mk A130
     clear A130
     replace H := Option.bind_eq_some_iff.mp H
     obtain ⟨t260, A140, H⟩ := H
     replace H : (if 0 <= (t257.length : Int) then (if ((t257.length : Int) : Int).toNat <= 35184372088832 then (spec_DivMod.l0 k t254 t257 t260 (List.replicate ((t257.length : Int) : Int).toNat 0) (([] : List Int)) (wrap64 ((t257.length : Int) - 1))) else (none)) else (none)) = some (r1, r2) := H
     have A14 := Zd.mk A140
     clear A140
     by_cases c15 : 0 <= (t257.length : Int)
     .
      rw [if_pos c15] at H
      have c15b0 := eq_true c15
      have c15b1 : decide (0 <= (t257.length : Int)) = true := decide_eq_true c15
      clear c15
      by_cases c16 : ((t257.length : Int) : Int).toNat <= 35184372088832
      .
       rw [if_pos c16] at H
       have c16b0 := eq_true c16
       have c16b1 : decide (((t257.length : Int) : Int).toNat <= 35184372088832) = true := decide_eq_true c16
       clear c16
       obtain ⟨y263, hy263⟩ : ∃ y_ : List Int, y_ = (List.replicate ((t257.length : Int) : Int).toNat 0) := ⟨_, rfl⟩
       replace H : (spec_DivMod.l0 k t254 t257 t260 y263 (([] : List Int)) (wrap64 ((t257.length : Int) - 1))) = some (r1, r2) := by first | (rw [hy263]; with_reducible exact H) | (have H2_ := (Option.bind_some _ _).symm.trans H; rw [hy263]; with_reducible exact H2_) | (have H2_ := (Option.bind_some _ _).symm.trans H; with_reducible exact H2_) | with_reducible exact H | (rw [hy263]; exact H) | exact H
       have Ny263 := Zd.mk hy263
       clear hy263
       obtain ⟨y266, hy266⟩ : ∃ y_ : List Int, y_ = (([] : List Int)) := ⟨_, rfl⟩
       replace H : (spec_DivMod.l0 k t254 t257 t260 y263 y266 (wrap64 ((t257.length : Int) - 1))) = some (r1, r2) := by first | (rw [hy266]; with_reducible exact H) | (have H2_ := (Option.bind_some _ _).symm.trans H; rw [hy266]; with_reducible exact H2_) | (have H2_ := (Option.bind_some _ _).symm.trans H; with_reducible exact H2_) | with_reducible exact H | (rw [hy266]; exact H) | exact H
       have Ny266 := Zd.mk hy266
       clear hy266
       have H' := Zd.mk H
       clear H
       have p253 : 0 <= ((ji8) : Int) := of_decide_eq_true (by first | (with_reducible assumption) | assumption)
       have q253 : (ji8) < (l1.length : Int) := of_decide_eq_true (by first | (with_reducible assumption) | assumption)
       obtain ⟨ad253, e253, hx253_0⟩ := Kd.at_int HR1.out (ji8) p253 q253
       cases e253
       replace p253 := eq_true p253
       replace q253 := eq_true q253
       go_enter Tryz.func45, Tryz.ntmps45
       go_wp2_with (first | ((with_reducible refine Zr (f := 19) rfl ?_); refine goesL_ (some 38) rfl rfl Tryz.func19 (by kernel_rfl) rfl #[.int .i64 (wrap64 (Int.tdiv (65536 : Int) (wrap64 ((rd l1 (ji8)) + 1))))] rfl (by (try simp only [List.map_toArray, List.map_cons, List.map_nil]); first | done | (simp only [hji8]; rfl) | rfl | (simp only [List.length_drop, List.length_take]; rfl)) ?_; (with_reducible refine (spec_Small.calls k (wrap64 (Int.tdiv (65536 : Int) (wrap64 ((rd l1 (ji8)) + 1)))) t254 _ A12.out).mono ?_); rintro e w17 ⟨v255, rfl, ho0, hb⟩; refine ⟨_, rfl, ?_⟩; have n0_ := Zd.mk (Kd.R_lower (Kd.R_newM (M := fun k_ => (w.heap.size <= k_)) ho0 (Ze (by repeat (first | (with_reducible first | exact HB.out | apply Zb | apply Za | apply Zc) | exact HB.out))) (fun k_ h_ => h_)) (Ze (by repeat (first | (with_reducible first | exact HB.out | apply Zb | apply Za | apply Zc) | exact HB.out)))); have n1_ := Zd.mk (Zi (by repeat (first | (with_reducible first | exact HB.out | apply Zb | apply Za | apply Zc) | exact HB.out)) hb); clear HB; have HO256 := n0_; have HB := n1_; clear n0_ n1_; (try clear hb); (try clear hb2); (try clear hk); (try clear hi); (try clear ho0); obtain ⟨Ao18, co18, eo18⟩ := Kd.R_slice HO256.out; subst eo18) | ((with_reducible refine Zr (f := 36) rfl ?_); refine goesL_ (some 41) rfl rfl Tryz.func36 (by kernel_rfl) rfl #[.slice A0 l0.length c0, .slice Ao18 t254.length co18] rfl (by (try simp only [List.map_toArray, List.map_cons, List.map_nil]); first | done | rfl | (simp only [List.length_drop, List.length_take]; rfl)) ?_; (with_reducible refine (spec_Mul.calls k _ _ l0 _ _ t254 t257 _ ?side1 ?side2 ?side3 ?side4 A13.out).mono ?_); (case side1 => repeat (first | exact (Kd.C_below HR0.out HB.out) | (with_reducible refine Kd.C_alloc ?_ _) | (with_reducible refine Kd.C_drewN ?_ _) | (with_reducible refine Kd.C_drew ?_))); (case side2 => exact HC0.out); (case side3 => repeat (first | exact (Kd.R_reads' HO256.out).2.2 | (with_reducible refine Kd.C_alloc ?_ _) | (with_reducible refine Kd.C_drewN ?_ _) | (with_reducible refine Kd.C_drew ?_))); (case side4 => exact (Kd.R_reads' HO256.out).2.1); rintro e w19 ⟨v258, rfl, ho0, hb⟩; refine ⟨_, rfl, ?_⟩; have n0_ := Zd.mk (Kd.R_below (by (with_reducible repeat (first | apply Kd.R_alloc | apply Kd.R_drewN | apply Kd.R_drew)); exact HO256.out) hb); have n1_ := Zd.mk (Kd.V_lower (Kd.V_mono (ok' := fun k_ => (w.heap.size <= k_) /\ some k_ ≠ (.slice Ao18 t254.length co18 : Value).ownBlock) ho0 (fun k_ hk_ => ⟨(Nat.le_trans (Ze (by repeat (first | (with_reducible first | exact HB.out | apply Zb | apply Za | apply Zc) | exact HB.out))) hk_), (Kd.fresh' (Kd.R_lt (by (with_reducible repeat (first | apply Kd.R_alloc | apply Kd.R_drewN | apply Kd.R_drew)); exact HO256.out)) k_ hk_)⟩)) (Ze (by repeat (first | (with_reducible first | exact HB.out | apply Zb | apply Za | apply Zc) | exact HB.out)))); have n2_ := Zd.mk (Zi (by repeat (first | (with_reducible first | exact HB.out | apply Zb | apply Za | apply Zc) | exact HB.out)) hb); clear HO256; clear HB; have HO256 := n0_; have HO259 := n1_; have HB := n2_; clear n0_ n1_ n2_; (try clear hb); (try clear hb2); (try clear hk); (try clear hi); (try clear ho0)) | ((with_reducible refine Zr (f := 36) rfl ?_); refine goesL_ (some 44) rfl rfl Tryz.func36 (by kernel_rfl) rfl #[.slice (some ad253) l1.length c1, .slice Ao18 t254.length co18] rfl (by (try simp only [List.map_toArray, List.map_cons, List.map_nil]); first | done | rfl | (simp only [List.length_drop, List.length_take]; rfl)) ?_; (with_reducible refine (spec_Mul.calls k _ _ l1 _ _ t254 t260 _ ?side1 ?side2 ?side3 ?side4 A14.out).mono ?_); (case side1 => repeat (first | exact (Kd.C_below HR1.out HB.out) | (with_reducible refine Kd.C_alloc ?_ _) | (with_reducible refine Kd.C_drewN ?_ _) | (with_reducible refine Kd.C_drew ?_))); (case side2 => exact HC1.out); (case side3 => repeat (first | exact (Kd.R_reads' HO256.out).2.2 | (with_reducible refine Kd.C_alloc ?_ _) | (with_reducible refine Kd.C_drewN ?_ _) | (with_reducible refine Kd.C_drew ?_))); (case side4 => exact (Kd.R_reads' HO256.out).2.1); rintro e w20 ⟨v261, rfl, ho0, hb⟩; refine ⟨_, rfl, ?_⟩; have n0_ := Zd.mk (Kd.R_below (by (with_reducible repeat (first | apply Kd.R_alloc | apply Kd.R_drewN | apply Kd.R_drew)); exact HO256.out) hb); have n1_ := Zd.mk (Kd.V_below (by (with_reducible repeat (first | apply Kd.V_alloc | apply Kd.V_drewN | apply Kd.V_drew)); exact HO259.out) hb); have n2_ := Zd.mk (Kd.V_lower (Kd.V_mono (ok' := fun k_ => (w.heap.size <= k_) /\ some k_ ≠ (.slice Ao18 t254.length co18 : Value).ownBlock) ho0 (fun k_ hk_ => ⟨(Nat.le_trans (Ze (by repeat (first | (with_reducible first | exact HB.out | apply Zb | apply Za | apply Zc) | exact HB.out))) hk_), (Kd.fresh' (Kd.R_lt (by (with_reducible repeat (first | apply Kd.R_alloc | apply Kd.R_drewN | apply Kd.R_drew)); exact HO256.out)) k_ hk_)⟩)) (Ze (by repeat (first | (with_reducible first | exact HB.out | apply Zb | apply Za | apply Zc) | exact HB.out)))); have n3_ := Zd.mk (Zi (by repeat (first | (with_reducible first | exact HB.out | apply Zb | apply Za | apply Zc) | exact HB.out)) hb); clear HO256; clear HO259; clear HB; have HO256 := n0_; have HO259 := n1_; have HO262 := n2_; have HB := n3_; clear n0_ n1_ n2_ n3_; (try clear hb); (try clear hb2); (try clear hk); (try clear hi); (try clear ho0); obtain ⟨Ao21, co21, eo21⟩ := Kd.V_slice HO259.out; subst eo21) | ((with_reducible refine gate_dst (N := 47) rfl ?_); refine Kd.R_make (Kd.int .i64) _ 3 rfl (N := 47) rfl 30 _ _ rfl (t257.length : Int) rfl rfl Tryz.underlying30 (.int .i64 0) 8 info3 rfl (by decide) (by omega) 0 (ok := fun _ => True) (okp := fun _ => True) rfl (fun _ hk => hk) trivial (of_decide_eq_true (by first | (with_reducible assumption) | assumption)) (Nat.le_trans (Nat.mul_le_mul_right _ (of_decide_eq_true (by first | (with_reducible assumption) | assumption) : (t257.length : Int).toNat <= 35184372088832)) (by omega)) (Below.refl _ _) (Nat.le_refl _) ?_; intro v264 w22 ho23 hb hg_ hnew_; clear hg_ hnew_; (first | rw [<- Ny263.out] at ho23 | (simp only [Int.reduceToNat] at ho23; rw [<- Ny263.out] at ho23)); have n0_ := Zd.mk (Kd.R_elder' (by (with_reducible repeat (first | apply Kd.R_alloc | apply Kd.R_drewN | apply Kd.R_drew)); exact HO256.out) (Kd.R_base ho23) hb); have n1_ := Zd.mk (Kd.V_elder' (by (with_reducible repeat (first | apply Kd.V_alloc | apply Kd.V_drewN | apply Kd.V_drew)); exact HO259.out) (Kd.R_base ho23) hb); have n2_ := Zd.mk (Kd.V_elder' (by (with_reducible repeat (first | apply Kd.V_alloc | apply Kd.V_drewN | apply Kd.V_drew)); exact HO262.out) (Kd.R_base ho23) hb); have n3_ := Zd.mk (Kd.R_lower (Kd.R_new' (Kd.R_newM (M := fun k_ => (w.heap.size <= k_)) ho23 (Ze (by repeat (first | (with_reducible first | exact HB.out | apply Zb | apply Za | apply Zc) | exact HB.out))) (fun k_ h_ => h_)) (Kd.R_lt (by (with_reducible repeat (first | apply Kd.R_alloc | apply Kd.R_drewN | apply Kd.R_drew)); exact HO256.out))) (Ze (by repeat (first | (with_reducible first | exact HB.out | apply Zb | apply Za | apply Zc) | exact HB.out)))); have n4_ := Zd.mk (Zi (by repeat (first | (with_reducible first | exact HB.out | apply Zb | apply Za | apply Zc) | exact HB.out)) hb); clear HO256; clear HO259; clear HO262; clear HB; have HO256 := n0_; have HO259 := n1_; have HO262 := n2_; have HO265 := n3_; have HB := n4_; clear n0_ n1_ n2_ n3_ n4_; clear hb ho23) | ((with_reducible refine gate_dst (N := 48) rfl ?_); refine Kd.R_lit (Kd.int .i64) _ 3 ?hg (N := 48) ?hd (xs := ([] : List Int)) (inner := []) (ok := fun _ => True) (okp := fun _ => True) ?hr ?hp (fun _ hk => hk) trivial (Below.refl _ _) (Nat.le_refl _) (by simp) ?_; (case hd => rfl); (case hg => rfl); (case hr => first | (go_simp; done) | (go_simp; rfl)); (case hp => exact (Reps.none _ _)); intro v267 w24 ho25 hb hg_ hnew_; clear hg_ hnew_; (first | rw [<- Ny266.out] at ho25 | (simp only [Int.reduceToNat] at ho25; rw [<- Ny266.out] at ho25)); have n0_ := Zd.mk (Kd.R_elder' (by (with_reducible repeat (first | apply Kd.R_alloc | apply Kd.R_drewN | apply Kd.R_drew)); exact HO256.out) (Kd.R_base ho25) hb); have n1_ := Zd.mk (Kd.V_elder' (by (with_reducible repeat (first | apply Kd.V_alloc | apply Kd.V_drewN | apply Kd.V_drew)); exact HO259.out) (Kd.R_base ho25) hb); have n2_ := Zd.mk (Kd.V_elder' (by (with_reducible repeat (first | apply Kd.V_alloc | apply Kd.V_drewN | apply Kd.V_drew)); exact HO262.out) (Kd.R_base ho25) hb); have n3_ := Zd.mk (Kd.R_elder' (by (with_reducible repeat (first | apply Kd.R_alloc | apply Kd.R_drewN | apply Kd.R_drew)); exact HO265.out) (Kd.R_base ho25) hb); have n4_ := Zd.mk (Kd.R_lower (Kd.R_new' (Kd.R_new' (Kd.R_newM (M := fun k_ => (w.heap.size <= k_)) ho25 (Ze (by repeat (first | (with_reducible first | exact HB.out | apply Zb | apply Za | apply Zc) | exact HB.out))) (fun k_ h_ => h_)) (Kd.R_lt (by (with_reducible repeat (first | apply Kd.R_alloc | apply Kd.R_drewN | apply Kd.R_drew)); exact HO256.out))) (Kd.R_lt (by (with_reducible repeat (first | apply Kd.R_alloc | apply Kd.R_drewN | apply Kd.R_drew)); exact HO265.out))) (Ze (by repeat (first | (with_reducible first | exact HB.out | apply Zb | apply Za | apply Zc) | exact HB.out)))); have n5_ := Zd.mk (Zi (by repeat (first | (with_reducible first | exact HB.out | apply Zb | apply Za | apply Zc) | exact HB.out)) hb); clear HO256; clear HO259; clear HO262; clear HO265; clear HB; have HO256 := n0_; have HO259 := n1_; have HO262 := n2_; have HO265 := n3_; have HO268 := n4_; have HB := n5_; clear n0_ n1_ n2_ n3_ n4_ n5_; clear hb ho25))
       go_loopg [12, 13] k (fun kq v12 v13 w' => ∃ (x11_1 : List Int) (x12_1 : List Int) (x13_1 : Int), v13 = .int .i64 x13_1 /\ Zd (spec_DivMod.l0 kq t254 t257 t260 x11_1 x12_1 x13_1 = some (r1, r2)) /\ Zd (kq <= k) /\ Zd (Kd.R (Kd.int .i64) 3 w' w.heap.size (fun k_ => (w.heap.size <= k_) /\ some k_ ≠ (v264 : Value).ownBlock) (.slice Ao18 t254.length co18) t254) /\ Zd (Kd.V (Kd.int .i64) 3 w' w.heap.size (fun k_ => (w.heap.size <= k_) /\ some k_ ≠ ((.slice Ao18 t254.length co18) : Value).ownBlock /\ some k_ ≠ (v264 : Value).ownBlock) (.slice Ao21 t257.length co21) t257) /\ Zd (Kd.V (Kd.int .i64) 3 w' w.heap.size (fun k_ => (w.heap.size <= k_) /\ some k_ ≠ ((.slice Ao18 t254.length co18) : Value).ownBlock /\ some k_ ≠ (v264 : Value).ownBlock) v261 t260) /\ Zd (Kd.R (Kd.int .i64) 3 w' w.heap.size (fun k_ => (w.heap.size <= k_) /\ some k_ ≠ ((.slice Ao18 t254.length co18) : Value).ownBlock) v264 x11_1) /\ Zd (Kd.V (Kd.int .i64) 3 w' w.heap.size (fun k_ => (w.heap.size <= k_) /\ some k_ ≠ ((.slice Ao18 t254.length co18) : Value).ownBlock /\ some k_ ≠ (v264 : Value).ownBlock) v12 x12_1) /\ Zd (Below w.heap.size w w'))
       case atStart => exact ⟨(y263), (y266), (wrap64 ((t257.length : Int) - 1)), (by first | rfl | (simp; done) | (simp [*]; done)), H', ⟨Nat.le_refl _⟩, ⟨by (with_reducible repeat (first | apply Kd.R_alloc | apply Kd.R_drewN | apply Kd.R_drew)); exact Kd.R_mono HO256.out (fun _ hk => ⟨hk.1.1.1, hk.1.2⟩)⟩, ⟨by (with_reducible repeat (first | apply Kd.V_alloc | apply Kd.V_drewN | apply Kd.V_drew)); exact Kd.V_mono HO259.out (fun _ hk => ⟨hk.1.1.1, ⟨hk.1.1.2, hk.1.2⟩⟩)⟩, ⟨by (with_reducible repeat (first | apply Kd.V_alloc | apply Kd.V_drewN | apply Kd.V_drew)); exact Kd.V_mono HO262.out (fun _ hk => ⟨hk.1.1.1, ⟨hk.1.1.2, hk.1.2⟩⟩)⟩, ⟨by (with_reducible repeat (first | apply Kd.R_alloc | apply Kd.R_drewN | apply Kd.R_drew)); exact Kd.R_mono HO265.out (fun _ hk => ⟨hk.1.1.1, hk.1.2⟩)⟩, ⟨Kd.R_V (by (with_reducible repeat (first | apply Kd.R_alloc | apply Kd.R_drewN | apply Kd.R_drew)); exact Kd.R_mono HO268.out (fun _ hk => ⟨hk.1.1.1, ⟨hk.1.2, hk.2⟩⟩))⟩, ⟨by repeat (first | (with_reducible first | exact HB.out | apply Zb | apply Za | apply Zc) | exact HB.out)⟩⟩
       case round =>
        clear H'
        try clear c1
        try clear p2
        try clear q2
        try clear hx2
        try clear c3
        try clear c3b0
        try clear c3b1
        try clear c4
        try clear c6
        try clear p6
        try clear c9
        try clear c9b0
        try clear c10
        try clear c10b0
        try clear c11
        try clear c11b0
        try clear c11b1
        try clear c15
        try clear c15b0
        try clear c15b1
        try clear c16
        try clear c16b0
        try clear c16b1
        try clear c19
        try clear p25
        try clear q25
        try clear hx25
        try clear hx253_0
        try clear p253
        try clear q253
        obtain ⟨x11_1, x12_1, x13_1, rfl, HA, HK1, HO_8, HO_9, HO_10, HO_11, HO_12, HB⟩ := hrel
        cases gk with
        | zero => exact absurd HA.out (by simp [spec_DivMod.l0])
        | succ k1 =>
         have H := HA.out
         clear HA
         simp only [spec_DivMod.l0] at H
         by_cases c26 : x13_1 >= 0
         .
          rw [if_pos c26] at H
          have c26b0 : decide (0 <= x13_1) = true := decide_eq_true c26
          clear c26
          by_cases c27 : 0 <= x13_1
          .
           rw [if_pos c27] at H
           have c27b0 : decide (0 <= x13_1) = true := decide_eq_true c27
           clear c27
           by_cases c28 : x13_1 < (t257.length : Int)
           .
            rw [if_pos c28] at H
            have c28b0 : decide (x13_1 < (t257.length : Int)) = true := decide_eq_true c28
            clear c28
            obtain ⟨y277, hy277⟩ : ∃ y_ : List Int, y_ = (([rd t257 x13_1] : List Int)) := ⟨_, rfl⟩
            replace H : (if y277.length + x12_1.length < 17592186044416 then ((spec_cut.f k1 (y277 ++ x12_1)).bind fun t283 => (if (t283.length : Int) >= (t260.length : Int) then (if 0 <= (wrap64 ((t260.length : Int) - 1)) then (if (wrap64 ((t260.length : Int) - 1)) < (t283.length : Int) then (if (t283.length : Int) > (t260.length : Int) then (if 0 <= (t260.length : Int) then (if (t260.length : Int) < (t283.length : Int) then (if (wrap64 ((t260.length : Int) - 1)) < (t260.length : Int) then (if (rd t260 (wrap64 ((t260.length : Int) - 1))) = 0 then (none) else (spec_DivMod.j1 k1 t254 t257 t260 x11_1 t283 x13_1 (mn (wrap64 (Int.tdiv (wrap64 ((rd t283 (wrap64 ((t260.length : Int) - 1))) + (wrap64 (65536 * (rd t283 (t260.length : Int)))))) (rd t260 (wrap64 ((t260.length : Int) - 1))))) 65535))) else (none)) else (none)) else (none)) else (if (wrap64 ((t260.length : Int) - 1)) < (t260.length : Int) then (if (rd t260 (wrap64 ((t260.length : Int) - 1))) = 0 then (none) else (spec_DivMod.j1 k1 t254 t257 t260 x11_1 t283 x13_1 (mn (wrap64 (Int.tdiv (rd t283 (wrap64 ((t260.length : Int) - 1))) (rd t260 (wrap64 ((t260.length : Int) - 1))))) 65535))) else (none))) else (none)) else (none)) else (spec_DivMod.j1 k1 t254 t257 t260 x11_1 t283 x13_1 0))) else (none)) = some (r1, r2) := by first | (rw [hy277]; with_reducible exact H) | (have H2_ := (Option.bind_some _ _).symm.trans H; rw [hy277]; with_reducible exact H2_) | (have H2_ := (Option.bind_some _ _).symm.trans H; with_reducible exact H2_) | with_reducible exact H | (rw [hy277]; exact H) | exact H
            have Ny277 := Zd.mk hy277
            clear hy277
            by_cases c29 : y277.length + x12_1.length < 17592186044416
            .
             rw [if_pos c29] at H
             have LMc29 := Zd.mk c29
             clear c29
             obtain ⟨y280, hy280⟩ : ∃ y_ : List Int, y_ = (y277 ++ x12_1) := ⟨_, rfl⟩
             replace H : ((spec_cut.f k1 y280).bind fun t283 => (if (t283.length : Int) >= (t260.length : Int) then (if 0 <= (wrap64 ((t260.length : Int) - 1)) then (if (wrap64 ((t260.length : Int) - 1)) < (t283.length : Int) then (if (t283.length : Int) > (t260.length : Int) then (if 0 <= (t260.length : Int) then (if (t260.length : Int) < (t283.length : Int) then (if (wrap64 ((t260.length : Int) - 1)) < (t260.length : Int) then (if (rd t260 (wrap64 ((t260.length : Int) - 1))) = 0 then (none) else (spec_DivMod.j1 k1 t254 t257 t260 x11_1 t283 x13_1 (mn (wrap64 (Int.tdiv (wrap64 ((rd t283 (wrap64 ((t260.length : Int) - 1))) + (wrap64 (65536 * (rd t283 (t260.length : Int)))))) (rd t260 (wrap64 ((t260.length : Int) - 1))))) 65535))) else (none)) else (none)) else (none)) else (if (wrap64 ((t260.length : Int) - 1)) < (t260.length : Int) then (if (rd t260 (wrap64 ((t260.length : Int) - 1))) = 0 then (none) else (spec_DivMod.j1 k1 t254 t257 t260 x11_1 t283 x13_1 (mn (wrap64 (Int.tdiv (rd t283 (wrap64 ((t260.length : Int) - 1))) (rd t260 (wrap64 ((t260.length : Int) - 1))))) 65535))) else (none))) else (none)) else (none)) else (spec_DivMod.j1 k1 t254 t257 t260 x11_1 t283 x13_1 0))) = some (r1, r2) := by first | (rw [hy280]; with_reducible exact H) | (have H2_ := (Option.bind_some _ _).symm.trans H; rw [hy280]; with_reducible exact H2_) | (have H2_ := (Option.bind_some _ _).symm.trans H; with_reducible exact H2_) | with_reducible exact H | (rw [hy280]; exact H) | exact H
             have Ny280 := Zd.mk hy280
             clear hy280
             replace H := Option.bind_eq_some_iff.mp H
             obtain ⟨t283, A300, H⟩ := H
             replace H : (if (t283.length : Int) >= (t260.length : Int) then (if 0 <= (wrap64 ((t260.length : Int) - 1)) then (if (wrap64 ((t260.length : Int) - 1)) < (t283.length : Int) then (if (t283.length : Int) > (t260.length : Int) then (if 0 <= (t260.length : Int) then (if (t260.length : Int) < (t283.length : Int) then (if (wrap64 ((t260.length : Int) - 1)) < (t260.length : Int) then (if (rd t260 (wrap64 ((t260.length : Int) - 1))) = 0 then (none) else (spec_DivMod.j1 k1 t254 t257 t260 x11_1 t283 x13_1 (mn (wrap64 (Int.tdiv (wrap64 ((rd t283 (wrap64 ((t260.length : Int) - 1))) + (wrap64 (65536 * (rd t283 (t260.length : Int)))))) (rd t260 (wrap64 ((t260.length : Int) - 1))))) 65535))) else (none)) else (none)) else (none)) else (if (wrap64 ((t260.length : Int) - 1)) < (t260.length : Int) then (if (rd t260 (wrap64 ((t260.length : Int) - 1))) = 0 then (none) else (spec_DivMod.j1 k1 t254 t257 t260 x11_1 t283 x13_1 (mn (wrap64 (Int.tdiv (rd t283 (wrap64 ((t260.length : Int) - 1))) (rd t260 (wrap64 ((t260.length : Int) - 1))))) 65535))) else (none))) else (none)) else (none)) else (spec_DivMod.j1 k1 t254 t257 t260 x11_1 t283 x13_1 0)) = some (r1, r2) := H
             have A30 := Zd.mk A300
             clear A300
             have HC31 := Zd.mk H
             clear H
             have p276 : 0 <= (x13_1 : Int) := of_decide_eq_true (by first | (with_reducible assumption) | assumption)
             have q276 : x13_1 < (t257.length : Int) := of_decide_eq_true (by first | (with_reducible assumption) | assumption)
             obtain ⟨ad276, e276, hx276_0⟩ := Kd.at_int (Kd.V_reads' HO_9.out).2.2 x13_1 p276 q276
             cases e276
             replace p276 := eq_true p276
             replace q276 := eq_true q276
             go_upto_if 68 with (first | ((with_reducible refine gate_dst (N := 60) rfl ?_); refine Kd.R_lit (Kd.int .i64) _ 3 ?hg (N := 60) ?hd (xs := ([rd t257 x13_1] : List Int)) (inner := [.int .i64 (rd t257 x13_1)]) (ok := fun _ => True) (okp := fun _ => True) ?hr ?hp (fun _ hk => hk) trivial (Below.refl _ _) (Nat.le_refl _) (by simp) ?_; (case hd => rfl); (case hg => rfl); (case hr => first | (go_simp; done) | (go_simp; rfl)); (case hp => exact (Reps.one (show Kd.M (Kd.int .i64) _ _ _ (rd t257 x13_1) [.int .i64 (rd t257 x13_1)] from rfl) (Reps.none _ _))); intro v278 w32 ho33 hb hg_ hnew_; clear hg_ hnew_; (first | rw [<- Ny277.out] at ho33 | (simp only [Int.reduceToNat] at ho33; rw [<- Ny277.out] at ho33)); have n0_ := Zd.mk (Kd.R_elder' (by (with_reducible repeat (first | apply Kd.R_alloc | apply Kd.R_drewN | apply Kd.R_drew)); exact HO_8.out) (Kd.R_base ho33) hb); have n1_ := Zd.mk (Kd.V_elder' (by (with_reducible repeat (first | apply Kd.V_alloc | apply Kd.V_drewN | apply Kd.V_drew)); exact HO_9.out) (Kd.R_base ho33) hb); have n2_ := Zd.mk (Kd.V_elder' (by (with_reducible repeat (first | apply Kd.V_alloc | apply Kd.V_drewN | apply Kd.V_drew)); exact HO_10.out) (Kd.R_base ho33) hb); have n3_ := Zd.mk (Kd.R_elder' (by (with_reducible repeat (first | apply Kd.R_alloc | apply Kd.R_drewN | apply Kd.R_drew)); exact HO_11.out) (Kd.R_base ho33) hb); have n4_ := Zd.mk (Kd.V_elder' (by (with_reducible repeat (first | apply Kd.V_alloc | apply Kd.V_drewN | apply Kd.V_drew)); exact HO_12.out) (Kd.R_base ho33) hb); have n5_ := Zd.mk (Kd.R_lower (Kd.R_new' (Kd.R_new' (Kd.R_newM (M := fun k_ => (w.heap.size <= k_)) ho33 (Ze (by repeat (first | (with_reducible first | exact HB.out | apply Zb | apply Za | apply Zc) | exact HB.out))) (fun k_ h_ => h_)) (Kd.R_lt (by (with_reducible repeat (first | apply Kd.R_alloc | apply Kd.R_drewN | apply Kd.R_drew)); exact HO_8.out))) (Kd.R_lt (by (with_reducible repeat (first | apply Kd.R_alloc | apply Kd.R_drewN | apply Kd.R_drew)); exact HO_11.out))) (Ze (by repeat (first | (with_reducible first | exact HB.out | apply Zb | apply Za | apply Zc) | exact HB.out)))); have n6_ := Zd.mk (Zi (by repeat (first | (with_reducible first | exact HB.out | apply Zb | apply Za | apply Zc) | exact HB.out)) hb); clear HO_8; clear HO_9; clear HO_10; clear HO_11; clear HO_12; clear HB; have HO_8 := n0_; have HO_9 := n1_; have HO_10 := n2_; have HO_11 := n3_; have HO_12 := n4_; have HO279 := n5_; have HB := n6_; clear n0_ n1_ n2_ n3_ n4_ n5_ n6_; clear hb ho33; obtain ⟨Ao35, co35, eo35⟩ := Kd.V_slice HO_12.out; subst eo35) | ((with_reducible refine gate_builtin (b := .append) (xs := #[.tmp 60, .tmp 61]) rfl ?_); at_builtin; refine Kd.R_append_rows (Kd.int .i64) (w0 := w) w.heap.size rfl (.tmp 60) (.tmp 61) 30 3 (.int .i64 0) 8 rfl Tryz.underlying30 info3 rfl (by decide) (by omega) v278 y277 x12_1 _ _ _ (fun k_ => (w.heap.size <= k_) /\ some k_ ≠ (.slice Ao18 t254.length co18 : Value).ownBlock /\ some k_ ≠ (v264 : Value).ownBlock) (fun _ => False) rfl rfl ?aO ?aR (fun _ _ h => h) (fun _ h => h.elim) ?aF ?aB ?aS ?aL ?_; (case aR => repeat (first | exact (Kd.V_reads' HO_12.out).2.2 | (with_reducible refine Kd.C_alloc ?_ _) | (with_reducible refine Kd.C_drewN ?_ _) | (with_reducible refine Kd.C_drew ?_))); (case aB => exact (by repeat (first | (with_reducible first | exact HB.out | apply Zb | apply Za | apply Zc) | exact HB.out))); (case aF => exact (fun k_ hk => ⟨(Nat.le_trans (Ze (by repeat (first | (with_reducible first | exact HB.out | apply Zb | apply Za | apply Zc) | exact HB.out))) hk), Kd.fresh' (Kd.R_lt (by (with_reducible repeat (first | apply Kd.R_alloc | apply Kd.R_drewN | apply Kd.R_drew)); exact HO_8.out)) k_ hk, Kd.fresh' (Kd.R_lt (by (with_reducible repeat (first | apply Kd.R_alloc | apply Kd.R_drewN | apply Kd.R_drew)); exact HO_11.out)) k_ hk⟩)); (case aO => exact (by (with_reducible repeat (first | apply Kd.R_alloc | apply Kd.R_drewN | apply Kd.R_drew)); exact Kd.R_mono HO279.out (fun _ hk => ⟨hk.1.1.1, ⟨hk.1.2, hk.2⟩⟩))); (case aS => exact (Ze (by repeat (first | (with_reducible first | exact HB.out | apply Zb | apply Za | apply Zc) | exact HB.out)))); (case aL => have := LMc29.out; omega); intro v281 w34 ho hb hg hat; rw [<- Ny280.out] at ho; have n0_ := Zd.mk (Kd.R_after (ok := (fun k_ => (w.heap.size <= k_) /\ some k_ ≠ (v264 : Value).ownBlock)) (by (with_reducible repeat (first | apply Kd.R_alloc | apply Kd.R_drewN | apply Kd.R_drew)); exact HO_8.out) hg hat); have n1_ := Zd.mk (Kd.V_afterv (ok := (fun k_ => (w.heap.size <= k_) /\ some k_ ≠ (.slice Ao18 t254.length co18 : Value).ownBlock /\ some k_ ≠ (v264 : Value).ownBlock)) (by (with_reducible repeat (first | apply Kd.V_alloc | apply Kd.V_drewN | apply Kd.V_drew)); exact HO_9.out) hg hat); have n2_ := Zd.mk (Kd.V_afterv (ok := (fun k_ => (w.heap.size <= k_) /\ some k_ ≠ (.slice Ao18 t254.length co18 : Value).ownBlock /\ some k_ ≠ (v264 : Value).ownBlock)) (by (with_reducible repeat (first | apply Kd.V_alloc | apply Kd.V_drewN | apply Kd.V_drew)); exact HO_10.out) hg hat); have n3_ := Zd.mk (Kd.R_after (ok := (fun k_ => (w.heap.size <= k_) /\ some k_ ≠ (.slice Ao18 t254.length co18 : Value).ownBlock)) (by (with_reducible repeat (first | apply Kd.R_alloc | apply Kd.R_drewN | apply Kd.R_drew)); exact HO_11.out) hg hat); have n4_ := Zd.mk (Kd.V_afterv (ok := (fun k_ => (w.heap.size <= k_) /\ some k_ ≠ (.slice Ao18 t254.length co18 : Value).ownBlock /\ some k_ ≠ (v264 : Value).ownBlock)) (by (with_reducible repeat (first | apply Kd.V_alloc | apply Kd.V_drewN | apply Kd.V_drew)); exact HO_12.out) hg hat); have n5_ := Zd.mk (hb); have n6_ := Zd.mk (ho); clear HO_8; clear HO_9; clear HO_10; clear HO_11; clear HO_12; clear HB; clear HO279; have HO_8 := n0_; have HO_9 := n1_; have HO_10 := n2_; have HO_11 := n3_; have HO_12 := n4_; have HB := n5_; have HO282 := n6_; clear n0_ n1_ n2_ n3_ n4_ n5_ n6_; clear ho hb hg hat; obtain ⟨Ao36, co36, eo36⟩ := Kd.R_slice HO282.out; subst eo36) | ((with_reducible refine Zr (f := 56) rfl ?_); refine goesL_ (some 63) rfl rfl Tryz.func56 (by kernel_rfl) rfl #[.slice Ao36 y280.length co36] rfl (by (try simp only [List.map_toArray, List.map_cons, List.map_nil]); first | done | rfl | (simp only [List.length_drop, List.length_take]; rfl)) ?_; (with_reducible refine (spec_cut.calls k1 (fun k_ => some k_ = (.slice Ao36 y280.length co36 : Value).ownBlock) _ _ y280 t283 _ ?side1 A30.out).mono ?_); (case side1 => exact Kd.R_V (Kd.R_tight rfl (HO282.out))); rintro e w37 ⟨v284, rfl, ho0, hb⟩; refine ⟨_, rfl, ?_⟩; have n0_ := Zd.mk (Kd.R_below (by (with_reducible repeat (first | apply Kd.R_alloc | apply Kd.R_drewN | apply Kd.R_drew)); exact HO_8.out) hb); have n1_ := Zd.mk (Kd.V_below (by (with_reducible repeat (first | apply Kd.V_alloc | apply Kd.V_drewN | apply Kd.V_drew)); exact HO_9.out) hb); have n2_ := Zd.mk (Kd.V_below (by (with_reducible repeat (first | apply Kd.V_alloc | apply Kd.V_drewN | apply Kd.V_drew)); exact HO_10.out) hb); have n3_ := Zd.mk (Kd.R_below (by (with_reducible repeat (first | apply Kd.R_alloc | apply Kd.R_drewN | apply Kd.R_drew)); exact HO_11.out) hb); have n4_ := Zd.mk (Kd.V_below (by (with_reducible repeat (first | apply Kd.V_alloc | apply Kd.V_drewN | apply Kd.V_drew)); exact HO_12.out) hb); have n5_ := Zd.mk (Kd.R_below (by (with_reducible repeat (first | apply Kd.R_alloc | apply Kd.R_drewN | apply Kd.R_drew)); exact HO282.out) hb); have n6_ := Zd.mk (Kd.V_lower (Kd.V_mono (ok' := fun k_ => (w.heap.size <= k_) /\ some k_ ≠ (.slice Ao18 t254.length co18 : Value).ownBlock /\ some k_ ≠ (v264 : Value).ownBlock) ho0 (fun k_ hk_ => ⟨Or.elim hk_ (fun hs_ => ((HO282.out).1 k_ hs_.symm).1) (fun hn_ => (Nat.le_trans (Ze (by repeat (first | (with_reducible first | exact HB.out | apply Zb | apply Za | apply Zc) | exact HB.out))) hn_)), Or.elim hk_ (fun hs_ => ((HO282.out).1 k_ hs_.symm).2.1) (fun hn_ => (Kd.fresh' (Kd.R_lt (by (with_reducible repeat (first | apply Kd.R_alloc | apply Kd.R_drewN | apply Kd.R_drew)); exact HO_8.out)) k_ hn_)), Or.elim hk_ (fun hs_ => ((HO282.out).1 k_ hs_.symm).2.2) (fun hn_ => (Kd.fresh' (Kd.R_lt (by (with_reducible repeat (first | apply Kd.R_alloc | apply Kd.R_drewN | apply Kd.R_drew)); exact HO_11.out)) k_ hn_))⟩)) (Ze (by repeat (first | (with_reducible first | exact HB.out | apply Zb | apply Za | apply Zc) | exact HB.out)))); have n7_ := Zd.mk (Zi (by repeat (first | (with_reducible first | exact HB.out | apply Zb | apply Za | apply Zc) | exact HB.out)) hb); clear HO_8; clear HO_9; clear HO_10; clear HO_11; clear HO_12; clear HO282; clear HB; have HO_8 := n0_; have HO_9 := n1_; have HO_10 := n2_; have HO_11 := n3_; have HO_12 := n4_; have HO282 := n5_; have HO285 := n6_; have HB := n7_; clear n0_ n1_ n2_ n3_ n4_ n5_ n6_ n7_; (try clear hb); (try clear hb2); (try clear hk); (try clear hi); (try clear ho0); obtain ⟨Ao38, co38, eo38⟩ := Kd.V_slice HO285.out; subst eo38; obtain ⟨Ao39, co39, eo39⟩ := Kd.V_slice HO_10.out; subst eo39))
             (try simp only [Act.put, List.setIfInBounds_toArray, List.set_cons_zero, List.set_cons_succ])
             go_cut [14] (fun v14 wc => ∃ (kq : Nat) (x14_30 : Int), v14 = .int .i64 x14_30 /\ Zd (spec_DivMod.j1 kq t254 t257 t260 x11_1 t283 x13_1 x14_30 = some (r1, r2)) /\ Zd (kq <= k1) /\ Zd (Kd.R (Kd.int .i64) 3 wc w.heap.size (fun k_ => (w.heap.size <= k_) /\ some k_ ≠ (v264 : Value).ownBlock) (.slice Ao18 t254.length co18) t254) /\ Zd (Kd.V (Kd.int .i64) 3 wc w.heap.size (fun k_ => (w.heap.size <= k_) /\ some k_ ≠ ((.slice Ao18 t254.length co18) : Value).ownBlock /\ some k_ ≠ (v264 : Value).ownBlock) (.slice (some ad276) t257.length co21) t257) /\ Zd (Kd.V (Kd.int .i64) 3 wc w.heap.size (fun k_ => (w.heap.size <= k_) /\ some k_ ≠ ((.slice Ao18 t254.length co18) : Value).ownBlock /\ some k_ ≠ (v264 : Value).ownBlock) (.slice Ao39 t260.length co39) t260) /\ Zd (Kd.R (Kd.int .i64) 3 wc w.heap.size (fun k_ => (w.heap.size <= k_) /\ some k_ ≠ ((.slice Ao18 t254.length co18) : Value).ownBlock) v264 x11_1) /\ Zd (Kd.V (Kd.int .i64) 3 wc w.heap.size (fun k_ => (w.heap.size <= k_) /\ some k_ ≠ ((.slice Ao18 t254.length co18) : Value).ownBlock /\ some k_ ≠ (v264 : Value).ownBlock) (.slice Ao38 t283.length co38) t283) /\ Zd (Below w.heap.size w wc))
             case first =>
              have H := HC31.out
              clear HC31
              by_cases c40 : (t283.length : Int) >= (t260.length : Int)
              .
               rw [if_pos c40] at H
               have c40b0 : decide ((t260.length : Int) <= (t283.length : Int)) = true := decide_eq_true c40
               have c40b1 : decide (t260.length <= t283.length) = true := decide_eq_true (Int.ofNat_le.mp c40)
               have c40p : t260.length <= t283.length := Int.ofNat_le.mp c40
               clear c40
               (first | rw [c40b0] | (simp only [i64_w, i32_w]; rw [c40b0]) | skip)
               obtain ⟨ji41, hji41⟩ : ∃ j_ : Int, (wrap64 ((t260.length : Int) - 1)) = j_ := ⟨_, rfl⟩
               replace H : (if 0 <= (ji41) then (if (ji41) < (t283.length : Int) then (if (t283.length : Int) > (t260.length : Int) then (if 0 <= (t260.length : Int) then (if (t260.length : Int) < (t283.length : Int) then (if (ji41) < (t260.length : Int) then (if (rd t260 (ji41)) = 0 then (none) else (spec_DivMod.j1 k1 t254 t257 t260 x11_1 t283 x13_1 (mn (wrap64 (Int.tdiv (wrap64 ((rd t283 (ji41)) + (wrap64 (65536 * (rd t283 (t260.length : Int)))))) (rd t260 (ji41)))) 65535))) else (none)) else (none)) else (none)) else (if (ji41) < (t260.length : Int) then (if (rd t260 (ji41)) = 0 then (none) else (spec_DivMod.j1 k1 t254 t257 t260 x11_1 t283 x13_1 (mn (wrap64 (Int.tdiv (rd t283 (ji41)) (rd t260 (ji41)))) 65535))) else (none))) else (none)) else (none)) = some (r1, r2) := by first | (rw [hji41] at H; exact H) | (simp only [hji41] at H ⊢; exact H)
               have hji41w : (IntKind.i64.wrap ((t260.length : Int) - 1)) = ji41 := (i64_w _).trans hji41
               by_cases c42 : 0 <= (ji41)
               .
                rw [if_pos c42] at H
                have c42b0 : decide (0 <= (ji41)) = true := decide_eq_true c42
                clear c42
                by_cases c43 : (ji41) < (t283.length : Int)
                .
                 rw [if_pos c43] at H
                 have c43b0 : decide ((ji41) < (t283.length : Int)) = true := decide_eq_true c43
                 clear c43
                 by_cases c44 : (t283.length : Int) > (t260.length : Int)
                 .
                  rw [if_pos c44] at H
                  have c44b0 : decide ((t260.length : Int) < (t283.length : Int)) = true := decide_eq_true c44
                  have c44b1 : decide (t260.length < t283.length) = true := decide_eq_true (Int.ofNat_lt.mp c44)
                  have c44p : t260.length < t283.length := Int.ofNat_lt.mp c44
                  clear c44
                  by_cases c45 : 0 <= (t260.length : Int)
                  .
                   rw [if_pos c45] at H
                   have c45b0 : decide (0 <= (t260.length : Int)) = true := decide_eq_true c45
                   have c45b1 : decide (0 <= t260.length) = true := decide_eq_true (by omega)
                   clear c45
                   by_cases c46 : (t260.length : Int) < (t283.length : Int)
                   .
                    rw [if_pos c46] at H
                    have c46b0 : decide ((t260.length : Int) < (t283.length : Int)) = true := decide_eq_true c46
                    have c46b1 : decide (t260.length < t283.length) = true := decide_eq_true (Int.ofNat_lt.mp c46)
                    have c46p : t260.length < t283.length := Int.ofNat_lt.mp c46
                    clear c46
                    by_cases c47 : (ji41) < (t260.length : Int)
                    .
                     rw [if_pos c47] at H
                     have c47b0 : decide ((ji41) < (t260.length : Int)) = true := decide_eq_true c47
                     clear c47
                     by_cases c48 : (rd t260 (ji41)) = 0
                     .
                      rw [if_pos c48] at H
                      exact absurd H (by simp)
                     .
                      rw [if_neg c48] at H
                      have c48b0 : ((rd t260 (ji41)) == 0) = false := beq_eq_false_iff_ne.mpr c48
                      have c48b1 : ((rd t260 (ji41)) != 0) = true := bne_iff_ne.mpr c48
                      obtain ⟨ji49, hji49⟩ : ∃ j_ : Int, (mn (wrap64 (Int.tdiv (wrap64 ((rd t283 (ji41)) + (wrap64 (65536 * (rd t283 (t260.length : Int)))))) (rd t260 (ji41)))) 65535) = j_ := ⟨_, rfl⟩
                      replace H : (spec_DivMod.j1 k1 t254 t257 t260 x11_1 t283 x13_1 ji49) = some (r1, r2) := by first | (rw [hji49] at H; exact H) | (simp only [hji49] at H ⊢; exact H)
                      have hji49_ : (if 65535 < (wrap64 (Int.tdiv (wrap64 ((rd t283 (ji41)) + (wrap64 (65536 * (rd t283 (t260.length : Int)))))) (rd t260 (ji41)))) then 65535 else (wrap64 (Int.tdiv (wrap64 ((rd t283 (ji41)) + (wrap64 (65536 * (rd t283 (t260.length : Int)))))) (rd t260 (ji41))))) = ji49 := hji49
                      have H' := Zd.mk H
                      clear H
                      have p286 : 0 <= ((ji41) : Int) := of_decide_eq_true (by first | (with_reducible assumption) | assumption)
                      have q286 : (ji41) < (t283.length : Int) := of_decide_eq_true (by first | (with_reducible assumption) | assumption)
                      obtain ⟨ad286, e286, hx286_0⟩ := Kd.at_int (Kd.V_reads' HO285.out).2.2 (ji41) p286 q286
                      cases e286
                      replace p286 := eq_true p286
                      replace q286 := eq_true q286
                      have p287 : 0 <= ((t260.length : Int) : Int) := of_decide_eq_true (by first | (with_reducible assumption) | assumption)
                      have q287 : (t260.length : Int) < (t283.length : Int) := of_decide_eq_true (by first | (with_reducible assumption) | assumption)
                      obtain ⟨ad287, e287, hx287_0⟩ := Kd.at_int (Kd.V_reads' HO285.out).2.2 (t260.length : Int) p287 q287
                      obtain rfl : ad286 = ad287 := (by injection e287)
                      (try simp only [Go.IntWalk.toNatUp] at hx287_0)
                      replace p287 := eq_true p287
                      replace q287 := eq_true q287
                      have p288 : 0 <= ((ji41) : Int) := of_decide_eq_true (by first | (with_reducible assumption) | assumption)
                      have q288 : (ji41) < (t260.length : Int) := of_decide_eq_true (by first | (with_reducible assumption) | assumption)
                      obtain ⟨ad288, e288, hx288_0⟩ := Kd.at_int (Kd.V_reads' HO_10.out).2.2 (ji41) p288 q288
                      cases e288
                      replace p288 := eq_true p288
                      replace q288 := eq_true q288
                      go_wp2
                      go_meet
                      case rel => exact ⟨_, (ji49), (by first | rfl | (simp; done) | (simp only [<- hji49] <;> (first | rfl | simp)) | (simp [*]; done)), H', ⟨by have := HK1.out; first | omega | exact Nat.le_refl _⟩, ⟨by (with_reducible repeat (first | apply Kd.R_alloc | apply Kd.R_drewN | apply Kd.R_drew)); exact Kd.R_mono HO_8.out (fun _ hk => ⟨hk.1.1, hk.1.2⟩)⟩, ⟨by (with_reducible repeat (first | apply Kd.V_alloc | apply Kd.V_drewN | apply Kd.V_drew)); exact Kd.V_mono HO_9.out (fun _ hk => ⟨hk.1.1, ⟨hk.1.2.1, hk.1.2.2⟩⟩)⟩, ⟨by (with_reducible repeat (first | apply Kd.V_alloc | apply Kd.V_drewN | apply Kd.V_drew)); exact Kd.V_mono HO_10.out (fun _ hk => ⟨hk.1.1, ⟨hk.1.2.1, hk.1.2.2⟩⟩)⟩, ⟨by (with_reducible repeat (first | apply Kd.R_alloc | apply Kd.R_drewN | apply Kd.R_drew)); exact Kd.R_mono HO_11.out (fun _ hk => ⟨hk.1.1, hk.1.2⟩)⟩, ⟨by (with_reducible repeat (first | apply Kd.V_alloc | apply Kd.V_drewN | apply Kd.V_drew)); exact HO285.out⟩, ⟨by repeat (first | (with_reducible first | exact HB.out | apply Zb | apply Za | apply Zc) | exact HB.out)⟩⟩
                    .
                     rw [if_neg c47] at H
                     exact absurd H (by simp)
                   .
                    rw [if_neg c46] at H
                    exact absurd H (by simp)
                  .
                   rw [if_neg c45] at H
                   exact absurd H (by simp)
                 .
                  rw [if_neg c44] at H
                  have c44b0 : decide ((t260.length : Int) < (t283.length : Int)) = false := decide_eq_false c44
                  have c44b1 : decide (t260.length < t283.length) = false := decide_eq_false (fun h => c44 (Int.ofNat_lt.mpr h))
                  have c44p : ¬ t260.length < t283.length := fun h => c44 (Int.ofNat_lt.mpr h)
                  clear c44
                  by_cases c50 : (ji41) < (t260.length : Int)
                  .
                   rw [if_pos c50] at H
                   have c50b0 : decide ((ji41) < (t260.length : Int)) = true := decide_eq_true c50
                   clear c50
                   by_cases c51 : (rd t260 (ji41)) = 0
                   .
                    rw [if_pos c51] at H
                    exact absurd H (by simp)
                   .
                    rw [if_neg c51] at H
                    have c51b0 : ((rd t260 (ji41)) == 0) = false := beq_eq_false_iff_ne.mpr c51
                    have c51b1 : ((rd t260 (ji41)) != 0) = true := bne_iff_ne.mpr c51
                    obtain ⟨ji52, hji52⟩ : ∃ j_ : Int, (mn (wrap64 (Int.tdiv (rd t283 (ji41)) (rd t260 (ji41)))) 65535) = j_ := ⟨_, rfl⟩
                    replace H : (spec_DivMod.j1 k1 t254 t257 t260 x11_1 t283 x13_1 ji52) = some (r1, r2) := by first | (rw [hji52] at H; exact H) | (simp only [hji52] at H ⊢; exact H)
                    have hji52_ : (if 65535 < (wrap64 (Int.tdiv (rd t283 (ji41)) (rd t260 (ji41)))) then 65535 else (wrap64 (Int.tdiv (rd t283 (ji41)) (rd t260 (ji41))))) = ji52 := hji52
                    have H' := Zd.mk H
                    clear H
                    have p286 : 0 <= ((ji41) : Int) := of_decide_eq_true (by first | (with_reducible assumption) | assumption)
                    have q286 : (ji41) < (t283.length : Int) := of_decide_eq_true (by first | (with_reducible assumption) | assumption)
                    obtain ⟨ad286, e286, hx286_0⟩ := Kd.at_int (Kd.V_reads' HO285.out).2.2 (ji41) p286 q286
                    cases e286
                    replace p286 := eq_true p286
                    replace q286 := eq_true q286
                    have p289 : 0 <= ((ji41) : Int) := of_decide_eq_true (by first | (with_reducible assumption) | assumption)
                    have q289 : (ji41) < (t260.length : Int) := of_decide_eq_true (by first | (with_reducible assumption) | assumption)
                    obtain ⟨ad289, e289, hx289_0⟩ := Kd.at_int (Kd.V_reads' HO_10.out).2.2 (ji41) p289 q289
                    cases e289
                    replace p289 := eq_true p289
                    replace q289 := eq_true q289
                    go_wp2
                    go_meet
                    case rel => exact ⟨_, (ji52), (by first | rfl | (simp; done) | (simp only [<- hji52] <;> (first | rfl | simp)) | (simp [*]; done)), H', ⟨by have := HK1.out; first | omega | exact Nat.le_refl _⟩, ⟨by (with_reducible repeat (first | apply Kd.R_alloc | apply Kd.R_drewN | apply Kd.R_drew)); exact Kd.R_mono HO_8.out (fun _ hk => ⟨hk.1.1, hk.1.2⟩)⟩, ⟨by (with_reducible repeat (first | apply Kd.V_alloc | apply Kd.V_drewN | apply Kd.V_drew)); exact Kd.V_mono HO_9.out (fun _ hk => ⟨hk.1.1, ⟨hk.1.2.1, hk.1.2.2⟩⟩)⟩, ⟨by (with_reducible repeat (first | apply Kd.V_alloc | apply Kd.V_drewN | apply Kd.V_drew)); exact Kd.V_mono HO_10.out (fun _ hk => ⟨hk.1.1, ⟨hk.1.2.1, hk.1.2.2⟩⟩)⟩, ⟨by (with_reducible repeat (first | apply Kd.R_alloc | apply Kd.R_drewN | apply Kd.R_drew)); exact Kd.R_mono HO_11.out (fun _ hk => ⟨hk.1.1, hk.1.2⟩)⟩, ⟨by (with_reducible repeat (first | apply Kd.V_alloc | apply Kd.V_drewN | apply Kd.V_drew)); exact HO285.out⟩, ⟨by repeat (first | (with_reducible first | exact HB.out | apply Zb | apply Za | apply Zc) | exact HB.out)⟩⟩
                  .
                   rw [if_neg c50] at H
                   exact absurd H (by simp)
                .
                 rw [if_neg c43] at H
                 exact absurd H (by simp)
               .
                rw [if_neg c42] at H
                exact absurd H (by simp)
              .
               rw [if_neg c40] at H
               have c40b0 : decide ((t260.length : Int) <= (t283.length : Int)) = false := decide_eq_false c40
               have c40b1 : decide (t260.length <= t283.length) = false := decide_eq_false (fun h => c40 (Int.ofNat_le.mpr h))
               have c40p : ¬ t260.length <= t283.length := fun h => c40 (Int.ofNat_le.mpr h)
               clear c40
               (first | rw [c40b0] | (simp only [i64_w, i32_w]; rw [c40b0]) | skip)
               have H' := Zd.mk H
               clear H
               go_wp2
               go_meet
               case rel => exact ⟨_, (0), (by first | rfl | (simp; done) | (simp [*]; done)), H', ⟨by have := HK1.out; first | omega | exact Nat.le_refl _⟩, ⟨by (with_reducible repeat (first | apply Kd.R_alloc | apply Kd.R_drewN | apply Kd.R_drew)); exact Kd.R_mono HO_8.out (fun _ hk => ⟨hk.1.1, hk.1.2⟩)⟩, ⟨by (with_reducible repeat (first | apply Kd.V_alloc | apply Kd.V_drewN | apply Kd.V_drew)); exact Kd.V_mono HO_9.out (fun _ hk => ⟨hk.1.1, ⟨hk.1.2.1, hk.1.2.2⟩⟩)⟩, ⟨by (with_reducible repeat (first | apply Kd.V_alloc | apply Kd.V_drewN | apply Kd.V_drew)); exact Kd.V_mono HO_10.out (fun _ hk => ⟨hk.1.1, ⟨hk.1.2.1, hk.1.2.2⟩⟩)⟩, ⟨by (with_reducible repeat (first | apply Kd.R_alloc | apply Kd.R_drewN | apply Kd.R_drew)); exact Kd.R_mono HO_11.out (fun _ hk => ⟨hk.1.1, hk.1.2⟩)⟩, ⟨by (with_reducible repeat (first | apply Kd.V_alloc | apply Kd.V_drewN | apply Kd.V_drew)); exact HO285.out⟩, ⟨by repeat (first | (with_reducible first | exact HB.out | apply Zb | apply Za | apply Zc) | exact HB.out)⟩⟩
             case rest =>
              clear HC31
              try clear c1
              try clear c2
              try clear p2
              try clear q2
              try clear hx2
              try clear c3
              try clear c3b0
              try clear c3b1
              try clear c4
              try clear c5
              try clear c6
              try clear p6
              try clear c9
              try clear c9b0
              try clear c10
              try clear c10b0
              try clear c11
              try clear c11b0
              try clear c11b1
              try clear c15
              try clear c15b0
              try clear c15b1
              try clear c16
              try clear c16b0
              try clear c16b1
              try clear c19
              try clear p25
              try clear q25
              try clear hx25
              try clear c26
              try clear c26b0
              try clear c27
              try clear c27b0
              try clear p27
              try clear q27
              try clear hx27
              try clear c28
              try clear c28b0
              try clear p28
              try clear q28
              try clear hx28
              try clear c29
              try clear c36
              try clear c40
              try clear c40b0
              try clear c40b1
              try clear c42
              try clear c42b0
              try clear c43
              try clear c43b0
              try clear c44
              try clear c44b0
              try clear c44b1
              try clear c45
              try clear c45b0
              try clear c45b1
              try clear c46
              try clear c46b0
              try clear c46b1
              try clear c47
              try clear c47b0
              try clear c48
              try clear c48b0
              try clear c48b1
              try clear c50
              try clear c50b0
              try clear c51
              try clear c51b0
              try clear c51b1
              try clear hx253_0
              try clear hx276_0
              try clear hx286_0
              try clear hx287_0
              try clear hx288_0
              try clear hx289_0
              try clear p2
              try clear p25
              try clear p253
              try clear p276
              try clear p286
              try clear p287
              try clear p288
              try clear p289
              try clear p6
              try clear q2
              try clear q25
              try clear q253
              try clear q276
              try clear q286
              try clear q287
              try clear q288
              try clear q289
              obtain ⟨kq, x14_30, rfl, HA, HJ30, HO_8, HO_9, HO_10, HO_11, HO_12, HB⟩ := hcut
              cases kq with
              | zero => exact absurd HA.out (by simp [spec_DivMod.j1])
              | succ kj30 =>
               have H := HA.out
               clear HA
               simp only [spec_DivMod.j1] at H
               replace H := Option.bind_eq_some_iff.mp H
               obtain ⟨t290, A530, H⟩ := H
               replace H : ((spec_Mul.f kj30 t260 t290).bind fun t293 => (spec_DivMod.l1 kj30 t254 t257 t260 x11_1 t283 x13_1 x14_30 t293)) = some (r1, r2) := H
               have A53 := Zd.mk A530
               clear A530
               replace H := Option.bind_eq_some_iff.mp H
               obtain ⟨t293, A540, H⟩ := H
               replace H : (spec_DivMod.l1 kj30 t254 t257 t260 x11_1 t283 x13_1 x14_30 t293) = some (r1, r2) := H
               have A54 := Zd.mk A540
               clear A540
               have H' := Zd.mk H
               clear H
               go_wp2_with (first | ((with_reducible refine Zr (f := 19) rfl ?_); refine goesL_ (some 99) rfl rfl Tryz.func19 (by kernel_rfl) rfl #[.int .i64 x14_30] rfl (by (try simp only [List.map_toArray, List.map_cons, List.map_nil]); first | done | rfl | (simp only [List.length_drop, List.length_take]; rfl)) ?_; (with_reducible refine (spec_Small.calls kj30 x14_30 t290 _ A53.out).mono ?_); rintro e w55 ⟨v291, rfl, ho0, hb⟩; refine ⟨_, rfl, ?_⟩; have n0_ := Zd.mk (Kd.R_elder' (by (with_reducible repeat (first | apply Kd.R_alloc | apply Kd.R_drewN | apply Kd.R_drew)); exact HO_8.out) (Kd.R_base ho0) hb); have n1_ := Zd.mk (Kd.V_elder' (by (with_reducible repeat (first | apply Kd.V_alloc | apply Kd.V_drewN | apply Kd.V_drew)); exact HO_9.out) (Kd.R_base ho0) hb); have n2_ := Zd.mk (Kd.V_elder' (by (with_reducible repeat (first | apply Kd.V_alloc | apply Kd.V_drewN | apply Kd.V_drew)); exact HO_10.out) (Kd.R_base ho0) hb); have n3_ := Zd.mk (Kd.R_elder' (by (with_reducible repeat (first | apply Kd.R_alloc | apply Kd.R_drewN | apply Kd.R_drew)); exact HO_11.out) (Kd.R_base ho0) hb); have n4_ := Zd.mk (Kd.V_elder' (by (with_reducible repeat (first | apply Kd.V_alloc | apply Kd.V_drewN | apply Kd.V_drew)); exact HO_12.out) (Kd.R_base ho0) hb); have n5_ := Zd.mk (Kd.R_lower (Kd.R_new' (Kd.R_new' (Kd.R_newM (M := fun k_ => (w.heap.size <= k_)) ho0 (Ze (by repeat (first | (with_reducible first | exact HB.out | apply Zb | apply Za | apply Zc) | exact HB.out))) (fun k_ h_ => h_)) (Kd.R_lt (by (with_reducible repeat (first | apply Kd.R_alloc | apply Kd.R_drewN | apply Kd.R_drew)); exact HO_8.out))) (Kd.R_lt (by (with_reducible repeat (first | apply Kd.R_alloc | apply Kd.R_drewN | apply Kd.R_drew)); exact HO_11.out))) (Ze (by repeat (first | (with_reducible first | exact HB.out | apply Zb | apply Za | apply Zc) | exact HB.out)))); have n6_ := Zd.mk (Zi (by repeat (first | (with_reducible first | exact HB.out | apply Zb | apply Za | apply Zc) | exact HB.out)) hb); clear HO_8; clear HO_9; clear HO_10; clear HO_11; clear HO_12; clear HB; have HO_8 := n0_; have HO_9 := n1_; have HO_10 := n2_; have HO_11 := n3_; have HO_12 := n4_; have HO292 := n5_; have HB := n6_; clear n0_ n1_ n2_ n3_ n4_ n5_ n6_; (try clear hb); (try clear hb2); (try clear hk); (try clear hi); (try clear ho0); obtain ⟨Ao56, co56, eo56⟩ := Kd.R_slice HO292.out; subst eo56) | ((with_reducible refine Zr (f := 36) rfl ?_); refine goesL_ (some 100) rfl rfl Tryz.func36 (by kernel_rfl) rfl #[.slice Ao39 t260.length co39, .slice Ao56 t290.length co56] rfl (by (try simp only [List.map_toArray, List.map_cons, List.map_nil]); first | done | rfl | (simp only [List.length_drop, List.length_take]; rfl)) ?_; (with_reducible refine (spec_Mul.calls kj30 _ _ t260 _ _ t290 t293 _ ?side1 ?side2 ?side3 ?side4 A54.out).mono ?_); (case side1 => repeat (first | exact (Kd.V_reads' HO_10.out).2.2 | (with_reducible refine Kd.C_alloc ?_ _) | (with_reducible refine Kd.C_drewN ?_ _) | (with_reducible refine Kd.C_drew ?_))); (case side2 => exact (Kd.V_reads' HO_10.out).2.1); (case side3 => repeat (first | exact (Kd.R_reads' HO292.out).2.2 | (with_reducible refine Kd.C_alloc ?_ _) | (with_reducible refine Kd.C_drewN ?_ _) | (with_reducible refine Kd.C_drew ?_))); (case side4 => exact (Kd.R_reads' HO292.out).2.1); rintro e w57 ⟨v294, rfl, ho0, hb⟩; refine ⟨_, rfl, ?_⟩; have n0_ := Zd.mk (Kd.R_below (by (with_reducible repeat (first | apply Kd.R_alloc | apply Kd.R_drewN | apply Kd.R_drew)); exact HO_8.out) hb); have n1_ := Zd.mk (Kd.V_below (by (with_reducible repeat (first | apply Kd.V_alloc | apply Kd.V_drewN | apply Kd.V_drew)); exact HO_9.out) hb); have n2_ := Zd.mk (Kd.V_below (by (with_reducible repeat (first | apply Kd.V_alloc | apply Kd.V_drewN | apply Kd.V_drew)); exact HO_10.out) hb); have n3_ := Zd.mk (Kd.R_below (by (with_reducible repeat (first | apply Kd.R_alloc | apply Kd.R_drewN | apply Kd.R_drew)); exact HO_11.out) hb); have n4_ := Zd.mk (Kd.V_below (by (with_reducible repeat (first | apply Kd.V_alloc | apply Kd.V_drewN | apply Kd.V_drew)); exact HO_12.out) hb); have n5_ := Zd.mk (Kd.R_below (by (with_reducible repeat (first | apply Kd.R_alloc | apply Kd.R_drewN | apply Kd.R_drew)); exact HO292.out) hb); have n6_ := Zd.mk (Kd.V_lower (Kd.V_mono (ok' := fun k_ => (w.heap.size <= k_) /\ some k_ ≠ (.slice Ao18 t254.length co18 : Value).ownBlock /\ some k_ ≠ (v264 : Value).ownBlock /\ some k_ ≠ (.slice Ao56 t290.length co56 : Value).ownBlock) ho0 (fun k_ hk_ => ⟨(Nat.le_trans (Ze (by repeat (first | (with_reducible first | exact HB.out | apply Zb | apply Za | apply Zc) | exact HB.out))) hk_), (Kd.fresh' (Kd.R_lt (by (with_reducible repeat (first | apply Kd.R_alloc | apply Kd.R_drewN | apply Kd.R_drew)); exact HO_8.out)) k_ hk_), (Kd.fresh' (Kd.R_lt (by (with_reducible repeat (first | apply Kd.R_alloc | apply Kd.R_drewN | apply Kd.R_drew)); exact HO_11.out)) k_ hk_), (Kd.fresh' (Kd.R_lt (by (with_reducible repeat (first | apply Kd.R_alloc | apply Kd.R_drewN | apply Kd.R_drew)); exact HO292.out)) k_ hk_)⟩)) (Ze (by repeat (first | (with_reducible first | exact HB.out | apply Zb | apply Za | apply Zc) | exact HB.out)))); have n7_ := Zd.mk (Zi (by repeat (first | (with_reducible first | exact HB.out | apply Zb | apply Za | apply Zc) | exact HB.out)) hb); clear HO_8; clear HO_9; clear HO_10; clear HO_11; clear HO_12; clear HO292; clear HB; have HO_8 := n0_; have HO_9 := n1_; have HO_10 := n2_; have HO_11 := n3_; have HO_12 := n4_; have HO292 := n5_; have HO295 := n6_; have HB := n7_; clear n0_ n1_ n2_ n3_ n4_ n5_ n6_ n7_; (try clear hb); (try clear hb2); (try clear hk); (try clear hi); (try clear ho0)))
               go_loopg [14, 15] kj30 (fun kq v14 v15 w' => ∃ (x14_3 : Int) (x15_3 : List Int), v14 = .int .i64 x14_3 /\ Zd (spec_DivMod.l1 kq t254 t257 t260 x11_1 t283 x13_1 x14_3 x15_3 = some (r1, r2)) /\ Zd (kq <= kj30) /\ Zd (Kd.R (Kd.int .i64) 3 w' w.heap.size (fun k_ => (w.heap.size <= k_) /\ some k_ ≠ (v264 : Value).ownBlock) (.slice Ao18 t254.length co18) t254) /\ Zd (Kd.V (Kd.int .i64) 3 w' w.heap.size (fun k_ => (w.heap.size <= k_) /\ some k_ ≠ ((.slice Ao18 t254.length co18) : Value).ownBlock /\ some k_ ≠ (v264 : Value).ownBlock) (.slice (some ad276) t257.length co21) t257) /\ Zd (Kd.V (Kd.int .i64) 3 w' w.heap.size (fun k_ => (w.heap.size <= k_) /\ some k_ ≠ ((.slice Ao18 t254.length co18) : Value).ownBlock /\ some k_ ≠ (v264 : Value).ownBlock) (.slice Ao39 t260.length co39) t260) /\ Zd (Kd.R (Kd.int .i64) 3 w' w.heap.size (fun k_ => (w.heap.size <= k_) /\ some k_ ≠ ((.slice Ao18 t254.length co18) : Value).ownBlock) v264 x11_1) /\ Zd (Kd.V (Kd.int .i64) 3 w' w.heap.size (fun k_ => (w.heap.size <= k_) /\ some k_ ≠ ((.slice Ao18 t254.length co18) : Value).ownBlock /\ some k_ ≠ (v264 : Value).ownBlock) (.slice Ao38 t283.length co38) t283) /\ Zd (Kd.V (Kd.int .i64) 3 w' w.heap.size (fun k_ => (w.heap.size <= k_) /\ some k_ ≠ ((.slice Ao18 t254.length co18) : Value).ownBlock /\ some k_ ≠ (v264 : Value).ownBlock) v15 x15_3) /\ Zd (Below w.heap.size w w'))
               case atStart => exact ⟨(x14_30), (t293), (by first | rfl | (simp; done) | (simp [*]; done)), H', ⟨Nat.le_refl _⟩, ⟨by (with_reducible repeat (first | apply Kd.R_alloc | apply Kd.R_drewN | apply Kd.R_drew)); exact Kd.R_mono HO_8.out (fun _ hk => ⟨hk.1.1, hk.1.2⟩)⟩, ⟨by (with_reducible repeat (first | apply Kd.V_alloc | apply Kd.V_drewN | apply Kd.V_drew)); exact Kd.V_mono HO_9.out (fun _ hk => ⟨hk.1.1, ⟨hk.1.2.1, hk.1.2.2⟩⟩)⟩, ⟨by (with_reducible repeat (first | apply Kd.V_alloc | apply Kd.V_drewN | apply Kd.V_drew)); exact Kd.V_mono HO_10.out (fun _ hk => ⟨hk.1.1, ⟨hk.1.2.1, hk.1.2.2⟩⟩)⟩, ⟨by (with_reducible repeat (first | apply Kd.R_alloc | apply Kd.R_drewN | apply Kd.R_drew)); exact Kd.R_mono HO_11.out (fun _ hk => ⟨hk.1.1, hk.1.2⟩)⟩, ⟨by (with_reducible repeat (first | apply Kd.V_alloc | apply Kd.V_drewN | apply Kd.V_drew)); exact Kd.V_mono HO_12.out (fun _ hk => ⟨hk.1.1, ⟨hk.1.2.1, hk.1.2.2⟩⟩)⟩, ⟨by (with_reducible repeat (first | apply Kd.V_alloc | apply Kd.V_drewN | apply Kd.V_drew)); exact Kd.V_mono HO295.out (fun _ hk => ⟨hk.1, ⟨hk.2.1, hk.2.2.1⟩⟩)⟩, ⟨by repeat (first | (with_reducible first | exact HB.out | apply Zb | apply Za | apply Zc) | exact HB.out)⟩⟩
               case round =>
                clear H'
                try clear c1
                try clear c2
                try clear p2
                try clear q2
                try clear hx2
                try clear c3
                try clear c3b0
                try clear c3b1
                try clear c4
                try clear c5
                try clear c6
                try clear p6
                try clear c9
                try clear c9b0
                try clear c10
                try clear c10b0
                try clear c11
                try clear c11b0
                try clear c11b1
                try clear c15
                try clear c15b0
                try clear c15b1
                try clear c16
                try clear c16b0
                try clear c16b1
                try clear c19
                try clear p25
                try clear q25
                try clear hx25
                try clear c26
                try clear c26b0
                try clear c27
                try clear c27b0
                try clear p27
                try clear q27
                try clear hx27
                try clear c28
                try clear c28b0
                try clear p28
                try clear q28
                try clear hx28
                try clear c29
                try clear c36
                try clear c40
                try clear c40b0
                try clear c40b1
                try clear c42
                try clear c42b0
                try clear c43
                try clear c43b0
                try clear c44
                try clear c44b0
                try clear c44b1
                try clear c45
                try clear c45b0
                try clear c45b1
                try clear c46
                try clear c46b0
                try clear c46b1
                try clear c47
                try clear c47b0
                try clear c48
                try clear c48b0
                try clear c48b1
                try clear c50
                try clear c50b0
                try clear c51
                try clear c51b0
                try clear c51b1
                try clear c56
                try clear hx253_0
                try clear hx276_0
                try clear hx286_0
                try clear hx287_0
                try clear hx288_0
                try clear hx289_0
                try clear p2
                try clear p25
                try clear p253
                try clear p27
                try clear p276
                try clear p28
                try clear p286
                try clear p287
                try clear p288
                try clear p289
                try clear p6
                try clear q2
                try clear q25
                try clear q253
                try clear q27
                try clear q276
                try clear q28
                try clear q286
                try clear q287
                try clear q288
                try clear q289
                obtain ⟨x14_3, x15_3, rfl, HA, HK3, HO_8, HO_9, HO_10, HO_11, HO_12, HO_15, HB⟩ := hrel
                cases gk with
                | zero => exact absurd HA.out (by simp [spec_DivMod.l1])
                | succ k3 =>
                 have H := HA.out
                 clear HA
                 simp only [spec_DivMod.l1] at H
                 replace H := Option.bind_eq_some_iff.mp H
                 obtain ⟨t296, A580, H⟩ := H
                 replace H : (if t296 > 0 then ((spec_Sub.f k3 x15_3 t260).bind fun t297 => (spec_DivMod.l1 k3 t254 t257 t260 x11_1 t283 x13_1 (wrap64 (x14_3 - 1)) t297)) else ((spec_Sub.f k3 t283 x15_3).bind fun t300 => (if 0 <= x13_1 then (if x13_1 < (x11_1.length : Int) then (spec_DivMod.l0 k3 t254 t257 t260 (x11_1.set (x13_1 : Int).toNat x14_3) t300 (wrap64 (x13_1 - 1))) else (none)) else (none)))) = some (r1, r2) := H
                 have A58 := Zd.mk A580
                 clear A580
                 by_cases c59 : t296 > 0
                 .
                  rw [if_pos c59] at H
                  have c59b0 : decide (0 < t296) = true := decide_eq_true c59
                  clear c59
                  replace H := Option.bind_eq_some_iff.mp H
                  obtain ⟨t297, A600, H⟩ := H
                  replace H : (spec_DivMod.l1 k3 t254 t257 t260 x11_1 t283 x13_1 (wrap64 (x14_3 - 1)) t297) = some (r1, r2) := H
                  have A60 := Zd.mk A600
                  clear A600
                  have H' := Zd.mk H
                  clear H
                  obtain ⟨Ao61, co61, eo61⟩ := Kd.V_slice HO_15.out
                  subst eo61
                  go_wp2_with (first | ((with_reducible refine Zr (f := 16) rfl ?_); refine goesL_ (some 103) rfl rfl Tryz.func16 (by kernel_rfl) rfl #[.slice Ao61 x15_3.length co61, .slice Ao38 t283.length co38] rfl (by (try simp only [List.map_toArray, List.map_cons, List.map_nil]); first | done | rfl | (simp only [List.length_drop, List.length_take]; rfl)) ?_; (with_reducible refine (spec_Cmp.calls k3 _ _ x15_3 _ _ t283 t296 _ ?side1 ?side2 ?side3 ?side4 A58.out).mono ?_); (case side1 => repeat (first | exact (Kd.V_reads' HO_15.out).2.2 | (with_reducible refine Kd.C_alloc ?_ _) | (with_reducible refine Kd.C_drewN ?_ _) | (with_reducible refine Kd.C_drew ?_))); (case side2 => exact (Kd.V_reads' HO_15.out).2.1); (case side3 => repeat (first | exact (Kd.V_reads' HO_12.out).2.2 | (with_reducible refine Kd.C_alloc ?_ _) | (with_reducible refine Kd.C_drewN ?_ _) | (with_reducible refine Kd.C_drew ?_))); (case side4 => exact (Kd.V_reads' HO_12.out).2.1); rintro e w' ⟨rfl, ⟨nd, rfl⟩⟩; refine ⟨_, rfl, ?_⟩) | ((with_reducible refine Zr (f := 35) rfl ?_); refine goesL_ (some 109) rfl rfl Tryz.func35 (by kernel_rfl) rfl #[.slice Ao61 x15_3.length co61, .slice Ao39 t260.length co39] rfl (by (try simp only [List.map_toArray, List.map_cons, List.map_nil]); first | done | rfl | (simp only [List.length_drop, List.length_take]; rfl)) ?_; (with_reducible refine (spec_Sub.calls k3 _ _ x15_3 _ _ t260 t297 _ ?side1 ?side2 ?side3 ?side4 A60.out).mono ?_); (case side1 => repeat (first | exact (Kd.V_reads' HO_15.out).2.2 | (with_reducible refine Kd.C_alloc ?_ _) | (with_reducible refine Kd.C_drewN ?_ _) | (with_reducible refine Kd.C_drew ?_))); (case side2 => exact (Kd.V_reads' HO_15.out).2.1); (case side3 => repeat (first | exact (Kd.V_reads' HO_10.out).2.2 | (with_reducible refine Kd.C_alloc ?_ _) | (with_reducible refine Kd.C_drewN ?_ _) | (with_reducible refine Kd.C_drew ?_))); (case side4 => exact (Kd.V_reads' HO_10.out).2.1); rintro e w62 ⟨v298, rfl, ho0, hb⟩; refine ⟨_, rfl, ?_⟩; have n0_ := Zd.mk (Kd.R_below (by (with_reducible repeat (first | apply Kd.R_alloc | apply Kd.R_drewN | apply Kd.R_drew)); exact HO_8.out) hb); have n1_ := Zd.mk (Kd.V_below (by (with_reducible repeat (first | apply Kd.V_alloc | apply Kd.V_drewN | apply Kd.V_drew)); exact HO_9.out) hb); have n2_ := Zd.mk (Kd.V_below (by (with_reducible repeat (first | apply Kd.V_alloc | apply Kd.V_drewN | apply Kd.V_drew)); exact HO_10.out) hb); have n3_ := Zd.mk (Kd.R_below (by (with_reducible repeat (first | apply Kd.R_alloc | apply Kd.R_drewN | apply Kd.R_drew)); exact HO_11.out) hb); have n4_ := Zd.mk (Kd.V_below (by (with_reducible repeat (first | apply Kd.V_alloc | apply Kd.V_drewN | apply Kd.V_drew)); exact HO_12.out) hb); have n5_ := Zd.mk (Kd.V_below (by (with_reducible repeat (first | apply Kd.V_alloc | apply Kd.V_drewN | apply Kd.V_drew)); exact HO_15.out) hb); have n6_ := Zd.mk (Kd.V_lower (Kd.V_mono (ok' := fun k_ => (w.heap.size <= k_) /\ some k_ ≠ (.slice Ao18 t254.length co18 : Value).ownBlock /\ some k_ ≠ (v264 : Value).ownBlock) ho0 (fun k_ hk_ => ⟨(Nat.le_trans (Ze (by repeat (first | (with_reducible first | exact HB.out | apply Zb | apply Za | apply Zc) | exact HB.out))) hk_), (Kd.fresh' (Kd.R_lt (by (with_reducible repeat (first | apply Kd.R_alloc | apply Kd.R_drewN | apply Kd.R_drew)); exact HO_8.out)) k_ hk_), (Kd.fresh' (Kd.R_lt (by (with_reducible repeat (first | apply Kd.R_alloc | apply Kd.R_drewN | apply Kd.R_drew)); exact HO_11.out)) k_ hk_)⟩)) (Ze (by repeat (first | (with_reducible first | exact HB.out | apply Zb | apply Za | apply Zc) | exact HB.out)))); have n7_ := Zd.mk (Zi (by repeat (first | (with_reducible first | exact HB.out | apply Zb | apply Za | apply Zc) | exact HB.out)) hb); clear HO_8; clear HO_9; clear HO_10; clear HO_11; clear HO_12; clear HO_15; clear HB; have HO_8 := n0_; have HO_9 := n1_; have HO_10 := n2_; have HO_11 := n3_; have HO_12 := n4_; have HO_15 := n5_; have HO299 := n6_; have HB := n7_; clear n0_ n1_ n2_ n3_ n4_ n5_ n6_ n7_; (try clear hb); (try clear hb2); (try clear hk); (try clear hi); (try clear ho0)))
                  go_roundg k3
                  case measure => have := HK1.out; have := HJ30.out; have := HK3.out; omega
                  case rel => exact ⟨(wrap64 (x14_3 - 1)), (t297), (by first | rfl | (simp; done) | (simp [*]; done)), H', ⟨by have := HK1.out; have := HJ30.out; have := HK3.out; omega⟩, ⟨by (with_reducible repeat (first | apply Kd.R_alloc | apply Kd.R_drewN | apply Kd.R_drew)); exact HO_8.out⟩, ⟨by (with_reducible repeat (first | apply Kd.V_alloc | apply Kd.V_drewN | apply Kd.V_drew)); exact HO_9.out⟩, ⟨by (with_reducible repeat (first | apply Kd.V_alloc | apply Kd.V_drewN | apply Kd.V_drew)); exact HO_10.out⟩, ⟨by (with_reducible repeat (first | apply Kd.R_alloc | apply Kd.R_drewN | apply Kd.R_drew)); exact HO_11.out⟩, ⟨by (with_reducible repeat (first | apply Kd.V_alloc | apply Kd.V_drewN | apply Kd.V_drew)); exact HO_12.out⟩, ⟨by (with_reducible repeat (first | apply Kd.V_alloc | apply Kd.V_drewN | apply Kd.V_drew)); exact HO299.out⟩, ⟨by repeat (first | (with_reducible first | exact HB.out | apply Zb | apply Za | apply Zc) | exact HB.out)⟩⟩
                 .
                  rw [if_neg c59] at H
                  have c59b0 : decide (0 < t296) = false := decide_eq_false c59
                  clear c59
                  replace H := Option.bind_eq_some_iff.mp H
                  obtain ⟨t300, A630, H⟩ := H
                  replace H : (if 0 <= x13_1 then (if x13_1 < (x11_1.length : Int) then (spec_DivMod.l0 k3 t254 t257 t260 (x11_1.set (x13_1 : Int).toNat x14_3) t300 (wrap64 (x13_1 - 1))) else (none)) else (none)) = some (r1, r2) := H
                  have A63 := Zd.mk A630
                  clear A630
                  by_cases c64 : 0 <= x13_1
                  .
                   rw [if_pos c64] at H
                   have c64b0 : decide (0 <= x13_1) = true := decide_eq_true c64
                   clear c64
                   by_cases c65 : x13_1 < (x11_1.length : Int)
                   .
                    rw [if_pos c65] at H
                    have c65b0 : decide (x13_1 < (x11_1.length : Int)) = true := decide_eq_true c65
                    clear c65
                    obtain ⟨y303, hy303⟩ : ∃ y_ : List Int, y_ = (x11_1.set (x13_1 : Int).toNat x14_3) := ⟨_, rfl⟩
                    replace H : (spec_DivMod.l0 k3 t254 t257 t260 y303 t300 (wrap64 (x13_1 - 1))) = some (r1, r2) := by first | (rw [hy303]; with_reducible exact H) | (have H2_ := (Option.bind_some _ _).symm.trans H; rw [hy303]; with_reducible exact H2_) | (have H2_ := (Option.bind_some _ _).symm.trans H; with_reducible exact H2_) | with_reducible exact H | (rw [hy303]; exact H) | exact H
                    have Ny303 := Zd.mk hy303
                    clear hy303
                    have H' := Zd.mk H
                    clear H
                    obtain ⟨Ao67, co67, eo67⟩ := Kd.V_slice HO_15.out
                    subst eo67
                    go_wp2_with (first | ((with_reducible refine Zr (f := 16) rfl ?_); refine goesL_ (some 103) rfl rfl Tryz.func16 (by kernel_rfl) rfl #[.slice Ao67 x15_3.length co67, .slice Ao38 t283.length co38] rfl (by (try simp only [List.map_toArray, List.map_cons, List.map_nil]); first | done | rfl | (simp only [List.length_drop, List.length_take]; rfl)) ?_; (with_reducible refine (spec_Cmp.calls k3 _ _ x15_3 _ _ t283 t296 _ ?side1 ?side2 ?side3 ?side4 A58.out).mono ?_); (case side1 => repeat (first | exact (Kd.V_reads' HO_15.out).2.2 | (with_reducible refine Kd.C_alloc ?_ _) | (with_reducible refine Kd.C_drewN ?_ _) | (with_reducible refine Kd.C_drew ?_))); (case side2 => exact (Kd.V_reads' HO_15.out).2.1); (case side3 => repeat (first | exact (Kd.V_reads' HO_12.out).2.2 | (with_reducible refine Kd.C_alloc ?_ _) | (with_reducible refine Kd.C_drewN ?_ _) | (with_reducible refine Kd.C_drew ?_))); (case side4 => exact (Kd.V_reads' HO_12.out).2.1); rintro e w' ⟨rfl, ⟨nd, rfl⟩⟩; refine ⟨_, rfl, ?_⟩; (try (rw [drewN_self wr]; generalize hq_ : World.drewN wr _ = wr; have n0_ : Zd (Kd.V (Kd.int .i64) 3 wr w.heap.size (fun k_ => (w.heap.size <= k_) /\ some k_ ≠ (v264 : Value).ownBlock /\ some k_ ≠ (.slice Ao18 t254.length co18 : Value).ownBlock) (.slice Ao39 t260.length co39) t260) := ⟨by rw [<- hq_]; exact (by (with_reducible repeat (first | apply Kd.V_alloc | apply Kd.V_drewN | apply Kd.V_drew)); exact Kd.V_mono HO_10.out (fun _ hk => ⟨hk.1, ⟨hk.2.2, hk.2.1⟩⟩))⟩; have n1_ : Zd (Kd.R (Kd.int .i64) 3 wr w.heap.size (fun k_ => (w.heap.size <= k_) /\ some k_ ≠ (.slice Ao18 t254.length co18 : Value).ownBlock) v264 x11_1) := ⟨by rw [<- hq_]; exact (by (with_reducible repeat (first | apply Kd.R_alloc | apply Kd.R_drewN | apply Kd.R_drew)); exact HO_11.out)⟩; have n2_ : Zd (Kd.V (Kd.int .i64) 3 wr w.heap.size (fun k_ => (w.heap.size <= k_) /\ some k_ ≠ (v264 : Value).ownBlock /\ some k_ ≠ (.slice Ao18 t254.length co18 : Value).ownBlock) (.slice Ao38 t283.length co38) t283) := ⟨by rw [<- hq_]; exact (by (with_reducible repeat (first | apply Kd.V_alloc | apply Kd.V_drewN | apply Kd.V_drew)); exact Kd.V_mono HO_12.out (fun _ hk => ⟨hk.1, ⟨hk.2.2, hk.2.1⟩⟩))⟩; have n3_ : Zd (Kd.V (Kd.int .i64) 3 wr w.heap.size (fun k_ => (w.heap.size <= k_) /\ some k_ ≠ (v264 : Value).ownBlock /\ some k_ ≠ (.slice Ao18 t254.length co18 : Value).ownBlock) (.slice Ao67 x15_3.length co67) x15_3) := ⟨by rw [<- hq_]; exact (by (with_reducible repeat (first | apply Kd.V_alloc | apply Kd.V_drewN | apply Kd.V_drew)); exact Kd.V_mono HO_15.out (fun _ hk => ⟨hk.1, ⟨hk.2.2, hk.2.1⟩⟩))⟩; have n4_ : Zd (Kd.R (Kd.int .i64) 3 wr w.heap.size (fun k_ => (w.heap.size <= k_) /\ some k_ ≠ (v264 : Value).ownBlock) (.slice Ao18 t254.length co18) t254) := ⟨by rw [<- hq_]; exact (by (with_reducible repeat (first | apply Kd.R_alloc | apply Kd.R_drewN | apply Kd.R_drew)); exact HO_8.out)⟩; have n5_ : Zd (Kd.V (Kd.int .i64) 3 wr w.heap.size (fun k_ => (w.heap.size <= k_) /\ some k_ ≠ (v264 : Value).ownBlock /\ some k_ ≠ (.slice Ao18 t254.length co18 : Value).ownBlock) (.slice (some ad276) t257.length co21) t257) := ⟨by rw [<- hq_]; exact (by (with_reducible repeat (first | apply Kd.V_alloc | apply Kd.V_drewN | apply Kd.V_drew)); exact Kd.V_mono HO_9.out (fun _ hk => ⟨hk.1, ⟨hk.2.2, hk.2.1⟩⟩))⟩; have n6_ : Zd (Below w.heap.size w wr) := ⟨by rw [<- hq_]; exact (by repeat (first | (with_reducible first | exact HB.out | apply Zb | apply Za | apply Zc) | exact HB.out))⟩; clear HO_10 HO_11 HO_12 HO_15 HO_8 HO_9 HB hq_; have HO_10 := n0_; have HO_11 := n1_; have HO_12 := n2_; have HO_15 := n3_; have HO_8 := n4_; have HO_9 := n5_; have HB := n6_; clear n0_ n1_ n2_ n3_ n4_ n5_ n6_))) | ((with_reducible refine Zr (f := 35) rfl ?_); refine goesL_ (some 112) rfl rfl Tryz.func35 (by kernel_rfl) rfl #[.slice Ao38 t283.length co38, .slice Ao67 x15_3.length co67] rfl (by (try simp only [List.map_toArray, List.map_cons, List.map_nil]); first | done | rfl | (simp only [List.length_drop, List.length_take]; rfl)) ?_; (with_reducible refine (spec_Sub.calls k3 _ _ t283 _ _ x15_3 t300 _ ?side1 ?side2 ?side3 ?side4 A63.out).mono ?_); (case side1 => repeat (first | exact (Kd.V_reads' HO_12.out).2.2 | (with_reducible refine Kd.C_alloc ?_ _) | (with_reducible refine Kd.C_drewN ?_ _) | (with_reducible refine Kd.C_drew ?_))); (case side2 => exact (Kd.V_reads' HO_12.out).2.1); (case side3 => repeat (first | exact (Kd.V_reads' HO_15.out).2.2 | (with_reducible refine Kd.C_alloc ?_ _) | (with_reducible refine Kd.C_drewN ?_ _) | (with_reducible refine Kd.C_drew ?_))); (case side4 => exact (Kd.V_reads' HO_15.out).2.1); rintro e w68 ⟨v301, rfl, ho0, hb⟩; refine ⟨_, rfl, ?_⟩; have n0_ := Zd.mk (Kd.R_below (by (with_reducible repeat (first | apply Kd.R_alloc | apply Kd.R_drewN | apply Kd.R_drew)); exact HO_8.out) hb); have n1_ := Zd.mk (Kd.V_below (by (with_reducible repeat (first | apply Kd.V_alloc | apply Kd.V_drewN | apply Kd.V_drew)); exact HO_9.out) hb); have n2_ := Zd.mk (Kd.V_below (by (with_reducible repeat (first | apply Kd.V_alloc | apply Kd.V_drewN | apply Kd.V_drew)); exact HO_10.out) hb); have n3_ := Zd.mk (Kd.R_below (by (with_reducible repeat (first | apply Kd.R_alloc | apply Kd.R_drewN | apply Kd.R_drew)); exact HO_11.out) hb); have n4_ := Zd.mk (Kd.V_below (by (with_reducible repeat (first | apply Kd.V_alloc | apply Kd.V_drewN | apply Kd.V_drew)); exact HO_12.out) hb); have n5_ := Zd.mk (Kd.V_below (by (with_reducible repeat (first | apply Kd.V_alloc | apply Kd.V_drewN | apply Kd.V_drew)); exact HO_15.out) hb); have n6_ := Zd.mk (Kd.V_lower (Kd.V_mono (ok' := fun k_ => (w.heap.size <= k_) /\ some k_ ≠ (.slice Ao18 t254.length co18 : Value).ownBlock /\ some k_ ≠ (v264 : Value).ownBlock) ho0 (fun k_ hk_ => ⟨(Nat.le_trans (Ze (by repeat (first | (with_reducible first | exact HB.out | apply Zb | apply Za | apply Zc) | exact HB.out))) hk_), (Kd.fresh' (Kd.R_lt (by (with_reducible repeat (first | apply Kd.R_alloc | apply Kd.R_drewN | apply Kd.R_drew)); exact HO_8.out)) k_ hk_), (Kd.fresh' (Kd.R_lt (by (with_reducible repeat (first | apply Kd.R_alloc | apply Kd.R_drewN | apply Kd.R_drew)); exact HO_11.out)) k_ hk_)⟩)) (Ze (by repeat (first | (with_reducible first | exact HB.out | apply Zb | apply Za | apply Zc) | exact HB.out)))); have n7_ := Zd.mk (Zi (by repeat (first | (with_reducible first | exact HB.out | apply Zb | apply Za | apply Zc) | exact HB.out)) hb); clear HO_8; clear HO_9; clear HO_10; clear HO_11; clear HO_12; clear HO_15; clear HB; have HO_8 := n0_; have HO_9 := n1_; have HO_10 := n2_; have HO_11 := n3_; have HO_12 := n4_; have HO_15 := n5_; have HO302 := n6_; have HB := n7_; clear n0_ n1_ n2_ n3_ n4_ n5_ n6_ n7_; (try clear hb); (try clear hb2); (try clear hk); (try clear hi); (try clear ho0); have p66 : 0 <= (x13_1 : Int) := of_decide_eq_true (by first | (with_reducible assumption) | assumption); have q66 : (x13_1 : Int) < ((x11_1.length : Int) : Int) := of_decide_eq_true (by first | (with_reducible assumption) | assumption); obtain ⟨go66, co66, eo66, gb66, gl66, cl66, HG66⟩ := Kd.R_form HO_11.out (by omega); (first | cases eo66 | (injection eo66 with ea_ en_ ec_; (first | subst ea_ | (injection ea_ with ea_; subst ea_)); subst ec_; clear en_)); have GB66 := Zd.mk gb66; have GG66 := Zd.mk HG66; clear gb66 gl66 HG66; obtain ⟨hx66_0, hf66_0⟩ := Kd.R_celln 0 HO_11.out (x13_1 : Int) p66 q66; replace p66 := eq_true p66; replace q66 := eq_true q66; obtain ⟨hy69_, hz69_⟩ := Kd.R_celln 0 HO_11.out (x13_1 : Int) (of_decide_eq_true (by first | (with_reducible assumption) | assumption)) (of_decide_eq_true (by first | (with_reducible assumption) | assumption)); have HP69 := Kd.R_putg HO_11.out (x13_1 : Int) x14_3) | ((with_reducible refine gate_store (t := 3) (p := 116) rfl ?_); refine store_event (t := 3) (p := 116) (v := ?vo_w70) (w1 := (w68.setCell ⟨go66, (x13_1 : Int).toNat, none⟩ (.int .i64 x14_3))) ?hg ?ho ?hn ?hr ?_; (case ho => rfl); (case hg => rfl); (case hn => rfl); (case hr => first | (go_simp; done) | (go_simp; rfl)); intro w70 hw; have hg : w68.grownBy w70 (some go66) := (by rw [hw]; exact HP69.2); have hp_ : Kd.R (Kd.int .i64) 3 w70 w.heap.size (fun k_ => (w.heap.size <= k_) /\ some k_ ≠ (.slice Ao18 t254.length co18 : Value).ownBlock) (.slice (some ⟨go66, 0, none⟩) x11_1.length co66) y303 := (by rw [hw, Ny303.out]; exact HP69.1); clear HP69; have n0_ := Zd.mk (Kd.R_after (v := (.slice (some ⟨go66, 0, none⟩) x11_1.length co66)) (v1 := (.slice (some ⟨go66, 0, none⟩) x11_1.length co66)) (ok := (fun k_ => (w.heap.size <= k_))) (by (with_reducible repeat (first | apply Kd.R_alloc | apply Kd.R_drewN | apply Kd.R_drew)); exact HO_8.out) hg (.inl rfl)); have n1_ := Zd.mk (Kd.V_afterv (v := (.slice (some ⟨go66, 0, none⟩) x11_1.length co66)) (v1 := (.slice (some ⟨go66, 0, none⟩) x11_1.length co66)) (ok := (fun k_ => (w.heap.size <= k_) /\ some k_ ≠ (.slice Ao18 t254.length co18 : Value).ownBlock)) (by (with_reducible repeat (first | apply Kd.V_alloc | apply Kd.V_drewN | apply Kd.V_drew)); exact Kd.V_mono HO_9.out (fun _ hk => by first | exact ⟨⟨hk.1, hk.2.1⟩, hk.2.2⟩ | exact ⟨⟨hk.1, hk.2.2⟩, hk.2.1⟩)) hg (.inl rfl)); have n2_ := Zd.mk (Kd.V_afterv (v := (.slice (some ⟨go66, 0, none⟩) x11_1.length co66)) (v1 := (.slice (some ⟨go66, 0, none⟩) x11_1.length co66)) (ok := (fun k_ => (w.heap.size <= k_) /\ some k_ ≠ (.slice Ao18 t254.length co18 : Value).ownBlock)) (by (with_reducible repeat (first | apply Kd.V_alloc | apply Kd.V_drewN | apply Kd.V_drew)); exact Kd.V_mono HO_10.out (fun _ hk => by first | exact ⟨⟨hk.1, hk.2.1⟩, hk.2.2⟩ | exact ⟨⟨hk.1, hk.2.2⟩, hk.2.1⟩)) hg (.inl rfl)); have n3_ := Zd.mk (hp_); have n4_ := Zd.mk (Kd.V_afterv (v := (.slice (some ⟨go66, 0, none⟩) x11_1.length co66)) (v1 := (.slice (some ⟨go66, 0, none⟩) x11_1.length co66)) (ok := (fun k_ => (w.heap.size <= k_) /\ some k_ ≠ (.slice Ao18 t254.length co18 : Value).ownBlock)) (by (with_reducible repeat (first | apply Kd.V_alloc | apply Kd.V_drewN | apply Kd.V_drew)); exact Kd.V_mono HO_12.out (fun _ hk => by first | exact ⟨⟨hk.1, hk.2.1⟩, hk.2.2⟩ | exact ⟨⟨hk.1, hk.2.2⟩, hk.2.1⟩)) hg (.inl rfl)); have n5_ := Zd.mk (Kd.V_afterv (v := (.slice (some ⟨go66, 0, none⟩) x11_1.length co66)) (v1 := (.slice (some ⟨go66, 0, none⟩) x11_1.length co66)) (ok := (fun k_ => (w.heap.size <= k_) /\ some k_ ≠ (.slice Ao18 t254.length co18 : Value).ownBlock)) (by (with_reducible repeat (first | apply Kd.V_alloc | apply Kd.V_drewN | apply Kd.V_drew)); exact Kd.V_mono HO_15.out (fun _ hk => by first | exact ⟨⟨hk.1, hk.2.1⟩, hk.2.2⟩ | exact ⟨⟨hk.1, hk.2.2⟩, hk.2.1⟩)) hg (.inl rfl)); have n6_ := Zd.mk (Kd.V_afterv (v := (.slice (some ⟨go66, 0, none⟩) x11_1.length co66)) (v1 := (.slice (some ⟨go66, 0, none⟩) x11_1.length co66)) (ok := (fun k_ => (w.heap.size <= k_) /\ some k_ ≠ (.slice Ao18 t254.length co18 : Value).ownBlock)) (by (with_reducible repeat (first | apply Kd.V_alloc | apply Kd.V_drewN | apply Kd.V_drew)); exact Kd.V_mono HO302.out (fun _ hk => by first | exact ⟨⟨hk.1, hk.2.1⟩, hk.2.2⟩ | exact ⟨⟨hk.1, hk.2.2⟩, hk.2.1⟩)) hg (.inl rfl)); have n7_ := Zd.mk ((by rw [hw]; exact Zk (HB.out) GB66.out : Below w.heap.size w w70)); clear HO_8; clear HO_9; clear HO_10; clear HO_11; clear HO_12; clear HO_15; clear HO302; clear HB; have HO_8 := n0_; have HO_9 := n1_; have HO_10 := n2_; have HO_11 := n3_; have HO_12 := n4_; have HO_15 := n5_; have HO302 := n6_; have HB := n7_; clear n0_ n1_ n2_ n3_ n4_ n5_ n6_ n7_; clear hg hw hp_))
                    go_roundg k3
                    case measure => have := HK1.out; have := HJ30.out; have := HK3.out; omega
                    case rel => exact ⟨(y303), (t300), (wrap64 (x13_1 - 1)), (by first | rfl | (simp; done) | (simp [*]; done)), H', ⟨by have := HK1.out; have := HJ30.out; have := HK3.out; omega⟩, ⟨by (with_reducible repeat (first | apply Kd.R_alloc | apply Kd.R_drewN | apply Kd.R_drew)); exact HO_8.out⟩, ⟨by (with_reducible repeat (first | apply Kd.V_alloc | apply Kd.V_drewN | apply Kd.V_drew)); exact Kd.V_mono HO_9.out (fun _ hk => ⟨hk.1.1, ⟨hk.1.2, hk.2⟩⟩)⟩, ⟨by (with_reducible repeat (first | apply Kd.V_alloc | apply Kd.V_drewN | apply Kd.V_drew)); exact Kd.V_mono HO_10.out (fun _ hk => ⟨hk.1.1, ⟨hk.1.2, hk.2⟩⟩)⟩, ⟨by (with_reducible repeat (first | apply Kd.R_alloc | apply Kd.R_drewN | apply Kd.R_drew)); exact HO_11.out⟩, ⟨by (with_reducible repeat (first | apply Kd.V_alloc | apply Kd.V_drewN | apply Kd.V_drew)); exact Kd.V_mono HO302.out (fun _ hk => ⟨hk.1.1, ⟨hk.1.2, hk.2⟩⟩)⟩, ⟨by repeat (first | (with_reducible first | exact HB.out | apply Zb | apply Za | apply Zc) | exact HB.out)⟩⟩
                   .
                    rw [if_neg c65] at H
                    exact absurd H (by simp)
                  .
                   rw [if_neg c64] at H
                   exact absurd H (by simp)
            .
             rw [if_neg c29] at H
             exact absurd H (by simp)
           .
            rw [if_neg c28] at H
            exact absurd H (by simp)
          .
           rw [if_neg c27] at H
           exact absurd H (by simp)
         .
          rw [if_neg c26] at H
          have c26b0 : decide (0 <= x13_1) = false := decide_eq_false c26
          clear c26
          replace H := Option.bind_eq_some_iff.mp H
          obtain ⟨⟨t269, t272⟩, A710, H⟩ := H
          replace H : ((spec_cut.f k1 x11_1).bind fun t273 => (some (t273, t269))) = some (r1, r2) := H
          have A71 := Zd.mk A710
          clear A710
          replace H := Option.bind_eq_some_iff.mp H
          obtain ⟨t273, A720, H⟩ := H
          replace H : (some (t273, t269)) = some (r1, r2) := H
          have A72 := Zd.mk A720
          clear A720
          simp only [Option.some.injEq, Prod.mk.injEq] at H
          obtain ⟨rfl, rfl⟩ := H
          obtain ⟨Ao73, co73, eo73⟩ := Kd.V_slice HO_12.out
          subst eo73
          go_wp2_with (first | ((with_reducible refine Zr (f := 65) rfl ?_); refine goesL_ (some 120) rfl rfl Tryz.func65 (by kernel_rfl) rfl #[.slice Ao73 x12_1.length co73, .slice Ao18 t254.length co18] rfl (by (try simp only [List.map_toArray, List.map_cons, List.map_nil]); first | done | rfl | (simp only [List.length_drop, List.length_take]; rfl)) ?_; (with_reducible refine (spec_byDigit.calls k1 _ _ x12_1 _ _ t254 t269 t272 _ ?side1 ?side2 ?side3 ?side4 A71.out).mono ?_); (case side1 => repeat (first | exact (Kd.V_reads' HO_12.out).2.2 | (with_reducible refine Kd.C_alloc ?_ _) | (with_reducible refine Kd.C_drewN ?_ _) | (with_reducible refine Kd.C_drew ?_))); (case side2 => exact (Kd.V_reads' HO_12.out).2.1); (case side3 => repeat (first | exact (Kd.R_reads' HO_8.out).2.2 | (with_reducible refine Kd.C_alloc ?_ _) | (with_reducible refine Kd.C_drewN ?_ _) | (with_reducible refine Kd.C_drew ?_))); (case side4 => exact (Kd.R_reads' HO_8.out).2.1); rintro e w74 ⟨v270, rfl, ho0, hb⟩; refine ⟨_, rfl, ?_⟩; have n0_ := Zd.mk (Kd.R_below (by (with_reducible repeat (first | apply Kd.R_alloc | apply Kd.R_drewN | apply Kd.R_drew)); exact HO_8.out) hb); have n1_ := Zd.mk (Kd.V_below (by (with_reducible repeat (first | apply Kd.V_alloc | apply Kd.V_drewN | apply Kd.V_drew)); exact HO_9.out) hb); have n2_ := Zd.mk (Kd.V_below (by (with_reducible repeat (first | apply Kd.V_alloc | apply Kd.V_drewN | apply Kd.V_drew)); exact HO_10.out) hb); have n3_ := Zd.mk (Kd.R_below (by (with_reducible repeat (first | apply Kd.R_alloc | apply Kd.R_drewN | apply Kd.R_drew)); exact HO_11.out) hb); have n4_ := Zd.mk (Kd.V_below (by (with_reducible repeat (first | apply Kd.V_alloc | apply Kd.V_drewN | apply Kd.V_drew)); exact HO_12.out) hb); have n5_ := Zd.mk (Kd.V_lower (Kd.V_mono (ok' := fun k_ => (w.heap.size <= k_) /\ some k_ ≠ (.slice Ao18 t254.length co18 : Value).ownBlock /\ some k_ ≠ (v264 : Value).ownBlock) ho0 (fun k_ hk_ => ⟨(Nat.le_trans (Ze (by repeat (first | (with_reducible first | exact HB.out | apply Zb | apply Za | apply Zc) | exact HB.out))) hk_), (Kd.fresh' (Kd.R_lt (by (with_reducible repeat (first | apply Kd.R_alloc | apply Kd.R_drewN | apply Kd.R_drew)); exact HO_8.out)) k_ hk_), (Kd.fresh' (Kd.R_lt (by (with_reducible repeat (first | apply Kd.R_alloc | apply Kd.R_drewN | apply Kd.R_drew)); exact HO_11.out)) k_ hk_)⟩)) (Ze (by repeat (first | (with_reducible first | exact HB.out | apply Zb | apply Za | apply Zc) | exact HB.out)))); have n6_ := Zd.mk (Zi (by repeat (first | (with_reducible first | exact HB.out | apply Zb | apply Za | apply Zc) | exact HB.out)) hb); clear HO_8; clear HO_9; clear HO_10; clear HO_11; clear HO_12; clear HB; have HO_8 := n0_; have HO_9 := n1_; have HO_10 := n2_; have HO_11 := n3_; have HO_12 := n4_; have HO271 := n5_; have HB := n6_; clear n0_ n1_ n2_ n3_ n4_ n5_ n6_; (try clear hb); (try clear hb2); (try clear hk); (try clear hi); (try clear ho0); obtain ⟨Ao75, co75, eo75⟩ := Kd.R_slice HO_11.out; subst eo75) | ((with_reducible refine Zr (f := 56) rfl ?_); refine goesL_ (some 124) rfl rfl Tryz.func56 (by kernel_rfl) rfl #[.slice Ao75 x11_1.length co75] rfl (by (try simp only [List.map_toArray, List.map_cons, List.map_nil]); first | done | rfl | (simp only [List.length_drop, List.length_take]; rfl)) ?_; (with_reducible refine (spec_cut.calls k1 (fun k_ => some k_ = (.slice Ao75 x11_1.length co75 : Value).ownBlock) _ _ x11_1 t273 _ ?side1 A72.out).mono ?_); (case side1 => exact Kd.R_V (Kd.R_tight rfl (HO_11.out))); rintro e w76 ⟨v274, rfl, ho0, hb⟩; refine ⟨_, rfl, ?_⟩; have n0_ := Zd.mk (Kd.R_below (by (with_reducible repeat (first | apply Kd.R_alloc | apply Kd.R_drewN | apply Kd.R_drew)); exact HO_8.out) hb); have n1_ := Zd.mk (Kd.V_below (by (with_reducible repeat (first | apply Kd.V_alloc | apply Kd.V_drewN | apply Kd.V_drew)); exact HO_9.out) hb); have n2_ := Zd.mk (Kd.V_below (by (with_reducible repeat (first | apply Kd.V_alloc | apply Kd.V_drewN | apply Kd.V_drew)); exact HO_10.out) hb); have n3_ := Zd.mk (Kd.R_below (by (with_reducible repeat (first | apply Kd.R_alloc | apply Kd.R_drewN | apply Kd.R_drew)); exact HO_11.out) hb); have n4_ := Zd.mk (Kd.V_below (by (with_reducible repeat (first | apply Kd.V_alloc | apply Kd.V_drewN | apply Kd.V_drew)); exact HO_12.out) hb); have n5_ := Zd.mk (Kd.V_below (by (with_reducible repeat (first | apply Kd.V_alloc | apply Kd.V_drewN | apply Kd.V_drew)); exact HO271.out) hb); have n6_ := Zd.mk (Kd.V_lower (Kd.V_mono (ok' := fun k_ => (w.heap.size <= k_) /\ some k_ ≠ (.slice Ao18 t254.length co18 : Value).ownBlock) ho0 (fun k_ hk_ => ⟨Or.elim hk_ (fun hs_ => ((HO_11.out).1 k_ hs_.symm).1) (fun hn_ => (Nat.le_trans (Ze (by repeat (first | (with_reducible first | exact HB.out | apply Zb | apply Za | apply Zc) | exact HB.out))) hn_)), Or.elim hk_ (fun hs_ => ((HO_11.out).1 k_ hs_.symm).2) (fun hn_ => (Kd.fresh' (Kd.R_lt (by (with_reducible repeat (first | apply Kd.R_alloc | apply Kd.R_drewN | apply Kd.R_drew)); exact HO_8.out)) k_ hn_))⟩)) (Ze (by repeat (first | (with_reducible first | exact HB.out | apply Zb | apply Za | apply Zc) | exact HB.out)))); have n7_ := Zd.mk (Zi (by repeat (first | (with_reducible first | exact HB.out | apply Zb | apply Za | apply Zc) | exact HB.out)) hb); clear HO_8; clear HO_9; clear HO_10; clear HO_11; clear HO_12; clear HO271; clear HB; have HO_8 := n0_; have HO_9 := n1_; have HO_10 := n2_; have HO_11 := n3_; have HO_12 := n4_; have HO271 := n5_; have HO275 := n6_; have HB := n7_; clear n0_ n1_ n2_ n3_ n4_ n5_ n6_ n7_; (try clear hb); (try clear hb2); (try clear hk); (try clear hi); (try clear ho0)))
          go_ret2
          exact ⟨_, _, by first | rfl | (simp [errW_none, errW_some] <;> rfl) | (simp only [<- hji8]; first | rfl | (simp [errW_none, errW_some] <;> rfl)) | (simp [*, errW_none, errW_some] <;> rfl), by (with_reducible repeat (first | apply Kd.V_alloc | apply Kd.V_drewN | apply Kd.V_drew)); exact Kd.V_mono HO275.out (fun _ hk => hk.1), by (with_reducible repeat (first | apply Kd.V_alloc | apply Kd.V_drewN | apply Kd.V_drew)); exact Kd.V_mono HO271.out (fun _ hk => hk.1), by repeat (first | (with_reducible first | exact HB.out | apply Zb | apply Za | apply Zc) | exact HB.out)⟩
      .
       rw [if_neg c16] at H
       exact absurd H (by simp)
     .
      rw [if_neg c15] at H
      exact absurd H (by simp)
   .
    rw [if_neg c10] at H
    exact absurd H (by simp)
  .
   rw [if_neg c9] at H
   exact absurd H (by simp)
def spec_Mod.f (k : Nat) (l0 : List Int) (l1 : List Int) : Option (List Int) := (spec_DivMod.f k l0 l1).bind fun bt304 => (some bt304.2)
theorem spec_Mod.calls (k : Nat) (A0 : Option Addr) (c0 : Nat) (l0 : List Int) (A1 : Option Addr) (c1 : Nat) (l1 : List Int) (r : List Int) (w : World) (hr0 : Kd.C (Kd.int .i64) w A0 l0.length l0) (hc0 : l0.length <= c0) (hr1 : Kd.C (Kd.int .i64) w A1 l1.length l1) (hc1 : l1.length <= c1) (h : spec_Mod.f k l0 l1 = some r) :
  Calls Tryz.prog 25 #[.slice A0 l0.length c0, .slice A1 l1.length c1] w fun e w' => ∃ v0_ : Value, e = .returned (v0_) /\ Kd.V (Kd.int .i64) 3 w' w.heap.size (fun k_ => (w.heap.size <= k_)) v0_ r /\ Below w.heap.size w w' := by
 have HR0 := Zd.mk hr0
 have HC0 := Zd.mk hc0
 clear hr0 hc0
 have HR1 := Zd.mk hr1
 have HC1 := Zd.mk hc1
 clear hr1 hc1
 have HB := Zd.mk (Below.refl w.heap.size w)
 have H : ((spec_DivMod.f k l0 l1).bind fun bt304 => (some bt304.2)) = some r := h
 clear h
 replace H := Option.bind_eq_some_iff.mp H
 obtain ⟨⟨t304, t307⟩, A30, H⟩ := H
 replace H : (some t307) = some r := H
 have A3 := Zd.mk A30
 clear A30
 obtain rfl := Option.some.inj H
 go_enter Tryz.func25, Tryz.ntmps25
 go_wp2_with (first | ((with_reducible refine Zr (f := 45) rfl ?_); refine goesL_ (some 10) rfl rfl Tryz.func45 (by kernel_rfl) rfl #[.slice A0 l0.length c0, .slice A1 l1.length c1] rfl (by (try simp only [List.map_toArray, List.map_cons, List.map_nil]); first | done | rfl | (simp only [List.length_drop, List.length_take]; rfl)) ?_; (with_reducible refine (spec_DivMod.calls k _ _ l0 _ _ l1 t304 t307 _ ?side1 ?side2 ?side3 ?side4 A3.out).mono ?_); (case side1 => repeat (first | exact HR0.out | (with_reducible refine Kd.C_alloc ?_ _) | (with_reducible refine Kd.C_drewN ?_ _) | (with_reducible refine Kd.C_drew ?_))); (case side2 => exact HC0.out); (case side3 => repeat (first | exact HR1.out | (with_reducible refine Kd.C_alloc ?_ _) | (with_reducible refine Kd.C_drewN ?_ _) | (with_reducible refine Kd.C_drew ?_))); (case side4 => exact HC1.out); rintro e w4 ⟨v305, v308, rfl, ho0, ho1, hb⟩; refine ⟨_, rfl, ?_⟩; have n0_ := Zd.mk (Kd.V_lower (Kd.V_mono (ok' := fun k_ => (w.heap.size <= k_)) ho0 (fun k_ hk_ => (Nat.le_trans (Ze (by repeat (first | (with_reducible first | exact HB.out | apply Zb | apply Za | apply Zc) | exact HB.out))) hk_))) (Ze (by repeat (first | (with_reducible first | exact HB.out | apply Zb | apply Za | apply Zc) | exact HB.out)))); have n1_ := Zd.mk (Kd.V_lower (Kd.V_mono (ok' := fun k_ => (w.heap.size <= k_)) ho1 (fun k_ hk_ => (Nat.le_trans (Ze (by repeat (first | (with_reducible first | exact HB.out | apply Zb | apply Za | apply Zc) | exact HB.out))) hk_))) (Ze (by repeat (first | (with_reducible first | exact HB.out | apply Zb | apply Za | apply Zc) | exact HB.out)))); have n2_ := Zd.mk (Zi (by repeat (first | (with_reducible first | exact HB.out | apply Zb | apply Za | apply Zc) | exact HB.out)) hb); clear HB; have HO306 := n0_; have HO309 := n1_; have HB := n2_; clear n0_ n1_ n2_; (try clear hb); (try clear hb2); (try clear hk); (try clear hi); (try clear ho0); (try clear ho1)))
 go_ret
 exact ⟨_, by first | rfl | (simp [errW_none, errW_some] <;> rfl) | (simp [*, errW_none, errW_some] <;> rfl), by (with_reducible repeat (first | apply Kd.V_alloc | apply Kd.V_drewN | apply Kd.V_drew)); exact HO309.out, by repeat (first | (with_reducible first | exact HB.out | apply Zb | apply Za | apply Zc) | exact HB.out)⟩
def spec_Gcd.l0 : Nat -> List Int -> List Int -> Option (List Int)
 | 0, _, _ => none
 | k + 1, x0, x1 => if (x1.length : Int) > 0 then ((spec_Mod.f k x0 x1).bind fun t310 => (spec_Gcd.l0 k x1 t310)) else (some x0)
def spec_Gcd.f (k : Nat) (l0 : List Int) (l1 : List Int) : Option (List Int) := spec_Gcd.l0 k l0 l1
theorem spec_Gcd.calls (k : Nat) (P0_ : Nat -> Prop) (A0 : Option Addr) (c0 : Nat) (l0 : List Int) (P1_ : Nat -> Prop) (A1 : Option Addr) (c1 : Nat) (l1 : List Int) (r : List Int) (w : World) (hs0 : Kd.V (Kd.int .i64) 3 w w.heap.size (fun k_ => P0_ k_) (.slice A0 l0.length c0) l0) (hs1 : Kd.V (Kd.int .i64) 3 w w.heap.size (fun k_ => P1_ k_) (.slice A1 l1.length c1) l1) (h : spec_Gcd.f k l0 l1 = some r) :
  Calls Tryz.prog 12 #[.slice A0 l0.length c0, .slice A1 l1.length c1] w fun e w' => ∃ v0_ : Value, e = .returned (v0_) /\ Kd.V (Kd.int .i64) 3 w' w.heap.size (fun k_ => ((P0_ k_ \/ P1_ k_) \/ w.heap.size <= k_)) v0_ r /\ Below w.heap.size w w' := by
 have HO0 := Zd.mk (show Kd.V (Kd.int .i64) 3 w w.heap.size (fun k_ => ((P0_ k_ \/ P1_ k_) \/ w.heap.size <= k_)) (.slice A0 l0.length c0) l0 from Kd.V_mono hs0 (fun k_ hk => .inl (.inl hk)))
 have HO1 := Zd.mk (show Kd.V (Kd.int .i64) 3 w w.heap.size (fun k_ => ((P0_ k_ \/ P1_ k_) \/ w.heap.size <= k_)) (.slice A1 l1.length c1) l1 from Kd.V_mono hs1 (fun k_ hk => .inl (.inr hk)))
 have HB := Zd.mk (Below.refl w.heap.size w)
 have H : (spec_Gcd.l0 k l0 l1) = some r := h
 clear h
 have H' := Zd.mk H
 clear H
 go_enter Tryz.func12, Tryz.ntmps12
 go_wp2
 go_loopg [0, 1] k (fun kq v0 v1 w' => ∃ (x0_1 : List Int) (x1_1 : List Int), Zd (spec_Gcd.l0 kq x0_1 x1_1 = some r) /\ Zd (kq <= k) /\ Zd (Kd.V (Kd.int .i64) 3 w' w.heap.size (fun k_ => ((P0_ k_ \/ P1_ k_) \/ w.heap.size <= k_)) v0 x0_1) /\ Zd (Kd.V (Kd.int .i64) 3 w' w.heap.size (fun k_ => ((P0_ k_ \/ P1_ k_) \/ w.heap.size <= k_)) v1 x1_1) /\ Zd (Below w.heap.size w w'))
 case atStart => exact ⟨(l0), (l1), H', ⟨Nat.le_refl _⟩, ⟨by (with_reducible repeat (first | apply Kd.V_alloc | apply Kd.V_drewN | apply Kd.V_drew)); exact HO0.out⟩, ⟨by (with_reducible repeat (first | apply Kd.V_alloc | apply Kd.V_drewN | apply Kd.V_drew)); exact HO1.out⟩, ⟨by repeat (first | (with_reducible first | exact HB.out | apply Zb | apply Za | apply Zc) | exact HB.out)⟩⟩
 case round =>
  clear H'
  try clear c1
  try clear p2
  obtain ⟨x0_1, x1_1, HA, HK1, HO_0, HO_1, HB⟩ := hrel
  cases gk with
  | zero => exact absurd HA.out (by simp [spec_Gcd.l0])
  | succ k1 =>
   have H := HA.out
   clear HA
   simp only [spec_Gcd.l0] at H
   by_cases c3 : (x1_1.length : Int) > 0
   .
    rw [if_pos c3] at H
    have c3b0 : decide (0 < (x1_1.length : Int)) = true := decide_eq_true c3
    have c3b1 : decide (0 < x1_1.length) = true := decide_eq_true (by omega)
    clear c3
    replace H := Option.bind_eq_some_iff.mp H
    obtain ⟨t310, A40, H⟩ := H
    replace H : (spec_Gcd.l0 k1 x1_1 t310) = some r := H
    have A4 := Zd.mk A40
    clear A40
    have H' := Zd.mk H
    clear H
    obtain ⟨Ao5, co5, eo5⟩ := Kd.V_slice HO_1.out
    subst eo5
    obtain ⟨Ao6, co6, eo6⟩ := Kd.V_slice HO_0.out
    subst eo6
    go_wp2_with (first | ((with_reducible refine Zr (f := 25) rfl ?_); refine goesL_ (some 11) rfl rfl Tryz.func25 (by kernel_rfl) rfl #[.slice Ao6 x0_1.length co6, .slice Ao5 x1_1.length co5] rfl (by (try simp only [List.map_toArray, List.map_cons, List.map_nil]); first | done | rfl | (simp only [List.length_drop, List.length_take]; rfl)) ?_; (with_reducible refine (spec_Mod.calls k1 _ _ x0_1 _ _ x1_1 t310 _ ?side1 ?side2 ?side3 ?side4 A4.out).mono ?_); (case side1 => repeat (first | exact (Kd.V_reads' HO_0.out).2.2 | (with_reducible refine Kd.C_alloc ?_ _) | (with_reducible refine Kd.C_drewN ?_ _) | (with_reducible refine Kd.C_drew ?_))); (case side2 => exact (Kd.V_reads' HO_0.out).2.1); (case side3 => repeat (first | exact (Kd.V_reads' HO_1.out).2.2 | (with_reducible refine Kd.C_alloc ?_ _) | (with_reducible refine Kd.C_drewN ?_ _) | (with_reducible refine Kd.C_drew ?_))); (case side4 => exact (Kd.V_reads' HO_1.out).2.1); rintro e w7 ⟨v311, rfl, ho0, hb⟩; refine ⟨_, rfl, ?_⟩; have n0_ := Zd.mk (Kd.V_below (by (with_reducible repeat (first | apply Kd.V_alloc | apply Kd.V_drewN | apply Kd.V_drew)); exact HO_0.out) hb); have n1_ := Zd.mk (Kd.V_below (by (with_reducible repeat (first | apply Kd.V_alloc | apply Kd.V_drewN | apply Kd.V_drew)); exact HO_1.out) hb); have n2_ := Zd.mk (Kd.V_lower (Kd.V_mono (ok' := fun k_ => ((P0_ k_ \/ P1_ k_) \/ w.heap.size <= k_)) ho0 (fun k_ hk_ => (.inr (Nat.le_trans (Ze (by repeat (first | (with_reducible first | exact HB.out | apply Zb | apply Za | apply Zc) | exact HB.out))) hk_)))) (Ze (by repeat (first | (with_reducible first | exact HB.out | apply Zb | apply Za | apply Zc) | exact HB.out)))); have n3_ := Zd.mk (Zi (by repeat (first | (with_reducible first | exact HB.out | apply Zb | apply Za | apply Zc) | exact HB.out)) hb); clear HO_0; clear HO_1; clear HB; have HO_0 := n0_; have HO_1 := n1_; have HO312 := n2_; have HB := n3_; clear n0_ n1_ n2_ n3_; (try clear hb); (try clear hb2); (try clear hk); (try clear hi); (try clear ho0)))
    go_roundg k1
    case measure => have := HK1.out; omega
    case rel => exact ⟨(x1_1), (t310), H', ⟨by have := HK1.out; omega⟩, ⟨by (with_reducible repeat (first | apply Kd.V_alloc | apply Kd.V_drewN | apply Kd.V_drew)); exact HO_1.out⟩, ⟨by (with_reducible repeat (first | apply Kd.V_alloc | apply Kd.V_drewN | apply Kd.V_drew)); exact HO312.out⟩, ⟨by repeat (first | (with_reducible first | exact HB.out | apply Zb | apply Za | apply Zc) | exact HB.out)⟩⟩
   .
    rw [if_neg c3] at H
    have c3b0 : decide (0 < (x1_1.length : Int)) = false := decide_eq_false c3
    have c3b1 : decide (0 < x1_1.length) = false := decide_eq_false (by omega)
    clear c3
    obtain rfl := Option.some.inj H
    obtain ⟨Ao8, co8, eo8⟩ := Kd.V_slice HO_1.out
    subst eo8
    go_wp2
    go_ret
    exact ⟨_, by first | rfl | (simp [errW_none, errW_some] <;> rfl) | (simp [*, errW_none, errW_some] <;> rfl), by (with_reducible repeat (first | apply Kd.V_alloc | apply Kd.V_drewN | apply Kd.V_drew)); exact HO_0.out, by repeat (first | (with_reducible first | exact HB.out | apply Zb | apply Za | apply Zc) | exact HB.out)⟩
def spec_Rest.f (k : Nat) (a0_0 : Bool) (l0_1 : List Int) (l1 : List Int) : Option (List Int) := (spec_Mod.f k l0_1 l1).bind fun t254 => (if a0_0 = true then (if (t254.length : Int) > 0 then ((spec_Sub.f k l1 t254).bind fun t257 => (some t257)) else (some t254)) else (some t254))
theorem spec_Rest.calls (k : Nat) (a0_0 : Bool) (A0_1 : Option Addr) (c0_1 : Nat) (l0_1 : List Int) (A1 : Option Addr) (c1 : Nat) (l1 : List Int) (r : List Int) (w : World) (hr0_1 : Kd.C (Kd.int .i64) w A0_1 l0_1.length l0_1) (hc0_1 : l0_1.length <= c0_1) (hr1 : Kd.C (Kd.int .i64) w A1 l1.length l1) (hc1 : l1.length <= c1) (h : spec_Rest.f k a0_0 l0_1 l1 = some r) :
  Calls Tryz.prog 24 #[.agg #[.bool a0_0, .slice A0_1 l0_1.length c0_1], .slice A1 l1.length c1] w fun e w' => ∃ v0_ : Value, e = .returned (v0_) /\ Kd.V (Kd.int .i64) 3 w' w.heap.size (fun k_ => (w.heap.size <= k_)) v0_ r /\ Below w.heap.size w w' := by
 have hu32 := Tryz.underlying32
 have HR0_1 := Zd.mk hr0_1
 have HC0_1 := Zd.mk hc0_1
 clear hr0_1 hc0_1
 have HR1 := Zd.mk hr1
 have HC1 := Zd.mk hc1
 clear hr1 hc1
 have HB := Zd.mk (Below.refl w.heap.size w)
 have H : ((spec_Mod.f k l0_1 l1).bind fun t254 => (if a0_0 = true then (if (t254.length : Int) > 0 then ((spec_Sub.f k l1 t254).bind fun t257 => (some t257)) else (some t254)) else (some t254))) = some r := h
 clear h
 replace H := Option.bind_eq_some_iff.mp H
 obtain ⟨t254, A30, H⟩ := H
 replace H : (if a0_0 = true then (if (t254.length : Int) > 0 then ((spec_Sub.f k l1 t254).bind fun t257 => (some t257)) else (some t254)) else (some t254)) = some r := H
 have A3 := Zd.mk A30
 clear A30
 by_cases c4 : a0_0 = true
 .
  subst c4
  have H1 : (if (t254.length : Int) > 0 then ((spec_Sub.f k l1 t254).bind fun t257 => (some t257)) else (some t254)) = some r := by rw [if_pos rfl] at H; exact H
  clear H
  have H := H1
  clear H1
  by_cases c5 : (t254.length : Int) > 0
  .
   rw [if_pos c5] at H
   have c5b0 : decide (0 < (t254.length : Int)) = true := decide_eq_true c5
   have c5b1 : decide (0 < t254.length) = true := decide_eq_true (by omega)
   clear c5
   replace H := Option.bind_eq_some_iff.mp H
   obtain ⟨t257, A60, H⟩ := H
   replace H : (some t257) = some r := H
   have A6 := Zd.mk A60
   clear A60
   obtain rfl := Option.some.inj H
   go_enter Tryz.func24, Tryz.ntmps24
   go_wp2_with (first | ((with_reducible refine gate_dst (N := 2) rfl ?_); (try (refine gate_guard (by rfl) ?_; dsimp only)); refine box_event ?hg (N := 2) ?hd (cs := #[.bool true, .slice A0_1 l0_1.length c0_1]) (t := 32) ?hr ?_; (case hd => rfl); (case hg => rfl); (case hr => first | (go_simp; done) | (go_simp; rfl)); intro gb253 hg w7 hbox hb; have n0_ := Zd.mk (Zi (by repeat (first | (with_reducible first | exact HB.out | apply Zb | apply Za | apply Zc) | exact HB.out)) hb); have n1_ := Zd.mk (hbox); have n2_ := Zd.mk ((by rw [hg]; exact (Ze (by repeat (first | (with_reducible first | exact HB.out | apply Zb | apply Za | apply Zc) | exact HB.out))) : w.heap.size <= gb253)); have n3_ := Zd.mk ((by rw [hg]; exact (Ze (by repeat (first | (with_reducible first | exact HB.out | apply Zb | apply Za | apply Zc) | exact HB.out))) : w.heap.size <= gb253)); clear HB; have HB := n0_; have BK253 := n1_; have GW253 := n2_; have GE253 := n3_; clear n0_ n1_ n2_ n3_; clear hb hbox hg; have hcz8_0 : w7.cell? ⟨gb253, 0, none⟩ = some (.bool true) := (Zu BK253.out 0).trans rfl; have hcz8_1 : w7.cell? ⟨gb253, 1, none⟩ = some (.slice A0_1 l0_1.length c0_1) := (Zu BK253.out 1).trans rfl; have hfz8_0 := Zm BK253.out 0; have hfz8_1 := Zm BK253.out 1) | ((with_reducible refine Zr (f := 25) rfl ?_); refine goesL_ (some 9) rfl rfl Tryz.func25 (by kernel_rfl) rfl #[.slice A0_1 l0_1.length c0_1, .slice A1 l1.length c1] rfl (by (try simp only [List.map_toArray, List.map_cons, List.map_nil]); first | done | rfl | (simp only [List.length_drop, List.length_take]; rfl)) ?_; (with_reducible refine (spec_Mod.calls k _ _ l0_1 _ _ l1 t254 _ ?side1 ?side2 ?side3 ?side4 A3.out).mono ?_); (case side1 => repeat (first | exact (Kd.C_below HR0_1.out HB.out) | (with_reducible refine Kd.C_alloc ?_ _) | (with_reducible refine Kd.C_drewN ?_ _) | (with_reducible refine Kd.C_drew ?_))); (case side2 => exact HC0_1.out); (case side3 => repeat (first | exact (Kd.C_below HR1.out HB.out) | (with_reducible refine Kd.C_alloc ?_ _) | (with_reducible refine Kd.C_drewN ?_ _) | (with_reducible refine Kd.C_drew ?_))); (case side4 => exact HC1.out); rintro e w9 ⟨v255, rfl, ho0, hb⟩; refine ⟨_, rfl, ?_⟩; have n0_ := Zd.mk (Kd.V_lower (Kd.V_mono (ok' := fun k_ => (w.heap.size <= k_) /\ k_ ≠ gb253) ho0 (fun k_ hk_ => ⟨(Nat.le_trans (Ze (by repeat (first | (with_reducible first | exact HB.out | apply Zb | apply Za | apply Zc | refine Zk ?_ GE253.out) | exact HB.out))) hk_), (Kd.freshB (g := gb253) (o := .cells #[.bool true, .slice A0_1 l0_1.length c0_1] 32 (0, 0)) (by (with_reducible repeat (first | refine Zo ?_ _ | refine Zt ?_ | refine Zp ?_ _)); exact BK253.out) k_ hk_)⟩)) (Ze (by repeat (first | (with_reducible first | exact HB.out | apply Zb | apply Za | apply Zc | refine Zk ?_ GE253.out) | exact HB.out)))); have n1_ := Zd.mk (blk_below (g := gb253) (o := .cells #[.bool true, .slice A0_1 l0_1.length c0_1] 32 (0, 0)) (by (with_reducible repeat (first | refine Zo ?_ _ | refine Zt ?_ | refine Zp ?_ _)); exact BK253.out) hb); have n2_ := Zd.mk (Zi (by repeat (first | (with_reducible first | exact HB.out | apply Zb | apply Za | apply Zc | refine Zk ?_ GE253.out) | exact HB.out)) hb); clear BK253; clear HB; have HO256 := n0_; have BK253 := n1_; have HB := n2_; clear n0_ n1_ n2_; (try clear hb); (try clear hb2); (try clear hk); (try clear hi); (try clear ho0); have hcz10_0 : w9.cell? ⟨gb253, 0, none⟩ = some (.bool true) := (Zu BK253.out 0).trans rfl; have hcz10_1 : w9.cell? ⟨gb253, 1, none⟩ = some (.slice A0_1 l0_1.length c0_1) := (Zu BK253.out 1).trans rfl; have hfz10_0 := Zm BK253.out 0; have hfz10_1 := Zm BK253.out 1; obtain ⟨Ao11, co11, eo11⟩ := Kd.V_slice HO256.out; subst eo11) | ((with_reducible refine Zr (f := 35) rfl ?_); refine goesL_ (some 19) rfl rfl Tryz.func35 (by kernel_rfl) rfl #[.slice A1 l1.length c1, .slice Ao11 t254.length co11] rfl (by (try simp only [List.map_toArray, List.map_cons, List.map_nil]); first | done | rfl | (simp only [List.length_drop, List.length_take]; rfl)) ?_; (with_reducible refine (spec_Sub.calls k _ _ l1 _ _ t254 t257 _ ?side1 ?side2 ?side3 ?side4 A6.out).mono ?_); (case side1 => repeat (first | exact (Kd.C_below HR1.out HB.out) | (with_reducible refine Kd.C_alloc ?_ _) | (with_reducible refine Kd.C_drewN ?_ _) | (with_reducible refine Kd.C_drew ?_))); (case side2 => exact HC1.out); (case side3 => repeat (first | exact (Kd.V_reads' HO256.out).2.2 | (with_reducible refine Kd.C_alloc ?_ _) | (with_reducible refine Kd.C_drewN ?_ _) | (with_reducible refine Kd.C_drew ?_))); (case side4 => exact (Kd.V_reads' HO256.out).2.1); rintro e w12 ⟨v258, rfl, ho0, hb⟩; refine ⟨_, rfl, ?_⟩; have n0_ := Zd.mk (Kd.V_below (by (with_reducible repeat (first | apply Kd.V_alloc | apply Kd.V_drewN | apply Kd.V_drew)); exact HO256.out) hb); have n1_ := Zd.mk (Kd.V_lower (Kd.V_mono (ok' := fun k_ => (w.heap.size <= k_) /\ k_ ≠ gb253) ho0 (fun k_ hk_ => ⟨(Nat.le_trans (Ze (by repeat (first | (with_reducible first | exact HB.out | apply Zb | apply Za | apply Zc | refine Zk ?_ GE253.out) | exact HB.out))) hk_), (Kd.freshB (g := gb253) (o := .cells #[.bool true, .slice A0_1 l0_1.length c0_1] 32 (0, 0)) (by (with_reducible repeat (first | refine Zo ?_ _ | refine Zt ?_ | refine Zp ?_ _)); exact BK253.out) k_ hk_)⟩)) (Ze (by repeat (first | (with_reducible first | exact HB.out | apply Zb | apply Za | apply Zc | refine Zk ?_ GE253.out) | exact HB.out)))); have n2_ := Zd.mk (blk_below (g := gb253) (o := .cells #[.bool true, .slice A0_1 l0_1.length c0_1] 32 (0, 0)) (by (with_reducible repeat (first | refine Zo ?_ _ | refine Zt ?_ | refine Zp ?_ _)); exact BK253.out) hb); have n3_ := Zd.mk (Zi (by repeat (first | (with_reducible first | exact HB.out | apply Zb | apply Za | apply Zc | refine Zk ?_ GE253.out) | exact HB.out)) hb); clear HO256; clear BK253; clear HB; have HO256 := n0_; have HO259 := n1_; have BK253 := n2_; have HB := n3_; clear n0_ n1_ n2_ n3_; (try clear hb); (try clear hb2); (try clear hk); (try clear hi); (try clear ho0)))
   go_ret
   exact ⟨_, by first | rfl | (simp [errW_none, errW_some] <;> rfl) | (simp [*, errW_none, errW_some] <;> rfl), by (with_reducible repeat (first | apply Kd.V_alloc | apply Kd.V_drewN | apply Kd.V_drew)); exact Kd.V_mono HO259.out (fun _ hk => hk.1), by repeat (first | (with_reducible first | exact HB.out | apply Zb | apply Za | apply Zc | refine Zk ?_ GE253.out) | exact HB.out)⟩
  .
   rw [if_neg c5] at H
   have c5b0 : decide (0 < (t254.length : Int)) = false := decide_eq_false c5
   have c5b1 : decide (0 < t254.length) = false := decide_eq_false (by omega)
   clear c5
   obtain rfl := Option.some.inj H
   go_enter Tryz.func24, Tryz.ntmps24
   go_wp2_with (first | ((with_reducible refine gate_dst (N := 2) rfl ?_); (try (refine gate_guard (by rfl) ?_; dsimp only)); refine box_event ?hg (N := 2) ?hd (cs := #[.bool true, .slice A0_1 l0_1.length c0_1]) (t := 32) ?hr ?_; (case hd => rfl); (case hg => rfl); (case hr => first | (go_simp; done) | (go_simp; rfl)); intro gb253 hg w13 hbox hb; have n0_ := Zd.mk (Zi (by repeat (first | (with_reducible first | exact HB.out | apply Zb | apply Za | apply Zc) | exact HB.out)) hb); have n1_ := Zd.mk (hbox); have n2_ := Zd.mk ((by rw [hg]; exact (Ze (by repeat (first | (with_reducible first | exact HB.out | apply Zb | apply Za | apply Zc) | exact HB.out))) : w.heap.size <= gb253)); have n3_ := Zd.mk ((by rw [hg]; exact (Ze (by repeat (first | (with_reducible first | exact HB.out | apply Zb | apply Za | apply Zc) | exact HB.out))) : w.heap.size <= gb253)); clear HB; have HB := n0_; have BK253 := n1_; have GW253 := n2_; have GE253 := n3_; clear n0_ n1_ n2_ n3_; clear hb hbox hg; have hcz14_0 : w13.cell? ⟨gb253, 0, none⟩ = some (.bool true) := (Zu BK253.out 0).trans rfl; have hcz14_1 : w13.cell? ⟨gb253, 1, none⟩ = some (.slice A0_1 l0_1.length c0_1) := (Zu BK253.out 1).trans rfl; have hfz14_0 := Zm BK253.out 0; have hfz14_1 := Zm BK253.out 1) | ((with_reducible refine Zr (f := 25) rfl ?_); refine goesL_ (some 9) rfl rfl Tryz.func25 (by kernel_rfl) rfl #[.slice A0_1 l0_1.length c0_1, .slice A1 l1.length c1] rfl (by (try simp only [List.map_toArray, List.map_cons, List.map_nil]); first | done | rfl | (simp only [List.length_drop, List.length_take]; rfl)) ?_; (with_reducible refine (spec_Mod.calls k _ _ l0_1 _ _ l1 t254 _ ?side1 ?side2 ?side3 ?side4 A3.out).mono ?_); (case side1 => repeat (first | exact (Kd.C_below HR0_1.out HB.out) | (with_reducible refine Kd.C_alloc ?_ _) | (with_reducible refine Kd.C_drewN ?_ _) | (with_reducible refine Kd.C_drew ?_))); (case side2 => exact HC0_1.out); (case side3 => repeat (first | exact (Kd.C_below HR1.out HB.out) | (with_reducible refine Kd.C_alloc ?_ _) | (with_reducible refine Kd.C_drewN ?_ _) | (with_reducible refine Kd.C_drew ?_))); (case side4 => exact HC1.out); rintro e w15 ⟨v255, rfl, ho0, hb⟩; refine ⟨_, rfl, ?_⟩; have n0_ := Zd.mk (Kd.V_lower (Kd.V_mono (ok' := fun k_ => (w.heap.size <= k_) /\ k_ ≠ gb253) ho0 (fun k_ hk_ => ⟨(Nat.le_trans (Ze (by repeat (first | (with_reducible first | exact HB.out | apply Zb | apply Za | apply Zc | refine Zk ?_ GE253.out) | exact HB.out))) hk_), (Kd.freshB (g := gb253) (o := .cells #[.bool true, .slice A0_1 l0_1.length c0_1] 32 (0, 0)) (by (with_reducible repeat (first | refine Zo ?_ _ | refine Zt ?_ | refine Zp ?_ _)); exact BK253.out) k_ hk_)⟩)) (Ze (by repeat (first | (with_reducible first | exact HB.out | apply Zb | apply Za | apply Zc | refine Zk ?_ GE253.out) | exact HB.out)))); have n1_ := Zd.mk (blk_below (g := gb253) (o := .cells #[.bool true, .slice A0_1 l0_1.length c0_1] 32 (0, 0)) (by (with_reducible repeat (first | refine Zo ?_ _ | refine Zt ?_ | refine Zp ?_ _)); exact BK253.out) hb); have n2_ := Zd.mk (Zi (by repeat (first | (with_reducible first | exact HB.out | apply Zb | apply Za | apply Zc | refine Zk ?_ GE253.out) | exact HB.out)) hb); clear BK253; clear HB; have HO256 := n0_; have BK253 := n1_; have HB := n2_; clear n0_ n1_ n2_; (try clear hb); (try clear hb2); (try clear hk); (try clear hi); (try clear ho0); have hcz16_0 : w15.cell? ⟨gb253, 0, none⟩ = some (.bool true) := (Zu BK253.out 0).trans rfl; have hcz16_1 : w15.cell? ⟨gb253, 1, none⟩ = some (.slice A0_1 l0_1.length c0_1) := (Zu BK253.out 1).trans rfl; have hfz16_0 := Zm BK253.out 0; have hfz16_1 := Zm BK253.out 1; obtain ⟨Ao17, co17, eo17⟩ := Kd.V_slice HO256.out; subst eo17))
   go_ret
   exact ⟨_, by first | rfl | (simp [errW_none, errW_some] <;> rfl) | (simp [*, errW_none, errW_some] <;> rfl), by (with_reducible repeat (first | apply Kd.V_alloc | apply Kd.V_drewN | apply Kd.V_drew)); exact Kd.V_mono HO256.out (fun _ hk => hk.1), by repeat (first | (with_reducible first | exact HB.out | apply Zb | apply Za | apply Zc | refine Zk ?_ GE253.out) | exact HB.out)⟩
 .
  replace c4 := Bool.eq_false_iff.mpr c4
  subst c4
  have H1 : (some t254) = some r := by rw [if_neg (show ¬ (false = true) by decide)] at H; exact H
  clear H
  have H := H1
  clear H1
  obtain rfl := Option.some.inj H
  go_enter Tryz.func24, Tryz.ntmps24
  go_wp2_with (first | ((with_reducible refine gate_dst (N := 2) rfl ?_); (try (refine gate_guard (by rfl) ?_; dsimp only)); refine box_event ?hg (N := 2) ?hd (cs := #[.bool false, .slice A0_1 l0_1.length c0_1]) (t := 32) ?hr ?_; (case hd => rfl); (case hg => rfl); (case hr => first | (go_simp; done) | (go_simp; rfl)); intro gb253 hg w18 hbox hb; have n0_ := Zd.mk (Zi (by repeat (first | (with_reducible first | exact HB.out | apply Zb | apply Za | apply Zc) | exact HB.out)) hb); have n1_ := Zd.mk (hbox); have n2_ := Zd.mk ((by rw [hg]; exact (Ze (by repeat (first | (with_reducible first | exact HB.out | apply Zb | apply Za | apply Zc) | exact HB.out))) : w.heap.size <= gb253)); have n3_ := Zd.mk ((by rw [hg]; exact (Ze (by repeat (first | (with_reducible first | exact HB.out | apply Zb | apply Za | apply Zc) | exact HB.out))) : w.heap.size <= gb253)); clear HB; have HB := n0_; have BK253 := n1_; have GW253 := n2_; have GE253 := n3_; clear n0_ n1_ n2_ n3_; clear hb hbox hg; have hcz19_0 : w18.cell? ⟨gb253, 0, none⟩ = some (.bool false) := (Zu BK253.out 0).trans rfl; have hcz19_1 : w18.cell? ⟨gb253, 1, none⟩ = some (.slice A0_1 l0_1.length c0_1) := (Zu BK253.out 1).trans rfl; have hfz19_0 := Zm BK253.out 0; have hfz19_1 := Zm BK253.out 1) | ((with_reducible refine Zr (f := 25) rfl ?_); refine goesL_ (some 9) rfl rfl Tryz.func25 (by kernel_rfl) rfl #[.slice A0_1 l0_1.length c0_1, .slice A1 l1.length c1] rfl (by (try simp only [List.map_toArray, List.map_cons, List.map_nil]); first | done | rfl | (simp only [List.length_drop, List.length_take]; rfl)) ?_; (with_reducible refine (spec_Mod.calls k _ _ l0_1 _ _ l1 t254 _ ?side1 ?side2 ?side3 ?side4 A3.out).mono ?_); (case side1 => repeat (first | exact (Kd.C_below HR0_1.out HB.out) | (with_reducible refine Kd.C_alloc ?_ _) | (with_reducible refine Kd.C_drewN ?_ _) | (with_reducible refine Kd.C_drew ?_))); (case side2 => exact HC0_1.out); (case side3 => repeat (first | exact (Kd.C_below HR1.out HB.out) | (with_reducible refine Kd.C_alloc ?_ _) | (with_reducible refine Kd.C_drewN ?_ _) | (with_reducible refine Kd.C_drew ?_))); (case side4 => exact HC1.out); rintro e w20 ⟨v255, rfl, ho0, hb⟩; refine ⟨_, rfl, ?_⟩; have n0_ := Zd.mk (Kd.V_lower (Kd.V_mono (ok' := fun k_ => (w.heap.size <= k_) /\ k_ ≠ gb253) ho0 (fun k_ hk_ => ⟨(Nat.le_trans (Ze (by repeat (first | (with_reducible first | exact HB.out | apply Zb | apply Za | apply Zc | refine Zk ?_ GE253.out) | exact HB.out))) hk_), (Kd.freshB (g := gb253) (o := .cells #[.bool false, .slice A0_1 l0_1.length c0_1] 32 (0, 0)) (by (with_reducible repeat (first | refine Zo ?_ _ | refine Zt ?_ | refine Zp ?_ _)); exact BK253.out) k_ hk_)⟩)) (Ze (by repeat (first | (with_reducible first | exact HB.out | apply Zb | apply Za | apply Zc | refine Zk ?_ GE253.out) | exact HB.out)))); have n1_ := Zd.mk (blk_below (g := gb253) (o := .cells #[.bool false, .slice A0_1 l0_1.length c0_1] 32 (0, 0)) (by (with_reducible repeat (first | refine Zo ?_ _ | refine Zt ?_ | refine Zp ?_ _)); exact BK253.out) hb); have n2_ := Zd.mk (Zi (by repeat (first | (with_reducible first | exact HB.out | apply Zb | apply Za | apply Zc | refine Zk ?_ GE253.out) | exact HB.out)) hb); clear BK253; clear HB; have HO256 := n0_; have BK253 := n1_; have HB := n2_; clear n0_ n1_ n2_; (try clear hb); (try clear hb2); (try clear hk); (try clear hi); (try clear ho0); have hcz21_0 : w20.cell? ⟨gb253, 0, none⟩ = some (.bool false) := (Zu BK253.out 0).trans rfl; have hcz21_1 : w20.cell? ⟨gb253, 1, none⟩ = some (.slice A0_1 l0_1.length c0_1) := (Zu BK253.out 1).trans rfl; have hfz21_0 := Zm BK253.out 0; have hfz21_1 := Zm BK253.out 1))
  go_ret
  exact ⟨_, by first | rfl | (simp [errW_none, errW_some] <;> rfl) | (simp [*, errW_none, errW_some] <;> rfl), by (with_reducible repeat (first | apply Kd.V_alloc | apply Kd.V_drewN | apply Kd.V_drew)); exact Kd.V_mono HO256.out (fun _ hk => hk.1), by repeat (first | (with_reducible first | exact HB.out | apply Zb | apply Za | apply Zc | refine Zk ?_ GE253.out) | exact HB.out)⟩
end Go.Proofs.YthkklkjldpcbkaaGreatDoor.PSpec
