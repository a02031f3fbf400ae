/- The reference's functions spec_Add, spec_Sub, spec_Cmp, spec_byDigit as Lean functions, each with the proof that Go comes to its answer: written for this claim by the kit's print program; these pieces of its texts stand here together. -/
import Derived.Test.YthkklkjldpcbkaaGreatDoorLiSpec0
import Derived.Test.YthkklkjldpcbkaaGreatDoorProg
import Derived.Below
import Derived.Deep.Draws
import Derived.Deep.AppendLies
import Derived.Maps.AppendAt
import Derived.OwnWalk
import Derived.Laws.BytesArg
import Derived.Laws.MakeOwn
import Derived.Laws.OwnMore
import Derived.Deep.OwnRows
import Derived.Tactics
import Derived.Lib.ConvBytes
import Derived.Laws.Slices
import Derived.WalkKit
import Derived.KernelRfl
import Derived.RowKit3
import Derived.Deep.LoopGhost
import Derived.Deep.QuietTactic
import Derived.BigQuiet
import Derived.WideLaws
import Derived.Deep.DeepCutAuto
import Derived.Deep.CutBlock
import Derived.Deep.RegionHeld3
import Derived.Laws.Rows
import Derived.Lib.AppendStr
import Derived.ArgAppend
import Derived.Laws.IdiomCopy
import Derived.OrdersHeld
import Derived.Laws.BitsLemmas
import Derived.RowKit
import Derived.Test.YthkklkjldpcbkaaGreatDoorLiWWords
import Derived.Test.YthkklkjldpcbkaaGreatDoorLiWLast
import Derived.Test.YthkklkjldpcbkaaGreatDoorLiWApart
import Derived.Test.YthkklkjldpcbkaaGreatDoorLiWFoot
import Derived.Test.YthkklkjldpcbkaaGreatDoorLiWKept
import Derived.Test.YthkklkjldpcbkaaGreatDoorLiWShare
import Derived.Laws.StructEq
import Derived.Test.YthkklkjldpcbkaaGreatDoorLiWRepsOne
import Derived.Test.YthkklkjldpcbkaaGreatDoorLiWGuard
import Derived.Test.YthkklkjldpcbkaaGreatDoorLiWMore
set_option maxHeartbeats 16000000
set_option maxRecDepth 1000000
namespace Go.Proofs.YthkklkjldpcbkaaGreatDoor.PSpec
open Go.RowKit Go.Proofs.YthkklkjldpcbkaaGreatDoorW.PrintWords Go.Proofs.YthkklkjldpcbkaaGreatDoorW.PrintLast Go.Proofs.YthkklkjldpcbkaaGreatDoorW.PrintMore
attribute [local go_sem] max2_int min2_int max_two min_two max_three min_three max_four min_four   -- for this text's walks alone
set_option linter.unusedVariables false
set_option linter.unusedSimpArgs false
mutual
def spec_Add.l0 : Nat -> List Int -> List Int -> List Int -> Int -> Int -> Option (List Int)
 | 0, _, _, _, _, _ => none
 | k + 1, x0, x1, x5, x6, x7 => if x7 < (x0.length : Int) then (spec_Add.j1 k x0 x1 x5 x6 x7 true) else (spec_Add.j1 k x0 x1 x5 x6 x7 (decide (x7 < (x1.length : Int))))
def spec_Add.j1 : Nat -> List Int -> List Int -> List Int -> Int -> Int -> Bool -> Option (List Int)
 | 0, _, _, _, _, _, _ => none
 | k + 1, x0, x1, x5, x6, x7, x18 => if x18 = true then (if x7 < (x0.length : Int) then (if 0 <= x7 then (if x7 < (x1.length : Int) then (if x5.length < 17592186044416 then (spec_Add.l0 k x0 x1 (x5 ++ [Int.tmod (wrap64 ((wrap64 (x6 + (rd x0 x7))) + (rd x1 x7))) 65536]) (wrap64 (Int.tdiv (wrap64 ((wrap64 (x6 + (rd x0 x7))) + (rd x1 x7))) 65536)) (wrap64 (x7 + 1))) else (none)) else (if x5.length < 17592186044416 then (spec_Add.l0 k x0 x1 (x5 ++ [Int.tmod (wrap64 (x6 + (rd x0 x7))) 65536]) (wrap64 (Int.tdiv (wrap64 (x6 + (rd x0 x7))) 65536)) (wrap64 (x7 + 1))) else (none))) else (none)) else (if x7 < (x1.length : Int) then (if 0 <= x7 then (if x5.length < 17592186044416 then (spec_Add.l0 k x0 x1 (x5 ++ [Int.tmod (wrap64 (x6 + (rd x1 x7))) 65536]) (wrap64 (Int.tdiv (wrap64 (x6 + (rd x1 x7))) 65536)) (wrap64 (x7 + 1))) else (none)) else (none)) else (if x5.length < 17592186044416 then (spec_Add.l0 k x0 x1 (x5 ++ [Int.tmod x6 65536]) (wrap64 (Int.tdiv x6 65536)) (wrap64 (x7 + 1))) else (none)))) else (if x5.length < 17592186044416 then ((spec_cut.f k (x5 ++ [x6])).bind fun t320 => (some t320)) else (none))
end
def spec_Add.f (k : Nat) (l0 : List Int) (l1 : List Int) : Option (List Int) := spec_Add.l0 k l0 l1 (([] : List Int)) 0 0
theorem spec_Add.mono_l : ∀ k, (∀ y0 y1 y2 y3 y4, LeO (spec_Add.l0 k y0 y1 y2 y3 y4) (spec_Add.l0 (k + 1) y0 y1 y2 y3 y4)) /\ (∀ y0 y1 y2 y3 y4 y5, LeO (spec_Add.j1 k y0 y1 y2 y3 y4 y5) (spec_Add.j1 (k + 1) y0 y1 y2 y3 y4 y5))
 | 0 => ⟨fun _ _ _ _ _ r h => by simp [spec_Add.l0] at h, fun _ _ _ _ _ _ r h => by simp [spec_Add.j1] at h⟩
 | k + 1 => by
  obtain ⟨ih0, ih1⟩ := spec_Add.mono_l k
  refine ⟨?_, ?_⟩
  .
   intro y0 y1 y2 y3 y4
   unfold spec_Add.l0
   repeat' first
   | (with_reducible exact ih0 _ _ _ _ _)
   | (with_reducible exact ih1 _ _ _ _ _ _)
   | (with_reducible exact spec_cut.mono _ _)
   | (with_reducible exact LeO.refl _)
   | (with_reducible exact LeO.none _)
   | (with_reducible refine LeO.ite ?_ ?_)
   | (with_reducible refine LeO.bind ?_ (fun _ => ?_))
   | exact ih0 _ _ _ _ _
   | exact ih1 _ _ _ _ _ _
   | exact spec_cut.mono _ _
   | exact LeO.none _
   | refine LeO.ite ?_ ?_
   | refine LeO.bind ?_ (fun _ => ?_)
  .
   intro y0 y1 y2 y3 y4 y5
   unfold spec_Add.j1
   repeat' first
   | (with_reducible exact ih0 _ _ _ _ _)
   | (with_reducible exact ih1 _ _ _ _ _ _)
   | (with_reducible exact spec_cut.mono _ _)
   | (with_reducible exact LeO.refl _)
   | (with_reducible exact LeO.none _)
   | (with_reducible refine LeO.ite ?_ ?_)
   | (with_reducible refine LeO.bind ?_ (fun _ => ?_))
   | exact ih0 _ _ _ _ _
   | exact ih1 _ _ _ _ _ _
   | exact spec_cut.mono _ _
   | exact LeO.none _
   | refine LeO.ite ?_ ?_
   | refine LeO.bind ?_ (fun _ => ?_)
theorem spec_Add.calls (k : Nat) (A0 : Option Addr) (c0 : Nat) (l0 : List Int) (A1 : Option Addr) (c1 : Nat) (l1 : List Int) (r : List Int) (w : World) (hr0 : Kd.C (Kd.int .i64) w A0 l0.length l0) (hc0 : l0.length <= c0) (hr1 : Kd.C (Kd.int .i64) w A1 l1.length l1) (hc1 : l1.length <= c1) (h : spec_Add.f k l0 l1 = some r) :
  Calls Tryz.prog 34 #[.slice A0 l0.length c0, .slice A1 l1.length c1] w fun e w' => ∃ v0_ : Value, e = .returned (v0_) /\ Kd.V (Kd.int .i64) 3 w' w.heap.size (fun k_ => (w.heap.size <= k_)) v0_ r /\ Below w.heap.size w w' := by
 have HR0 := Zd.mk hr0
 have HC0 := Zd.mk hc0
 clear hr0 hc0
 have HR1 := Zd.mk hr1
 have HC1 := Zd.mk hc1
 clear hr1 hc1
 have HB := Zd.mk (Below.refl w.heap.size w)
 have H : (spec_Add.l0 k l0 l1 (([] : List Int)) 0 0) = some r := h
 clear h
 obtain ⟨y314, hy314⟩ : ∃ y_ : List Int, y_ = (([] : List Int)) := ⟨_, rfl⟩
 replace H : (spec_Add.l0 k l0 l1 y314 0 0) = some r := by first | (rw [hy314]; with_reducible exact H) | (have H2_ := (Option.bind_some _ _).symm.trans H; rw [hy314]; with_reducible exact H2_) | (have H2_ := (Option.bind_some _ _).symm.trans H; with_reducible exact H2_) | with_reducible exact H | (rw [hy314]; exact H) | exact H
 have Ny314 := Zd.mk hy314
 clear hy314
 have H' := Zd.mk H
 clear H
 go_enter Tryz.func34, Tryz.ntmps34
 go_wp2_with (first | ((with_reducible refine gate_dst (N := 8) rfl ?_); (try (refine gate_guard (by rfl) ?_; dsimp only)); refine Kd.R_lit (Kd.int .i64) _ 3 ?hg (N := 8) ?hd (xs := ([] : List Int)) (inner := []) (ok := fun _ => True) (okp := fun _ => True) ?hr ?hp (fun _ hk => hk) trivial (Below.refl _ _) (Nat.le_refl _) (by simp) ?_; (case hd => rfl); (case hg => rfl); (case hr => first | (go_simp; done) | (go_simp; rfl)); (case hp => exact (Reps.none _ _)); intro v315 w3 ho4 hb hg_ hnew_; clear hg_ hnew_; (first | rw [<- Ny314.out] at ho4 | (simp only [Int.reduceToNat] at ho4; rw [<- Ny314.out] at ho4)); have n0_ := Zd.mk (Kd.R_lower (Kd.R_newM (M := fun k_ => (w.heap.size <= k_)) ho4 (Ze (by repeat (first | (with_reducible first | exact HB.out | apply Zb | apply Za | apply Zc) | exact HB.out))) (fun k_ h_ => h_)) (Ze (by repeat (first | (with_reducible first | exact HB.out | apply Zb | apply Za | apply Zc) | exact HB.out)))); have n1_ := Zd.mk (Zi (by repeat (first | (with_reducible first | exact HB.out | apply Zb | apply Za | apply Zc) | exact HB.out)) hb); clear HB; have HO316 := n0_; have HB := n1_; clear n0_ n1_; clear hb ho4))
 go_loopg [5, 6, 7] k (fun kq v5 v6 v7 w' => ∃ (x5_1 : List Int) (x6_1 : Int) (x7_1 : Int), v6 = .int .i64 x6_1 /\ v7 = .int .i64 x7_1 /\ Zd (spec_Add.l0 kq l0 l1 x5_1 x6_1 x7_1 = some r) /\ Zd (kq <= k) /\ Zd (Kd.R (Kd.int .i64) 3 w' w.heap.size (fun k_ => (w.heap.size <= k_)) v5 x5_1) /\ Zd (Below w.heap.size w w'))
 case atStart => exact ⟨(y314), (0), (0), (by first | rfl | (simp; done) | (simp [*]; done)), (by first | rfl | (simp; done) | (simp [*]; done)), H', ⟨Nat.le_refl _⟩, ⟨by (with_reducible repeat (first | apply Kd.R_alloc | apply Kd.R_drewN | apply Kd.R_drew)); exact Kd.R_mono HO316.out (fun _ hk => hk.1)⟩, ⟨by repeat (first | (with_reducible first | exact HB.out | apply Zb | apply Za | apply Zc) | exact HB.out)⟩⟩
 case round =>
  clear H'
  try clear c1
  try clear p2
  try clear c3
  obtain ⟨x5_1, x6_1, x7_1, rfl, rfl, HA, HK1, HO_5, HB⟩ := hrel
  cases gk with
  | zero => exact absurd HA.out (by simp [spec_Add.l0])
  | succ k1 =>
   have H := HA.out
   clear HA
   simp only [spec_Add.l0] at H
   have HC5 := Zd.mk H
   clear H
   go_upto_region 4 with (fail)
   go_cut [18] (fun v18 wc => ∃ (kq : Nat) (x18_4 : Bool), v18 = .bool x18_4 /\ Zd (spec_Add.j1 kq l0 l1 x5_1 x6_1 x7_1 x18_4 = some r) /\ Zd (kq <= k1) /\ Zd (Kd.R (Kd.int .i64) 3 wc w.heap.size (fun k_ => (w.heap.size <= k_)) u5 x5_1) /\ Zd (Below w.heap.size w wc))
   case first =>
    have H := HC5.out
    clear HC5
    by_cases c6 : x7_1 < (l0.length : Int)
    .
     rw [if_pos c6] at H
     have c6b0 : decide (x7_1 < (l0.length : Int)) = true := decide_eq_true c6
     clear c6
     (first | rw [c6b0] | (simp only [i64_w, i32_w]; rw [c6b0]) | skip)
     have H' := Zd.mk H
     clear H
     go_wp2
     go_meet
     case rel => exact ⟨_, (true), (by first | rfl | (simp; done) | (simp [*]; done)), H', ⟨by have := HK1.out; first | omega | exact Nat.le_refl _⟩, ⟨by (with_reducible repeat (first | apply Kd.R_alloc | apply Kd.R_drewN | apply Kd.R_drew)); exact HO_5.out⟩, ⟨by repeat (first | (with_reducible first | exact HB.out | apply Zb | apply Za | apply Zc) | exact HB.out)⟩⟩
    .
     rw [if_neg c6] at H
     have c6b0 : decide (x7_1 < (l0.length : Int)) = false := decide_eq_false c6
     clear c6
     (first | rw [c6b0] | (simp only [i64_w, i32_w]; rw [c6b0]) | skip)
     have H' := Zd.mk H
     clear H
     go_wp2
     go_meet
     case rel => exact ⟨_, (decide (x7_1 < (l1.length : Int))), (by first | rfl | (simp; done) | (simp [*]; done)), H', ⟨by have := HK1.out; first | omega | exact Nat.le_refl _⟩, ⟨by (with_reducible repeat (first | apply Kd.R_alloc | apply Kd.R_drewN | apply Kd.R_drew)); exact HO_5.out⟩, ⟨by repeat (first | (with_reducible first | exact HB.out | apply Zb | apply Za | apply Zc) | exact HB.out)⟩⟩
   case rest =>
    clear HC5
    try clear c1
    try clear p2
    try clear c3
    try clear c6
    try clear c6b0
    try clear p2
    obtain ⟨kq, x18_4, rfl, HA, HJ4, HO_5, HB⟩ := hcut
    cases kq with
    | zero => exact absurd HA.out (by simp [spec_Add.j1])
    | succ kj4 =>
     have H := HA.out
     clear HA
     simp only [spec_Add.j1] at H
     by_cases c7 : x18_4 = true
     .
      subst c7
      have H1 : (if x7_1 < (l0.length : Int) then (if 0 <= x7_1 then (if x7_1 < (l1.length : Int) then (if x5_1.length < 17592186044416 then (spec_Add.l0 kj4 l0 l1 (x5_1 ++ [Int.tmod (wrap64 ((wrap64 (x6_1 + (rd l0 x7_1))) + (rd l1 x7_1))) 65536]) (wrap64 (Int.tdiv (wrap64 ((wrap64 (x6_1 + (rd l0 x7_1))) + (rd l1 x7_1))) 65536)) (wrap64 (x7_1 + 1))) else (none)) else (if x5_1.length < 17592186044416 then (spec_Add.l0 kj4 l0 l1 (x5_1 ++ [Int.tmod (wrap64 (x6_1 + (rd l0 x7_1))) 65536]) (wrap64 (Int.tdiv (wrap64 (x6_1 + (rd l0 x7_1))) 65536)) (wrap64 (x7_1 + 1))) else (none))) else (none)) else (if x7_1 < (l1.length : Int) then (if 0 <= x7_1 then (if x5_1.length < 17592186044416 then (spec_Add.l0 kj4 l0 l1 (x5_1 ++ [Int.tmod (wrap64 (x6_1 + (rd l1 x7_1))) 65536]) (wrap64 (Int.tdiv (wrap64 (x6_1 + (rd l1 x7_1))) 65536)) (wrap64 (x7_1 + 1))) else (none)) else (none)) else (if x5_1.length < 17592186044416 then (spec_Add.l0 kj4 l0 l1 (x5_1 ++ [Int.tmod x6_1 65536]) (wrap64 (Int.tdiv x6_1 65536)) (wrap64 (x7_1 + 1))) else (none)))) = some r := by rw [if_pos rfl] at H; exact H
      clear H
      have H := H1
      clear H1
      by_cases c8 : x7_1 < (l0.length : Int)
      .
       rw [if_pos c8] at H
       have c8b0 : decide (x7_1 < (l0.length : Int)) = true := decide_eq_true c8
       clear c8
       by_cases c9 : 0 <= x7_1
       .
        rw [if_pos c9] at H
        have c9b0 : decide (0 <= x7_1) = true := decide_eq_true c9
        clear c9
        by_cases c10 : x7_1 < (l1.length : Int)
        .
         rw [if_pos c10] at H
         have c10b0 : decide (x7_1 < (l1.length : Int)) = true := decide_eq_true c10
         clear c10
         by_cases c11 : x5_1.length < 17592186044416
         .
          rw [if_pos c11] at H
          have LMc11 := Zd.mk c11
          clear c11
          obtain ⟨y325, hy325⟩ : ∃ y_ : List Int, y_ = (x5_1 ++ [Int.tmod (wrap64 ((wrap64 (x6_1 + (rd l0 x7_1))) + (rd l1 x7_1))) 65536]) := ⟨_, rfl⟩
          replace H : (spec_Add.l0 kj4 l0 l1 y325 (wrap64 (Int.tdiv (wrap64 ((wrap64 (x6_1 + (rd l0 x7_1))) + (rd l1 x7_1))) 65536)) (wrap64 (x7_1 + 1))) = some r := by first | (rw [hy325]; with_reducible exact H) | (have H2_ := (Option.bind_some _ _).symm.trans H; rw [hy325]; with_reducible exact H2_) | (have H2_ := (Option.bind_some _ _).symm.trans H; with_reducible exact H2_) | with_reducible exact H | (rw [hy325]; exact H) | exact H
          have Ny325 := Zd.mk hy325
          clear hy325
          have H' := Zd.mk H
          clear H
          have p323 : 0 <= (x7_1 : Int) := of_decide_eq_true (by first | (with_reducible assumption) | assumption)
          have q323 : x7_1 < (l0.length : Int) := of_decide_eq_true (by first | (with_reducible assumption) | assumption)
          obtain ⟨ad323, e323, hx323_0⟩ := Kd.at_int HR0.out x7_1 p323 q323
          cases e323
          replace hx323_0 := (HB.out.cell (World.block_lt_of_cell? w _ hx323_0)).trans hx323_0
          replace p323 := eq_true p323
          replace q323 := eq_true q323
          have p324 : 0 <= (x7_1 : Int) := of_decide_eq_true (by first | (with_reducible assumption) | assumption)
          have q324 : x7_1 < (l1.length : Int) := of_decide_eq_true (by first | (with_reducible assumption) | assumption)
          obtain ⟨ad324, e324, hx324_0⟩ := Kd.at_int HR1.out x7_1 p324 q324
          cases e324
          replace hx324_0 := (HB.out.cell (World.block_lt_of_cell? w _ hx324_0)).trans hx324_0
          replace p324 := eq_true p324
          replace q324 := eq_true q324
          go_wp2_with (first | ((with_reducible refine gate_builtin (b := .append) (xs := #[.tmp 41, .tmp 44]) rfl ?_); (try (refine gate_guard (by rfl) ?_; dsimp only)); at_builtin; refine Kd.R_append (Kd.int .i64) (w0 := w) w.heap.size rfl (.tmp 41) (.tmp 44) 30 3 (.int .i64 0) 8 rfl Tryz.underlying30 info3 rfl (by decide) (by omega) u5 x5_1 (Int.tmod (wrap64 ((wrap64 (x6_1 + (rd l0 x7_1))) + (rd l1 x7_1))) 65536) [.int .i64 (Int.tmod (wrap64 ((wrap64 (x6_1 + (rd l0 x7_1))) + (rd l1 x7_1))) 65536)] (fun k_ => (w.heap.size <= k_)) (fun _ => False) rfl rfl ?aP (fun _ hk => hk.elim) ?aF ?aO ?aB ?aS ?aL ?_; (case aP => exact rfl); (case aB => exact (by repeat (first | (with_reducible first | exact HB.out | apply Zb | apply Za | apply Zc) | exact HB.out))); (case aF => exact (fun k_ hk => (Nat.le_trans (Ze (by repeat (first | (with_reducible first | exact HB.out | apply Zb | apply Za | apply Zc) | exact HB.out))) hk))); (case aO => exact (by (with_reducible repeat (first | apply Kd.R_alloc | apply Kd.R_drewN | apply Kd.R_drew)); exact HO_5.out)); (case aS => exact (Ze (by repeat (first | (with_reducible first | exact HB.out | apply Zb | apply Za | apply Zc) | exact HB.out)))); (case aL => have := LMc11.out; omega); intro v326 w12 ho hb hg hat; rw [<- Ny325.out] at ho; have n0_ := Zd.mk (hb); have n1_ := Zd.mk (ho); clear HB; clear HO_5; have HB := n0_; have HO327 := n1_; clear n0_ n1_; clear ho hb hg hat))
          go_roundg kj4
          case measure => have := HK1.out; have := HJ4.out; omega
          case rel => exact ⟨(y325), (wrap64 (Int.tdiv (wrap64 ((wrap64 (x6_1 + (rd l0 x7_1))) + (rd l1 x7_1))) 65536)), (wrap64 (x7_1 + 1)), (by first | rfl | (simp; done) | (simp [*]; done)), (by first | rfl | (simp; done) | (simp [*]; done)), H', ⟨by have := HK1.out; have := HJ4.out; omega⟩, ⟨by (with_reducible repeat (first | apply Kd.R_alloc | apply Kd.R_drewN | apply Kd.R_drew)); exact HO327.out⟩, ⟨by repeat (first | (with_reducible first | exact HB.out | apply Zb | apply Za | apply Zc) | exact HB.out)⟩⟩
         .
          rw [if_neg c11] at H
          exact absurd H (by simp)
        .
         rw [if_neg c10] at H
         have c10b0 : decide (x7_1 < (l1.length : Int)) = false := decide_eq_false c10
         clear c10
         by_cases c13 : x5_1.length < 17592186044416
         .
          rw [if_pos c13] at H
          have LMc13 := Zd.mk c13
          clear c13
          obtain ⟨y328, hy328⟩ : ∃ y_ : List Int, y_ = (x5_1 ++ [Int.tmod (wrap64 (x6_1 + (rd l0 x7_1))) 65536]) := ⟨_, rfl⟩
          replace H : (spec_Add.l0 kj4 l0 l1 y328 (wrap64 (Int.tdiv (wrap64 (x6_1 + (rd l0 x7_1))) 65536)) (wrap64 (x7_1 + 1))) = some r := by first | (rw [hy328]; with_reducible exact H) | (have H2_ := (Option.bind_some _ _).symm.trans H; rw [hy328]; with_reducible exact H2_) | (have H2_ := (Option.bind_some _ _).symm.trans H; with_reducible exact H2_) | with_reducible exact H | (rw [hy328]; exact H) | exact H
          have Ny328 := Zd.mk hy328
          clear hy328
          have H' := Zd.mk H
          clear H
          have p323 : 0 <= (x7_1 : Int) := of_decide_eq_true (by first | (with_reducible assumption) | assumption)
          have q323 : x7_1 < (l0.length : Int) := of_decide_eq_true (by first | (with_reducible assumption) | assumption)
          obtain ⟨ad323, e323, hx323_0⟩ := Kd.at_int HR0.out x7_1 p323 q323
          cases e323
          replace hx323_0 := (HB.out.cell (World.block_lt_of_cell? w _ hx323_0)).trans hx323_0
          replace p323 := eq_true p323
          replace q323 := eq_true q323
          go_wp2_with (first | ((with_reducible refine gate_builtin (b := .append) (xs := #[.tmp 41, .tmp 44]) rfl ?_); (try (refine gate_guard (by rfl) ?_; dsimp only)); at_builtin; refine Kd.R_append (Kd.int .i64) (w0 := w) w.heap.size rfl (.tmp 41) (.tmp 44) 30 3 (.int .i64 0) 8 rfl Tryz.underlying30 info3 rfl (by decide) (by omega) u5 x5_1 (Int.tmod (wrap64 (x6_1 + (rd l0 x7_1))) 65536) [.int .i64 (Int.tmod (wrap64 (x6_1 + (rd l0 x7_1))) 65536)] (fun k_ => (w.heap.size <= k_)) (fun _ => False) rfl rfl ?aP (fun _ hk => hk.elim) ?aF ?aO ?aB ?aS ?aL ?_; (case aP => exact rfl); (case aB => exact (by repeat (first | (with_reducible first | exact HB.out | apply Zb | apply Za | apply Zc) | exact HB.out))); (case aF => exact (fun k_ hk => (Nat.le_trans (Ze (by repeat (first | (with_reducible first | exact HB.out | apply Zb | apply Za | apply Zc) | exact HB.out))) hk))); (case aO => exact (by (with_reducible repeat (first | apply Kd.R_alloc | apply Kd.R_drewN | apply Kd.R_drew)); exact HO_5.out)); (case aS => exact (Ze (by repeat (first | (with_reducible first | exact HB.out | apply Zb | apply Za | apply Zc) | exact HB.out)))); (case aL => have := LMc13.out; omega); intro v329 w14 ho hb hg hat; rw [<- Ny328.out] at ho; have n0_ := Zd.mk (hb); have n1_ := Zd.mk (ho); clear HB; clear HO_5; have HB := n0_; have HO330 := n1_; clear n0_ n1_; clear ho hb hg hat))
          go_roundg kj4
          case measure => have := HK1.out; have := HJ4.out; omega
          case rel => exact ⟨(y328), (wrap64 (Int.tdiv (wrap64 (x6_1 + (rd l0 x7_1))) 65536)), (wrap64 (x7_1 + 1)), (by first | rfl | (simp; done) | (simp [*]; done)), (by first | rfl | (simp; done) | (simp [*]; done)), H', ⟨by have := HK1.out; have := HJ4.out; omega⟩, ⟨by (with_reducible repeat (first | apply Kd.R_alloc | apply Kd.R_drewN | apply Kd.R_drew)); exact HO330.out⟩, ⟨by repeat (first | (with_reducible first | exact HB.out | apply Zb | apply Za | apply Zc) | exact HB.out)⟩⟩
         .
          rw [if_neg c13] at H
          exact absurd H (by simp)
       .
        rw [if_neg c9] at H
        exact absurd H (by simp)
      .
       rw [if_neg c8] at H
       have c8b0 : decide (x7_1 < (l0.length : Int)) = false := decide_eq_false c8
       clear c8
       by_cases c15 : x7_1 < (l1.length : Int)
       .
        rw [if_pos c15] at H
        have c15b0 : decide (x7_1 < (l1.length : Int)) = true := decide_eq_true c15
        clear c15
        by_cases c16 : 0 <= x7_1
        .
         rw [if_pos c16] at H
         have c16b0 : decide (0 <= x7_1) = true := decide_eq_true c16
         clear c16
         by_cases c17 : x5_1.length < 17592186044416
         .
          rw [if_pos c17] at H
          have LMc17 := Zd.mk c17
          clear c17
          obtain ⟨y332, hy332⟩ : ∃ y_ : List Int, y_ = (x5_1 ++ [Int.tmod (wrap64 (x6_1 + (rd l1 x7_1))) 65536]) := ⟨_, rfl⟩
          replace H : (spec_Add.l0 kj4 l0 l1 y332 (wrap64 (Int.tdiv (wrap64 (x6_1 + (rd l1 x7_1))) 65536)) (wrap64 (x7_1 + 1))) = some r := by first | (rw [hy332]; with_reducible exact H) | (have H2_ := (Option.bind_some _ _).symm.trans H; rw [hy332]; with_reducible exact H2_) | (have H2_ := (Option.bind_some _ _).symm.trans H; with_reducible exact H2_) | with_reducible exact H | (rw [hy332]; exact H) | exact H
          have Ny332 := Zd.mk hy332
          clear hy332
          have H' := Zd.mk H
          clear H
          have p331 : 0 <= (x7_1 : Int) := of_decide_eq_true (by first | (with_reducible assumption) | assumption)
          have q331 : x7_1 < (l1.length : Int) := of_decide_eq_true (by first | (with_reducible assumption) | assumption)
          obtain ⟨ad331, e331, hx331_0⟩ := Kd.at_int HR1.out x7_1 p331 q331
          cases e331
          replace hx331_0 := (HB.out.cell (World.block_lt_of_cell? w _ hx331_0)).trans hx331_0
          replace p331 := eq_true p331
          replace q331 := eq_true q331
          go_wp2_with (first | ((with_reducible refine gate_builtin (b := .append) (xs := #[.tmp 41, .tmp 44]) rfl ?_); (try (refine gate_guard (by rfl) ?_; dsimp only)); at_builtin; refine Kd.R_append (Kd.int .i64) (w0 := w) w.heap.size rfl (.tmp 41) (.tmp 44) 30 3 (.int .i64 0) 8 rfl Tryz.underlying30 info3 rfl (by decide) (by omega) u5 x5_1 (Int.tmod (wrap64 (x6_1 + (rd l1 x7_1))) 65536) [.int .i64 (Int.tmod (wrap64 (x6_1 + (rd l1 x7_1))) 65536)] (fun k_ => (w.heap.size <= k_)) (fun _ => False) rfl rfl ?aP (fun _ hk => hk.elim) ?aF ?aO ?aB ?aS ?aL ?_; (case aP => exact rfl); (case aB => exact (by repeat (first | (with_reducible first | exact HB.out | apply Zb | apply Za | apply Zc) | exact HB.out))); (case aF => exact (fun k_ hk => (Nat.le_trans (Ze (by repeat (first | (with_reducible first | exact HB.out | apply Zb | apply Za | apply Zc) | exact HB.out))) hk))); (case aO => exact (by (with_reducible repeat (first | apply Kd.R_alloc | apply Kd.R_drewN | apply Kd.R_drew)); exact HO_5.out)); (case aS => exact (Ze (by repeat (first | (with_reducible first | exact HB.out | apply Zb | apply Za | apply Zc) | exact HB.out)))); (case aL => have := LMc17.out; omega); intro v333 w18 ho hb hg hat; rw [<- Ny332.out] at ho; have n0_ := Zd.mk (hb); have n1_ := Zd.mk (ho); clear HB; clear HO_5; have HB := n0_; have HO334 := n1_; clear n0_ n1_; clear ho hb hg hat))
          go_roundg kj4
          case measure => have := HK1.out; have := HJ4.out; omega
          case rel => exact ⟨(y332), (wrap64 (Int.tdiv (wrap64 (x6_1 + (rd l1 x7_1))) 65536)), (wrap64 (x7_1 + 1)), (by first | rfl | (simp; done) | (simp [*]; done)), (by first | rfl | (simp; done) | (simp [*]; done)), H', ⟨by have := HK1.out; have := HJ4.out; omega⟩, ⟨by (with_reducible repeat (first | apply Kd.R_alloc | apply Kd.R_drewN | apply Kd.R_drew)); exact HO334.out⟩, ⟨by repeat (first | (with_reducible first | exact HB.out | apply Zb | apply Za | apply Zc) | exact HB.out)⟩⟩
         .
          rw [if_neg c17] at H
          exact absurd H (by simp)
        .
         rw [if_neg c16] at H
         exact absurd H (by simp)
       .
        rw [if_neg c15] at H
        have c15b0 : decide (x7_1 < (l1.length : Int)) = false := decide_eq_false c15
        clear c15
        by_cases c19 : x5_1.length < 17592186044416
        .
         rw [if_pos c19] at H
         have LMc19 := Zd.mk c19
         clear c19
         obtain ⟨y335, hy335⟩ : ∃ y_ : List Int, y_ = (x5_1 ++ [Int.tmod x6_1 65536]) := ⟨_, rfl⟩
         replace H : (spec_Add.l0 kj4 l0 l1 y335 (wrap64 (Int.tdiv x6_1 65536)) (wrap64 (x7_1 + 1))) = some r := by first | (rw [hy335]; with_reducible exact H) | (have H2_ := (Option.bind_some _ _).symm.trans H; rw [hy335]; with_reducible exact H2_) | (have H2_ := (Option.bind_some _ _).symm.trans H; with_reducible exact H2_) | with_reducible exact H | (rw [hy335]; exact H) | exact H
         have Ny335 := Zd.mk hy335
         clear hy335
         have H' := Zd.mk H
         clear H
         go_wp2_with (first | ((with_reducible refine gate_builtin (b := .append) (xs := #[.tmp 41, .tmp 44]) rfl ?_); (try (refine gate_guard (by rfl) ?_; dsimp only)); at_builtin; refine Kd.R_append (Kd.int .i64) (w0 := w) w.heap.size rfl (.tmp 41) (.tmp 44) 30 3 (.int .i64 0) 8 rfl Tryz.underlying30 info3 rfl (by decide) (by omega) u5 x5_1 (Int.tmod x6_1 65536) [.int .i64 (Int.tmod x6_1 65536)] (fun k_ => (w.heap.size <= k_)) (fun _ => False) rfl rfl ?aP (fun _ hk => hk.elim) ?aF ?aO ?aB ?aS ?aL ?_; (case aP => exact rfl); (case aB => exact (by repeat (first | (with_reducible first | exact HB.out | apply Zb | apply Za | apply Zc) | exact HB.out))); (case aF => exact (fun k_ hk => (Nat.le_trans (Ze (by repeat (first | (with_reducible first | exact HB.out | apply Zb | apply Za | apply Zc) | exact HB.out))) hk))); (case aO => exact (by (with_reducible repeat (first | apply Kd.R_alloc | apply Kd.R_drewN | apply Kd.R_drew)); exact HO_5.out)); (case aS => exact (Ze (by repeat (first | (with_reducible first | exact HB.out | apply Zb | apply Za | apply Zc) | exact HB.out)))); (case aL => have := LMc19.out; omega); intro v336 w20 ho hb hg hat; rw [<- Ny335.out] at ho; have n0_ := Zd.mk (hb); have n1_ := Zd.mk (ho); clear HB; clear HO_5; have HB := n0_; have HO337 := n1_; clear n0_ n1_; clear ho hb hg hat))
         go_roundg kj4
         case measure => have := HK1.out; have := HJ4.out; omega
         case rel => exact ⟨(y335), (wrap64 (Int.tdiv x6_1 65536)), (wrap64 (x7_1 + 1)), (by first | rfl | (simp; done) | (simp [*]; done)), (by first | rfl | (simp; done) | (simp [*]; done)), H', ⟨by have := HK1.out; have := HJ4.out; omega⟩, ⟨by (with_reducible repeat (first | apply Kd.R_alloc | apply Kd.R_drewN | apply Kd.R_drew)); exact HO337.out⟩, ⟨by repeat (first | (with_reducible first | exact HB.out | apply Zb | apply Za | apply Zc) | exact HB.out)⟩⟩
        .
         rw [if_neg c19] at H
         exact absurd H (by simp)
     .
      replace c7 := Bool.eq_false_iff.mpr c7
      subst c7
      have H1 : (if x5_1.length < 17592186044416 then ((spec_cut.f kj4 (x5_1 ++ [x6_1])).bind fun t320 => (some t320)) else (none)) = some r := by rw [if_neg (show ¬ (false = true) by decide)] at H; exact H
      clear H
      have H := H1
      clear H1
      by_cases c21 : x5_1.length < 17592186044416
      .
       rw [if_pos c21] at H
       have LMc21 := Zd.mk c21
       clear c21
       obtain ⟨y317, hy317⟩ : ∃ y_ : List Int, y_ = (x5_1 ++ [x6_1]) := ⟨_, rfl⟩
       replace H : ((spec_cut.f kj4 y317).bind fun t320 => (some t320)) = some r := by first | (rw [hy317]; with_reducible exact H) | (have H2_ := (Option.bind_some _ _).symm.trans H; rw [hy317]; with_reducible exact H2_) | (have H2_ := (Option.bind_some _ _).symm.trans H; with_reducible exact H2_) | with_reducible exact H | (rw [hy317]; exact H) | exact H
       have Ny317 := Zd.mk hy317
       clear hy317
       replace H := Option.bind_eq_some_iff.mp H
       obtain ⟨t320, A220, H⟩ := H
       replace H : (some t320) = some r := H
       have A22 := Zd.mk A220
       clear A220
       obtain rfl := Option.some.inj H
       go_wp2_with (first | ((with_reducible refine gate_builtin (b := .append) (xs := #[.tmp 48, .tmp 50]) rfl ?_); (try (refine gate_guard (by rfl) ?_; dsimp only)); at_builtin; refine Kd.R_append (Kd.int .i64) (w0 := w) w.heap.size rfl (.tmp 48) (.tmp 50) 30 3 (.int .i64 0) 8 rfl Tryz.underlying30 info3 rfl (by decide) (by omega) u5 x5_1 x6_1 [.int .i64 x6_1] (fun k_ => (w.heap.size <= k_)) (fun _ => False) rfl rfl ?aP (fun _ hk => hk.elim) ?aF ?aO ?aB ?aS ?aL ?_; (case aP => exact rfl); (case aB => exact (by repeat (first | (with_reducible first | exact HB.out | apply Zb | apply Za | apply Zc) | exact HB.out))); (case aF => exact (fun k_ hk => (Nat.le_trans (Ze (by repeat (first | (with_reducible first | exact HB.out | apply Zb | apply Za | apply Zc) | exact HB.out))) hk))); (case aO => exact (by (with_reducible repeat (first | apply Kd.R_alloc | apply Kd.R_drewN | apply Kd.R_drew)); exact HO_5.out)); (case aS => exact (Ze (by repeat (first | (with_reducible first | exact HB.out | apply Zb | apply Za | apply Zc) | exact HB.out)))); (case aL => have := LMc21.out; omega); intro v318 w23 ho hb hg hat; rw [<- Ny317.out] at ho; have n0_ := Zd.mk (hb); have n1_ := Zd.mk (ho); clear HB; clear HO_5; have HB := n0_; have HO319 := n1_; clear n0_ n1_; clear ho hb hg hat; obtain ⟨Ao24, co24, eo24⟩ := Kd.R_slice HO319.out; subst eo24) | ((with_reducible refine Zr (f := 56) rfl ?_); refine goesL_ (some 52) rfl rfl Tryz.func56 (by kernel_rfl) rfl #[.slice Ao24 y317.length co24] rfl (by (try simp only [List.map_toArray, List.map_cons, List.map_nil]); first | done | rfl | (simp only [List.length_drop, List.length_take]; rfl)) ?_; (with_reducible refine (spec_cut.calls kj4 (fun k_ => some k_ = (.slice Ao24 y317.length co24 : Value).ownBlock) _ _ y317 t320 _ ?side1 A22.out).mono ?_); (case side1 => exact Kd.R_V (Kd.R_tight rfl (HO319.out))); rintro e w25 ⟨v321, rfl, ho0, hb⟩; refine ⟨_, rfl, ?_⟩; have n0_ := Zd.mk (Kd.R_below (by (with_reducible repeat (first | apply Kd.R_alloc | apply Kd.R_drewN | apply Kd.R_drew)); exact HO319.out) hb); have n1_ := Zd.mk (Kd.V_lower (Kd.V_mono (ok' := fun k_ => (w.heap.size <= k_)) ho0 (fun k_ hk_ => Or.elim hk_ (fun hs_ => ((HO319.out).1 k_ hs_.symm)) (fun hn_ => (Nat.le_trans (Ze (by repeat (first | (with_reducible first | exact HB.out | apply Zb | apply Za | apply Zc) | exact HB.out))) hn_)))) (Ze (by repeat (first | (with_reducible first | exact HB.out | apply Zb | apply Za | apply Zc) | exact HB.out)))); have n2_ := Zd.mk (Zi (by repeat (first | (with_reducible first | exact HB.out | apply Zb | apply Za | apply Zc) | exact HB.out)) hb); clear HO319; clear HB; have HO319 := n0_; have HO322 := n1_; have HB := n2_; clear n0_ n1_ n2_; (try clear hb); (try clear hb2); (try clear hk); (try clear hi); (try clear ho0)))
       go_ret
       exact ⟨_, by first | rfl | (simp [errW_none, errW_some] <;> rfl) | (simp [*, errW_none, errW_some] <;> rfl), by (with_reducible repeat (first | apply Kd.V_alloc | apply Kd.V_drewN | apply Kd.V_drew)); exact HO322.out, by repeat (first | (with_reducible first | exact HB.out | apply Zb | apply Za | apply Zc) | exact HB.out)⟩
      .
       rw [if_neg c21] at H
       exact absurd H (by simp)
def spec_Sub.l0 : Nat -> List Int -> List Int -> List Int -> Int -> Int -> Int -> Option (List Int)
 | 0, _, _, _, _, _, _ => none
 | k + 1, x0, x1, x5, x6, x11, x12 => if x12 < x11 then (if 0 <= x12 then (if x12 < (x0.length : Int) then (if x12 < (x1.length : Int) then (if (wrap64 ((wrap64 ((rd x0 x12) - x6)) - (rd x1 x12))) < 0 then (if x5.length < 17592186044416 then (spec_Sub.l0 k x0 x1 (x5 ++ [wrap64 ((wrap64 ((wrap64 ((rd x0 x12) - x6)) - (rd x1 x12))) + 65536)]) 1 x11 (wrap64 (x12 + 1))) else (none)) else (if x5.length < 17592186044416 then (spec_Sub.l0 k x0 x1 (x5 ++ [wrap64 ((wrap64 ((rd x0 x12) - x6)) - (rd x1 x12))]) 0 x11 (wrap64 (x12 + 1))) else (none))) else (if (wrap64 ((rd x0 x12) - x6)) < 0 then (if x5.length < 17592186044416 then (spec_Sub.l0 k x0 x1 (x5 ++ [wrap64 ((wrap64 ((rd x0 x12) - x6)) + 65536)]) 1 x11 (wrap64 (x12 + 1))) else (none)) else (if x5.length < 17592186044416 then (spec_Sub.l0 k x0 x1 (x5 ++ [wrap64 ((rd x0 x12) - x6)]) 0 x11 (wrap64 (x12 + 1))) else (none)))) else (none)) else (none)) else ((spec_cut.f k x5).bind fun t208 => (some t208))
def spec_Sub.f (k : Nat) (l0 : List Int) (l1 : List Int) : Option (List Int) := spec_Sub.l0 k l0 l1 (([] : List Int)) 0 (l0.length : Int) 0
theorem spec_Sub.mono_l : ∀ k, (∀ y0 y1 y2 y3 y4 y5, LeO (spec_Sub.l0 k y0 y1 y2 y3 y4 y5) (spec_Sub.l0 (k + 1) y0 y1 y2 y3 y4 y5))
 | 0 => fun _ _ _ _ _ _ r h => by simp [spec_Sub.l0] at h
 | k + 1 => by
  have ih0 := spec_Sub.mono_l k
  .
   intro y0 y1 y2 y3 y4 y5
   unfold spec_Sub.l0
   repeat' first
   | (with_reducible exact ih0 _ _ _ _ _ _)
   | (with_reducible exact spec_cut.mono _ _)
   | (with_reducible exact LeO.refl _)
   | (with_reducible exact LeO.none _)
   | (with_reducible refine LeO.ite ?_ ?_)
   | (with_reducible refine LeO.bind ?_ (fun _ => ?_))
   | exact ih0 _ _ _ _ _ _
   | exact spec_cut.mono _ _
   | exact LeO.none _
   | refine LeO.ite ?_ ?_
   | refine LeO.bind ?_ (fun _ => ?_)
theorem spec_Sub.mono : ∀ a0 a1 k, LeO (spec_Sub.f k a0 a1) (spec_Sub.f (k + 1) a0 a1) := by
 intro a0 a1 k
 have ih0 := spec_Sub.mono_l k
 unfold spec_Sub.f
 repeat' first
   | (with_reducible exact ih0 _ _ _ _ _ _)
   | (with_reducible exact spec_cut.mono _ _)
   | (with_reducible exact LeO.refl _)
   | (with_reducible exact LeO.none _)
   | (with_reducible refine LeO.ite ?_ ?_)
   | (with_reducible refine LeO.bind ?_ (fun _ => ?_))
   | exact ih0 _ _ _ _ _ _
   | exact spec_cut.mono _ _
   | exact LeO.none _
   | refine LeO.ite ?_ ?_
   | refine LeO.bind ?_ (fun _ => ?_)
theorem spec_Sub.calls (k : Nat) (A0 : Option Addr) (c0 : Nat) (l0 : List Int) (A1 : Option Addr) (c1 : Nat) (l1 : List Int) (r : List Int) (w : World) (hr0 : Kd.C (Kd.int .i64) w A0 l0.length l0) (hc0 : l0.length <= c0) (hr1 : Kd.C (Kd.int .i64) w A1 l1.length l1) (hc1 : l1.length <= c1) (h : spec_Sub.f k l0 l1 = some r) :
  Calls Tryz.prog 35 #[.slice A0 l0.length c0, .slice A1 l1.length c1] w fun e w' => ∃ v0_ : Value, e = .returned (v0_) /\ Kd.V (Kd.int .i64) 3 w' w.heap.size (fun k_ => (w.heap.size <= k_)) v0_ r /\ Below w.heap.size w w' := by
 have HR0 := Zd.mk hr0
 have HC0 := Zd.mk hc0
 clear hr0 hc0
 have HR1 := Zd.mk hr1
 have HC1 := Zd.mk hc1
 clear hr1 hc1
 have HB := Zd.mk (Below.refl w.heap.size w)
 have H : (spec_Sub.l0 k l0 l1 (([] : List Int)) 0 (l0.length : Int) 0) = some r := h
 clear h
 obtain ⟨y205, hy205⟩ : ∃ y_ : List Int, y_ = (([] : List Int)) := ⟨_, rfl⟩
 replace H : (spec_Sub.l0 k l0 l1 y205 0 (l0.length : Int) 0) = some r := by first | (rw [hy205]; with_reducible exact H) | (have H2_ := (Option.bind_some _ _).symm.trans H; rw [hy205]; with_reducible exact H2_) | (have H2_ := (Option.bind_some _ _).symm.trans H; with_reducible exact H2_) | with_reducible exact H | (rw [hy205]; exact H) | exact H
 have Ny205 := Zd.mk hy205
 clear hy205
 have H' := Zd.mk H
 clear H
 go_enter Tryz.func35, Tryz.ntmps35
 go_wp2_with (first | ((with_reducible refine gate_dst (N := 9) rfl ?_); refine Kd.R_lit (Kd.int .i64) _ 3 ?hg (N := 9) ?hd (xs := ([] : List Int)) (inner := []) (ok := fun _ => True) (okp := fun _ => True) ?hr ?hp (fun _ hk => hk) trivial (Below.refl _ _) (Nat.le_refl _) (by simp) ?_; (case hd => rfl); (case hg => rfl); (case hr => first | (go_simp; done) | (go_simp; rfl)); (case hp => exact (Reps.none _ _)); intro v206 w3 ho4 hb hg_ hnew_; clear hg_ hnew_; (first | rw [<- Ny205.out] at ho4 | (simp only [Int.reduceToNat] at ho4; rw [<- Ny205.out] at ho4)); have n0_ := Zd.mk (Kd.R_lower (Kd.R_newM (M := fun k_ => (w.heap.size <= k_)) ho4 (Ze (by repeat (first | (with_reducible first | exact HB.out | apply Zb | apply Za | apply Zc) | exact HB.out))) (fun k_ h_ => h_)) (Ze (by repeat (first | (with_reducible first | exact HB.out | apply Zb | apply Za | apply Zc) | exact HB.out)))); have n1_ := Zd.mk (Zi (by repeat (first | (with_reducible first | exact HB.out | apply Zb | apply Za | apply Zc) | exact HB.out)) hb); clear HB; have HO207 := n0_; have HB := n1_; clear n0_ n1_; clear hb ho4))
 go_loopg [5, 6, 12] k (fun kq v5 v6 v12 w' => ∃ (x5_1 : List Int) (x6_1 : Int) (x12_1 : Int), v6 = .int .i64 x6_1 /\ v12 = .int .i64 x12_1 /\ Zd (spec_Sub.l0 kq l0 l1 x5_1 x6_1 (l0.length : Int) x12_1 = some r) /\ Zd (kq <= k) /\ Zd (Kd.R (Kd.int .i64) 3 w' w.heap.size (fun k_ => (w.heap.size <= k_)) v5 x5_1) /\ Zd (Below w.heap.size w w'))
 case atStart => exact ⟨(y205), (0), (0), (by first | rfl | (simp; done) | (simp [*]; done)), (by first | rfl | (simp; done) | (simp [*]; done)), H', ⟨Nat.le_refl _⟩, ⟨by (with_reducible repeat (first | apply Kd.R_alloc | apply Kd.R_drewN | apply Kd.R_drew)); exact Kd.R_mono HO207.out (fun _ hk => hk.1)⟩, ⟨by repeat (first | (with_reducible first | exact HB.out | apply Zb | apply Za | apply Zc) | exact HB.out)⟩⟩
 case round =>
  clear H'
  try clear c1
  try clear p2
  try clear c3
  obtain ⟨x5_1, x6_1, x12_1, rfl, rfl, HA, HK1, HO_5, HB⟩ := hrel
  cases gk with
  | zero => exact absurd HA.out (by simp [spec_Sub.l0])
  | succ k1 =>
   have H := HA.out
   clear HA
   simp only [spec_Sub.l0] at H
   by_cases c5 : x12_1 < (l0.length : Int)
   .
    rw [if_pos c5] at H
    have c5b0 : decide (x12_1 < (l0.length : Int)) = true := decide_eq_true c5
    clear c5
    by_cases c6 : 0 <= x12_1
    .
     rw [if_pos c6] at H
     have c6b0 : decide (0 <= x12_1) = true := decide_eq_true c6
     clear c6
     by_cases c7 : x12_1 < (l0.length : Int)
     .
      rw [if_pos c7] at H
      have c7b0 : decide (x12_1 < (l0.length : Int)) = true := decide_eq_true c7
      clear c7
      by_cases c8 : x12_1 < (l1.length : Int)
      .
       rw [if_pos c8] at H
       have c8b0 : decide (x12_1 < (l1.length : Int)) = true := decide_eq_true c8
       clear c8
       by_cases c9 : (wrap64 ((wrap64 ((rd l0 x12_1) - x6_1)) - (rd l1 x12_1))) < 0
       .
        rw [if_pos c9] at H
        have c9b0 : decide ((wrap64 ((wrap64 ((rd l0 x12_1) - x6_1)) - (rd l1 x12_1))) < 0) = true := decide_eq_true c9
        clear c9
        by_cases c10 : x5_1.length < 17592186044416
        .
         rw [if_pos c10] at H
         have LMc10 := Zd.mk c10
         clear c10
         obtain ⟨y213, hy213⟩ : ∃ y_ : List Int, y_ = (x5_1 ++ [wrap64 ((wrap64 ((wrap64 ((rd l0 x12_1) - x6_1)) - (rd l1 x12_1))) + 65536)]) := ⟨_, rfl⟩
         replace H : (spec_Sub.l0 k1 l0 l1 y213 1 (l0.length : Int) (wrap64 (x12_1 + 1))) = some r := by first | (rw [hy213]; with_reducible exact H) | (have H2_ := (Option.bind_some _ _).symm.trans H; rw [hy213]; with_reducible exact H2_) | (have H2_ := (Option.bind_some _ _).symm.trans H; with_reducible exact H2_) | with_reducible exact H | (rw [hy213]; exact H) | exact H
         have Ny213 := Zd.mk hy213
         clear hy213
         have H' := Zd.mk H
         clear H
         have p211 : 0 <= (x12_1 : Int) := of_decide_eq_true (by first | (with_reducible assumption) | assumption)
         have q211 : x12_1 < (l0.length : Int) := of_decide_eq_true (by first | (with_reducible assumption) | assumption)
         obtain ⟨ad211, e211, hx211_0⟩ := Kd.at_int HR0.out x12_1 p211 q211
         cases e211
         replace hx211_0 := (HB.out.cell (World.block_lt_of_cell? w _ hx211_0)).trans hx211_0
         replace p211 := eq_true p211
         replace q211 := eq_true q211
         have p212 : 0 <= (x12_1 : Int) := of_decide_eq_true (by first | (with_reducible assumption) | assumption)
         have q212 : x12_1 < (l1.length : Int) := of_decide_eq_true (by first | (with_reducible assumption) | assumption)
         obtain ⟨ad212, e212, hx212_0⟩ := Kd.at_int HR1.out x12_1 p212 q212
         cases e212
         replace hx212_0 := (HB.out.cell (World.block_lt_of_cell? w _ hx212_0)).trans hx212_0
         replace p212 := eq_true p212
         replace q212 := eq_true q212
         go_wp2_with (first | ((with_reducible refine gate_builtin (b := .append) (xs := #[.tmp 35, .tmp 37]) rfl ?_); at_builtin; refine Kd.R_append (Kd.int .i64) (w0 := w) w.heap.size rfl (.tmp 35) (.tmp 37) 30 3 (.int .i64 0) 8 rfl Tryz.underlying30 info3 rfl (by decide) (by omega) u5 x5_1 (wrap64 ((wrap64 ((wrap64 ((rd l0 x12_1) - x6_1)) - (rd l1 x12_1))) + 65536)) [.int .i64 (wrap64 ((wrap64 ((wrap64 ((rd l0 x12_1) - x6_1)) - (rd l1 x12_1))) + 65536))] (fun k_ => (w.heap.size <= k_)) (fun _ => False) rfl rfl ?aP (fun _ hk => hk.elim) ?aF ?aO ?aB ?aS ?aL ?_; (case aP => exact rfl); (case aB => exact (by repeat (first | (with_reducible first | exact HB.out | apply Zb | apply Za | apply Zc) | exact HB.out))); (case aF => exact (fun k_ hk => (Nat.le_trans (Ze (by repeat (first | (with_reducible first | exact HB.out | apply Zb | apply Za | apply Zc) | exact HB.out))) hk))); (case aO => exact (by (with_reducible repeat (first | apply Kd.R_alloc | apply Kd.R_drewN | apply Kd.R_drew)); exact HO_5.out)); (case aS => exact (Ze (by repeat (first | (with_reducible first | exact HB.out | apply Zb | apply Za | apply Zc) | exact HB.out)))); (case aL => have := LMc10.out; omega); intro v214 w11 ho hb hg hat; rw [<- Ny213.out] at ho; have n0_ := Zd.mk (hb); have n1_ := Zd.mk (ho); clear HB; clear HO_5; have HB := n0_; have HO215 := n1_; clear n0_ n1_; clear ho hb hg hat))
         go_roundg k1
         case measure => have := HK1.out; omega
         case rel => exact ⟨(y213), (1), (wrap64 (x12_1 + 1)), (by first | rfl | (simp; done) | (simp [*]; done)), (by first | rfl | (simp; done) | (simp [*]; done)), H', ⟨by have := HK1.out; omega⟩, ⟨by (with_reducible repeat (first | apply Kd.R_alloc | apply Kd.R_drewN | apply Kd.R_drew)); exact HO215.out⟩, ⟨by repeat (first | (with_reducible first | exact HB.out | apply Zb | apply Za | apply Zc) | exact HB.out)⟩⟩
        .
         rw [if_neg c10] at H
         exact absurd H (by simp)
       .
        rw [if_neg c9] at H
        have c9b0 : decide ((wrap64 ((wrap64 ((rd l0 x12_1) - x6_1)) - (rd l1 x12_1))) < 0) = false := decide_eq_false c9
        clear c9
        by_cases c12 : x5_1.length < 17592186044416
        .
         rw [if_pos c12] at H
         have LMc12 := Zd.mk c12
         clear c12
         obtain ⟨y216, hy216⟩ : ∃ y_ : List Int, y_ = (x5_1 ++ [wrap64 ((wrap64 ((rd l0 x12_1) - x6_1)) - (rd l1 x12_1))]) := ⟨_, rfl⟩
         replace H : (spec_Sub.l0 k1 l0 l1 y216 0 (l0.length : Int) (wrap64 (x12_1 + 1))) = some r := by first | (rw [hy216]; with_reducible exact H) | (have H2_ := (Option.bind_some _ _).symm.trans H; rw [hy216]; with_reducible exact H2_) | (have H2_ := (Option.bind_some _ _).symm.trans H; with_reducible exact H2_) | with_reducible exact H | (rw [hy216]; exact H) | exact H
         have Ny216 := Zd.mk hy216
         clear hy216
         have H' := Zd.mk H
         clear H
         have p211 : 0 <= (x12_1 : Int) := of_decide_eq_true (by first | (with_reducible assumption) | assumption)
         have q211 : x12_1 < (l0.length : Int) := of_decide_eq_true (by first | (with_reducible assumption) | assumption)
         obtain ⟨ad211, e211, hx211_0⟩ := Kd.at_int HR0.out x12_1 p211 q211
         cases e211
         replace hx211_0 := (HB.out.cell (World.block_lt_of_cell? w _ hx211_0)).trans hx211_0
         replace p211 := eq_true p211
         replace q211 := eq_true q211
         have p212 : 0 <= (x12_1 : Int) := of_decide_eq_true (by first | (with_reducible assumption) | assumption)
         have q212 : x12_1 < (l1.length : Int) := of_decide_eq_true (by first | (with_reducible assumption) | assumption)
         obtain ⟨ad212, e212, hx212_0⟩ := Kd.at_int HR1.out x12_1 p212 q212
         cases e212
         replace hx212_0 := (HB.out.cell (World.block_lt_of_cell? w _ hx212_0)).trans hx212_0
         replace p212 := eq_true p212
         replace q212 := eq_true q212
         go_wp2_with (first | ((with_reducible refine gate_builtin (b := .append) (xs := #[.tmp 35, .tmp 37]) rfl ?_); at_builtin; refine Kd.R_append (Kd.int .i64) (w0 := w) w.heap.size rfl (.tmp 35) (.tmp 37) 30 3 (.int .i64 0) 8 rfl Tryz.underlying30 info3 rfl (by decide) (by omega) u5 x5_1 (wrap64 ((wrap64 ((rd l0 x12_1) - x6_1)) - (rd l1 x12_1))) [.int .i64 (wrap64 ((wrap64 ((rd l0 x12_1) - x6_1)) - (rd l1 x12_1)))] (fun k_ => (w.heap.size <= k_)) (fun _ => False) rfl rfl ?aP (fun _ hk => hk.elim) ?aF ?aO ?aB ?aS ?aL ?_; (case aP => exact rfl); (case aB => exact (by repeat (first | (with_reducible first | exact HB.out | apply Zb | apply Za | apply Zc) | exact HB.out))); (case aF => exact (fun k_ hk => (Nat.le_trans (Ze (by repeat (first | (with_reducible first | exact HB.out | apply Zb | apply Za | apply Zc) | exact HB.out))) hk))); (case aO => exact (by (with_reducible repeat (first | apply Kd.R_alloc | apply Kd.R_drewN | apply Kd.R_drew)); exact HO_5.out)); (case aS => exact (Ze (by repeat (first | (with_reducible first | exact HB.out | apply Zb | apply Za | apply Zc) | exact HB.out)))); (case aL => have := LMc12.out; omega); intro v217 w13 ho hb hg hat; rw [<- Ny216.out] at ho; have n0_ := Zd.mk (hb); have n1_ := Zd.mk (ho); clear HB; clear HO_5; have HB := n0_; have HO218 := n1_; clear n0_ n1_; clear ho hb hg hat))
         go_roundg k1
         case measure => have := HK1.out; omega
         case rel => exact ⟨(y216), (0), (wrap64 (x12_1 + 1)), (by first | rfl | (simp; done) | (simp [*]; done)), (by first | rfl | (simp; done) | (simp [*]; done)), H', ⟨by have := HK1.out; omega⟩, ⟨by (with_reducible repeat (first | apply Kd.R_alloc | apply Kd.R_drewN | apply Kd.R_drew)); exact HO218.out⟩, ⟨by repeat (first | (with_reducible first | exact HB.out | apply Zb | apply Za | apply Zc) | exact HB.out)⟩⟩
        .
         rw [if_neg c12] at H
         exact absurd H (by simp)
      .
       rw [if_neg c8] at H
       have c8b0 : decide (x12_1 < (l1.length : Int)) = false := decide_eq_false c8
       clear c8
       by_cases c14 : (wrap64 ((rd l0 x12_1) - x6_1)) < 0
       .
        rw [if_pos c14] at H
        have c14b0 : decide ((wrap64 ((rd l0 x12_1) - x6_1)) < 0) = true := decide_eq_true c14
        clear c14
        by_cases c15 : x5_1.length < 17592186044416
        .
         rw [if_pos c15] at H
         have LMc15 := Zd.mk c15
         clear c15
         obtain ⟨y219, hy219⟩ : ∃ y_ : List Int, y_ = (x5_1 ++ [wrap64 ((wrap64 ((rd l0 x12_1) - x6_1)) + 65536)]) := ⟨_, rfl⟩
         replace H : (spec_Sub.l0 k1 l0 l1 y219 1 (l0.length : Int) (wrap64 (x12_1 + 1))) = some r := by first | (rw [hy219]; with_reducible exact H) | (have H2_ := (Option.bind_some _ _).symm.trans H; rw [hy219]; with_reducible exact H2_) | (have H2_ := (Option.bind_some _ _).symm.trans H; with_reducible exact H2_) | with_reducible exact H | (rw [hy219]; exact H) | exact H
         have Ny219 := Zd.mk hy219
         clear hy219
         have H' := Zd.mk H
         clear H
         have p211 : 0 <= (x12_1 : Int) := of_decide_eq_true (by first | (with_reducible assumption) | assumption)
         have q211 : x12_1 < (l0.length : Int) := of_decide_eq_true (by first | (with_reducible assumption) | assumption)
         obtain ⟨ad211, e211, hx211_0⟩ := Kd.at_int HR0.out x12_1 p211 q211
         cases e211
         replace hx211_0 := (HB.out.cell (World.block_lt_of_cell? w _ hx211_0)).trans hx211_0
         replace p211 := eq_true p211
         replace q211 := eq_true q211
         go_wp2_with (first | ((with_reducible refine gate_builtin (b := .append) (xs := #[.tmp 35, .tmp 37]) rfl ?_); at_builtin; refine Kd.R_append (Kd.int .i64) (w0 := w) w.heap.size rfl (.tmp 35) (.tmp 37) 30 3 (.int .i64 0) 8 rfl Tryz.underlying30 info3 rfl (by decide) (by omega) u5 x5_1 (wrap64 ((wrap64 ((rd l0 x12_1) - x6_1)) + 65536)) [.int .i64 (wrap64 ((wrap64 ((rd l0 x12_1) - x6_1)) + 65536))] (fun k_ => (w.heap.size <= k_)) (fun _ => False) rfl rfl ?aP (fun _ hk => hk.elim) ?aF ?aO ?aB ?aS ?aL ?_; (case aP => exact rfl); (case aB => exact (by repeat (first | (with_reducible first | exact HB.out | apply Zb | apply Za | apply Zc) | exact HB.out))); (case aF => exact (fun k_ hk => (Nat.le_trans (Ze (by repeat (first | (with_reducible first | exact HB.out | apply Zb | apply Za | apply Zc) | exact HB.out))) hk))); (case aO => exact (by (with_reducible repeat (first | apply Kd.R_alloc | apply Kd.R_drewN | apply Kd.R_drew)); exact HO_5.out)); (case aS => exact (Ze (by repeat (first | (with_reducible first | exact HB.out | apply Zb | apply Za | apply Zc) | exact HB.out)))); (case aL => have := LMc15.out; omega); intro v220 w16 ho hb hg hat; rw [<- Ny219.out] at ho; have n0_ := Zd.mk (hb); have n1_ := Zd.mk (ho); clear HB; clear HO_5; have HB := n0_; have HO221 := n1_; clear n0_ n1_; clear ho hb hg hat))
         go_roundg k1
         case measure => have := HK1.out; omega
         case rel => exact ⟨(y219), (1), (wrap64 (x12_1 + 1)), (by first | rfl | (simp; done) | (simp [*]; done)), (by first | rfl | (simp; done) | (simp [*]; done)), H', ⟨by have := HK1.out; omega⟩, ⟨by (with_reducible repeat (first | apply Kd.R_alloc | apply Kd.R_drewN | apply Kd.R_drew)); exact HO221.out⟩, ⟨by repeat (first | (with_reducible first | exact HB.out | apply Zb | apply Za | apply Zc) | exact HB.out)⟩⟩
        .
         rw [if_neg c15] at H
         exact absurd H (by simp)
       .
        rw [if_neg c14] at H
        have c14b0 : decide ((wrap64 ((rd l0 x12_1) - x6_1)) < 0) = false := decide_eq_false c14
        clear c14
        by_cases c17 : x5_1.length < 17592186044416
        .
         rw [if_pos c17] at H
         have LMc17 := Zd.mk c17
         clear c17
         obtain ⟨y222, hy222⟩ : ∃ y_ : List Int, y_ = (x5_1 ++ [wrap64 ((rd l0 x12_1) - x6_1)]) := ⟨_, rfl⟩
         replace H : (spec_Sub.l0 k1 l0 l1 y222 0 (l0.length : Int) (wrap64 (x12_1 + 1))) = some r := by first | (rw [hy222]; with_reducible exact H) | (have H2_ := (Option.bind_some _ _).symm.trans H; rw [hy222]; with_reducible exact H2_) | (have H2_ := (Option.bind_some _ _).symm.trans H; with_reducible exact H2_) | with_reducible exact H | (rw [hy222]; exact H) | exact H
         have Ny222 := Zd.mk hy222
         clear hy222
         have H' := Zd.mk H
         clear H
         have p211 : 0 <= (x12_1 : Int) := of_decide_eq_true (by first | (with_reducible assumption) | assumption)
         have q211 : x12_1 < (l0.length : Int) := of_decide_eq_true (by first | (with_reducible assumption) | assumption)
         obtain ⟨ad211, e211, hx211_0⟩ := Kd.at_int HR0.out x12_1 p211 q211
         cases e211
         replace hx211_0 := (HB.out.cell (World.block_lt_of_cell? w _ hx211_0)).trans hx211_0
         replace p211 := eq_true p211
         replace q211 := eq_true q211
         go_wp2_with (first | ((with_reducible refine gate_builtin (b := .append) (xs := #[.tmp 35, .tmp 37]) rfl ?_); at_builtin; refine Kd.R_append (Kd.int .i64) (w0 := w) w.heap.size rfl (.tmp 35) (.tmp 37) 30 3 (.int .i64 0) 8 rfl Tryz.underlying30 info3 rfl (by decide) (by omega) u5 x5_1 (wrap64 ((rd l0 x12_1) - x6_1)) [.int .i64 (wrap64 ((rd l0 x12_1) - x6_1))] (fun k_ => (w.heap.size <= k_)) (fun _ => False) rfl rfl ?aP (fun _ hk => hk.elim) ?aF ?aO ?aB ?aS ?aL ?_; (case aP => exact rfl); (case aB => exact (by repeat (first | (with_reducible first | exact HB.out | apply Zb | apply Za | apply Zc) | exact HB.out))); (case aF => exact (fun k_ hk => (Nat.le_trans (Ze (by repeat (first | (with_reducible first | exact HB.out | apply Zb | apply Za | apply Zc) | exact HB.out))) hk))); (case aO => exact (by (with_reducible repeat (first | apply Kd.R_alloc | apply Kd.R_drewN | apply Kd.R_drew)); exact HO_5.out)); (case aS => exact (Ze (by repeat (first | (with_reducible first | exact HB.out | apply Zb | apply Za | apply Zc) | exact HB.out)))); (case aL => have := LMc17.out; omega); intro v223 w18 ho hb hg hat; rw [<- Ny222.out] at ho; have n0_ := Zd.mk (hb); have n1_ := Zd.mk (ho); clear HB; clear HO_5; have HB := n0_; have HO224 := n1_; clear n0_ n1_; clear ho hb hg hat))
         go_roundg k1
         case measure => have := HK1.out; omega
         case rel => exact ⟨(y222), (0), (wrap64 (x12_1 + 1)), (by first | rfl | (simp; done) | (simp [*]; done)), (by first | rfl | (simp; done) | (simp [*]; done)), H', ⟨by have := HK1.out; omega⟩, ⟨by (with_reducible repeat (first | apply Kd.R_alloc | apply Kd.R_drewN | apply Kd.R_drew)); exact HO224.out⟩, ⟨by repeat (first | (with_reducible first | exact HB.out | apply Zb | apply Za | apply Zc) | exact HB.out)⟩⟩
        .
         rw [if_neg c17] at H
         exact absurd H (by simp)
     .
      rw [if_neg c7] at H
      exact absurd H (by simp)
    .
     rw [if_neg c6] at H
     exact absurd H (by simp)
   .
    rw [if_neg c5] at H
    have c5b0 : decide (x12_1 < (l0.length : Int)) = false := decide_eq_false c5
    clear c5
    replace H := Option.bind_eq_some_iff.mp H
    obtain ⟨t208, A190, H⟩ := H
    replace H : (some t208) = some r := H
    have A19 := Zd.mk A190
    clear A190
    obtain rfl := Option.some.inj H
    obtain ⟨Ao20, co20, eo20⟩ := Kd.R_slice HO_5.out
    subst eo20
    go_wp2_with (first | ((with_reducible refine Zr (f := 56) rfl ?_); refine goesL_ (some 41) rfl rfl Tryz.func56 (by kernel_rfl) rfl #[.slice Ao20 x5_1.length co20] rfl (by (try simp only [List.map_toArray, List.map_cons, List.map_nil]); first | done | rfl | (simp only [List.length_drop, List.length_take]; rfl)) ?_; (with_reducible refine (spec_cut.calls k1 (fun k_ => some k_ = (.slice Ao20 x5_1.length co20 : Value).ownBlock) _ _ x5_1 t208 _ ?side1 A19.out).mono ?_); (case side1 => exact Kd.R_V (Kd.R_tight rfl (HO_5.out))); rintro e w21 ⟨v209, rfl, ho0, hb⟩; refine ⟨_, rfl, ?_⟩; have n0_ := Zd.mk (Kd.R_below (by (with_reducible repeat (first | apply Kd.R_alloc | apply Kd.R_drewN | apply Kd.R_drew)); exact HO_5.out) hb); have n1_ := Zd.mk (Kd.V_lower (Kd.V_mono (ok' := fun k_ => (w.heap.size <= k_)) ho0 (fun k_ hk_ => Or.elim hk_ (fun hs_ => ((HO_5.out).1 k_ hs_.symm)) (fun hn_ => (Nat.le_trans (Ze (by repeat (first | (with_reducible first | exact HB.out | apply Zb | apply Za | apply Zc) | exact HB.out))) hn_)))) (Ze (by repeat (first | (with_reducible first | exact HB.out | apply Zb | apply Za | apply Zc) | exact HB.out)))); have n2_ := Zd.mk (Zi (by repeat (first | (with_reducible first | exact HB.out | apply Zb | apply Za | apply Zc) | exact HB.out)) hb); clear HO_5; clear HB; have HO_5 := n0_; have HO210 := n1_; have HB := n2_; clear n0_ n1_ n2_; (try clear hb); (try clear hb2); (try clear hk); (try clear hi); (try clear ho0)))
    go_ret
    exact ⟨_, by first | rfl | (simp [errW_none, errW_some] <;> rfl) | (simp [*, errW_none, errW_some] <;> rfl), by (with_reducible repeat (first | apply Kd.V_alloc | apply Kd.V_drewN | apply Kd.V_drew)); exact HO210.out, by repeat (first | (with_reducible first | exact HB.out | apply Zb | apply Za | apply Zc) | exact HB.out)⟩
def spec_Cmp.l0 : Nat -> List Int -> List Int -> Int -> Option (Int)
 | 0, _, _, _ => none
 | k + 1, x0, x1, x5 => if x5 >= 0 then (if 0 <= x5 then (if x5 < (x0.length : Int) then (if x5 < (x1.length : Int) then (if (rd x0 x5) = (rd x1 x5) then (spec_Cmp.l0 k x0 x1 (wrap64 (x5 - 1))) else (some (wrap64 ((rd x0 x5) - (rd x1 x5))))) else (none)) else (none)) else (none)) else (some 0)
def spec_Cmp.f (k : Nat) (l0 : List Int) (l1 : List Int) : Option (Int) := if (l0.length : Int) = (l1.length : Int) then (spec_Cmp.l0 k l0 l1 (wrap64 ((l0.length : Int) - 1))) else (some (wrap64 ((l0.length : Int) - (l1.length : Int))))
theorem spec_Cmp.mono_l : ∀ k, (∀ y0 y1 y2, LeO (spec_Cmp.l0 k y0 y1 y2) (spec_Cmp.l0 (k + 1) y0 y1 y2))
 | 0 => fun _ _ _ r h => by simp [spec_Cmp.l0] at h
 | k + 1 => by
  have ih0 := spec_Cmp.mono_l k
  .
   intro y0 y1 y2
   unfold spec_Cmp.l0
   repeat' first
   | (with_reducible exact ih0 _ _ _)
   | (with_reducible exact LeO.refl _)
   | (with_reducible exact LeO.none _)
   | (with_reducible refine LeO.ite ?_ ?_)
   | (with_reducible refine LeO.bind ?_ (fun _ => ?_))
   | exact ih0 _ _ _
   | exact LeO.none _
   | refine LeO.ite ?_ ?_
   | refine LeO.bind ?_ (fun _ => ?_)
theorem spec_Cmp.mono : ∀ a0 a1 k, LeO (spec_Cmp.f k a0 a1) (spec_Cmp.f (k + 1) a0 a1) := by
 intro a0 a1 k
 have ih0 := spec_Cmp.mono_l k
 unfold spec_Cmp.f
 repeat' first
   | (with_reducible exact ih0 _ _ _)
   | (with_reducible exact LeO.refl _)
   | (with_reducible exact LeO.none _)
   | (with_reducible refine LeO.ite ?_ ?_)
   | (with_reducible refine LeO.bind ?_ (fun _ => ?_))
   | exact ih0 _ _ _
   | exact LeO.none _
   | refine LeO.ite ?_ ?_
   | refine LeO.bind ?_ (fun _ => ?_)
theorem spec_Cmp.calls (k : Nat) (A0 : Option Addr) (c0 : Nat) (l0 : List Int) (A1 : Option Addr) (c1 : Nat) (l1 : List Int) (r : Int) (w : World) (hr0 : Kd.C (Kd.int .i64) w A0 l0.length l0) (hc0 : l0.length <= c0) (hr1 : Kd.C (Kd.int .i64) w A1 l1.length l1) (hc1 : l1.length <= c1) (h : spec_Cmp.f k l0 l1 = some r) :
  Calls Tryz.prog 16 #[.slice A0 l0.length c0, .slice A1 l1.length c1] w fun e w' => e = .returned (.int .i64 r) /\ Drawn0 w w' := by
 have HR0 := Zd.mk hr0
 have HC0 := Zd.mk hc0
 clear hr0 hc0
 have HR1 := Zd.mk hr1
 have HC1 := Zd.mk hc1
 clear hr1 hc1
 have H : (if (l0.length : Int) = (l1.length : Int) then (spec_Cmp.l0 k l0 l1 (wrap64 ((l0.length : Int) - 1))) else (some (wrap64 ((l0.length : Int) - (l1.length : Int))))) = some r := h
 clear h
 by_cases c3 : (l0.length : Int) = (l1.length : Int)
 .
  rw [if_pos c3] at H
  have c3b0 : ((l0.length : Int) == (l1.length : Int)) = true := beq_iff_eq.mpr c3
  have c3b1 : ((l0.length : Int) != (l1.length : Int)) = false := bne_eq_false_iff_eq.mpr c3
  have c3b2 : (l0.length == l1.length) = true := by first | simpa using c3 | (simp at c3 ⊢; omega)
  clear c3
  have H' := Zd.mk H
  clear H
  go_enter Tryz.func16, Tryz.ntmps16
  go_wp2
  repeat (go_quiet (fail); try go_wp2)
  go_loopg [5] k (fun kq v5 w' => ∃ (x5_1 : Int), v5 = .int .i64 x5_1 /\ Zd (spec_Cmp.l0 kq l0 l1 x5_1 = some r) /\ Zd (kq <= k) /\ Drawn0 w w')
  case atStart => exact ⟨(wrap64 ((l0.length : Int) - 1)), (by first | rfl | (simp; done) | (simp [*]; done)), H', ⟨Nat.le_refl _⟩, by repeat (first | exact Drawn0.refl _ | apply Drawn0.step)⟩
  case round =>
   clear H'
   try clear c1
   try clear p2
   try clear c3
   try clear c3b0
   try clear c3b1
   try clear c3b2
   obtain ⟨x5_1, rfl, HA, HK1, ⟨m1, rfl⟩⟩ := hrel
   cases gk with
   | zero => exact absurd HA.out (by simp [spec_Cmp.l0])
   | succ k1 =>
    have H := HA.out
    clear HA
    simp only [spec_Cmp.l0] at H
    by_cases c4 : x5_1 >= 0
    .
     rw [if_pos c4] at H
     have c4b0 : decide (0 <= x5_1) = true := decide_eq_true c4
     clear c4
     by_cases c5 : 0 <= x5_1
     .
      rw [if_pos c5] at H
      have c5b0 : decide (0 <= x5_1) = true := decide_eq_true c5
      clear c5
      by_cases c6 : x5_1 < (l0.length : Int)
      .
       rw [if_pos c6] at H
       have c6b0 : decide (x5_1 < (l0.length : Int)) = true := decide_eq_true c6
       clear c6
       by_cases c7 : x5_1 < (l1.length : Int)
       .
        rw [if_pos c7] at H
        have c7b0 : decide (x5_1 < (l1.length : Int)) = true := decide_eq_true c7
        clear c7
        by_cases c8 : (rd l0 x5_1) = (rd l1 x5_1)
        .
         rw [if_pos c8] at H
         have c8b0 : ((rd l0 x5_1) == (rd l1 x5_1)) = true := beq_iff_eq.mpr c8
         have c8b1 : ((rd l0 x5_1) != (rd l1 x5_1)) = false := bne_eq_false_iff_eq.mpr c8
         clear c8
         have H' := Zd.mk H
         clear H
         have p195 : 0 <= (x5_1 : Int) := of_decide_eq_true (by first | (with_reducible assumption) | assumption)
         have q195 : x5_1 < (l0.length : Int) := of_decide_eq_true (by first | (with_reducible assumption) | assumption)
         obtain ⟨ad195, e195, hx195_0⟩ := Kd.at_int HR0.out x5_1 p195 q195
         cases e195
         replace p195 := eq_true p195
         replace q195 := eq_true q195
         have p196 : 0 <= (x5_1 : Int) := of_decide_eq_true (by first | (with_reducible assumption) | assumption)
         have q196 : x5_1 < (l1.length : Int) := of_decide_eq_true (by first | (with_reducible assumption) | assumption)
         obtain ⟨ad196, e196, hx196_0⟩ := Kd.at_int HR1.out x5_1 p196 q196
         cases e196
         replace p196 := eq_true p196
         replace q196 := eq_true q196
         go_wp2
         repeat (go_quiet (fail); try go_wp2)
         go_roundg k1
         case measure => have := HK1.out; omega
         case rel => exact ⟨(wrap64 (x5_1 - 1)), (by first | rfl | (simp; done) | (simp [*]; done)), H', ⟨by have := HK1.out; omega⟩, by repeat (first | exact Drawn0.refl _ | apply Drawn0.step)⟩
        .
         rw [if_neg c8] at H
         have c8b0 : ((rd l0 x5_1) == (rd l1 x5_1)) = false := beq_eq_false_iff_ne.mpr c8
         have c8b1 : ((rd l0 x5_1) != (rd l1 x5_1)) = true := bne_iff_ne.mpr c8
         obtain rfl := Option.some.inj H
         have p195 : 0 <= (x5_1 : Int) := of_decide_eq_true (by first | (with_reducible assumption) | assumption)
         have q195 : x5_1 < (l0.length : Int) := of_decide_eq_true (by first | (with_reducible assumption) | assumption)
         obtain ⟨ad195, e195, hx195_0⟩ := Kd.at_int HR0.out x5_1 p195 q195
         cases e195
         replace p195 := eq_true p195
         replace q195 := eq_true q195
         have p196 : 0 <= (x5_1 : Int) := of_decide_eq_true (by first | (with_reducible assumption) | assumption)
         have q196 : x5_1 < (l1.length : Int) := of_decide_eq_true (by first | (with_reducible assumption) | assumption)
         obtain ⟨ad196, e196, hx196_0⟩ := Kd.at_int HR1.out x5_1 p196 q196
         cases e196
         replace p196 := eq_true p196
         replace q196 := eq_true q196
         have p197 : 0 <= (x5_1 : Int) := of_decide_eq_true (by first | (with_reducible assumption) | assumption)
         have q197 : x5_1 < (l0.length : Int) := of_decide_eq_true (by first | (with_reducible assumption) | assumption)
         obtain ⟨ad197, e197, hx197_0⟩ := Kd.at_int HR0.out x5_1 p197 q197
         obtain rfl : ad195 = ad197 := (by injection e197)
         replace p197 := eq_true p197
         replace q197 := eq_true q197
         have p198 : 0 <= (x5_1 : Int) := of_decide_eq_true (by first | (with_reducible assumption) | assumption)
         have q198 : x5_1 < (l1.length : Int) := of_decide_eq_true (by first | (with_reducible assumption) | assumption)
         obtain ⟨ad198, e198, hx198_0⟩ := Kd.at_int HR1.out x5_1 p198 q198
         obtain rfl : ad196 = ad198 := (by injection e198)
         replace p198 := eq_true p198
         replace q198 := eq_true q198
         go_wp2
         repeat (go_quiet (fail); try go_wp2)
         go_ret
         exact ⟨by first | rfl | (simp; done) | (simp [*]; done), by repeat (first | exact Drawn0.refl _ | apply Drawn0.step)⟩
       .
        rw [if_neg c7] at H
        exact absurd H (by simp)
      .
       rw [if_neg c6] at H
       exact absurd H (by simp)
     .
      rw [if_neg c5] at H
      exact absurd H (by simp)
    .
     rw [if_neg c4] at H
     have c4b0 : decide (0 <= x5_1) = false := decide_eq_false c4
     clear c4
     obtain rfl := Option.some.inj H
     go_wp2
     repeat (go_quiet (fail); try go_wp2)
     go_ret
     exact ⟨by first | rfl | (simp; done) | (simp [*]; done), by repeat (first | exact Drawn0.refl _ | apply Drawn0.step)⟩
 .
  rw [if_neg c3] at H
  have c3b0 : ((l0.length : Int) == (l1.length : Int)) = false := beq_eq_false_iff_ne.mpr c3
  have c3b1 : ((l0.length : Int) != (l1.length : Int)) = true := bne_iff_ne.mpr c3
  have c3b2 : (l0.length == l1.length) = false := by first | simpa using c3 | (simp at c3 ⊢; omega)
  obtain rfl := Option.some.inj H
  go_enter Tryz.func16, Tryz.ntmps16
  go_wp2
  repeat (go_quiet (fail); try go_wp2)
  go_ret
  exact ⟨by first | rfl | (simp; done) | (simp [*]; done), by repeat (first | exact Drawn0.refl _ | apply Drawn0.step)⟩
def spec_byDigit.l0 : Nat -> List Int -> List Int -> List Int -> Int -> Int -> Option (List Int × Int)
 | 0, _, _, _, _, _ => none
 | k + 1, x0, x1, x6, x7, x8 => if x8 >= 0 then (if 0 <= x8 then (if x8 < (x0.length : Int) then (if 0 < (x1.length : Int) then (if (rd x1 0) = 0 then (none) else (if x8 < (x6.length : Int) then (spec_byDigit.l0 k x0 x1 (x6.set (x8 : Int).toNat (wrap64 (Int.tdiv (wrap64 ((wrap64 (x7 * 65536)) + (rd x0 x8))) (rd x1 0)))) (Int.tmod (wrap64 ((wrap64 (x7 * 65536)) + (rd x0 x8))) (rd x1 0)) (wrap64 (x8 - 1))) else (none))) else (none)) else (none)) else (none)) else ((spec_cut.f k x6).bind fun t243 => (some (t243, x7)))
def spec_byDigit.f (k : Nat) (l0 : List Int) (l1 : List Int) : Option (List Int × Int) := if 0 <= (l0.length : Int) then (if ((l0.length : Int) : Int).toNat <= 35184372088832 then (spec_byDigit.l0 k l0 l1 (List.replicate ((l0.length : Int) : Int).toNat 0) 0 (wrap64 ((l0.length : Int) - 1))) else (none)) else (none)
theorem spec_byDigit.mono_l : ∀ k, (∀ y0 y1 y2 y3 y4, LeO (spec_byDigit.l0 k y0 y1 y2 y3 y4) (spec_byDigit.l0 (k + 1) y0 y1 y2 y3 y4))
 | 0 => fun _ _ _ _ _ r h => by simp [spec_byDigit.l0] at h
 | k + 1 => by
  have ih0 := spec_byDigit.mono_l k
  .
   intro y0 y1 y2 y3 y4
   unfold spec_byDigit.l0
   repeat' first
   | (with_reducible exact ih0 _ _ _ _ _)
   | (with_reducible exact spec_cut.mono _ _)
   | (with_reducible exact LeO.refl _)
   | (with_reducible exact LeO.none _)
   | (with_reducible refine LeO.ite ?_ ?_)
   | (with_reducible refine LeO.bind ?_ (fun _ => ?_))
   | exact ih0 _ _ _ _ _
   | exact spec_cut.mono _ _
   | exact LeO.none _
   | refine LeO.ite ?_ ?_
   | refine LeO.bind ?_ (fun _ => ?_)
theorem spec_byDigit.mono : ∀ a0 a1 k, LeO (spec_byDigit.f k a0 a1) (spec_byDigit.f (k + 1) a0 a1) := by
 intro a0 a1 k
 have ih0 := spec_byDigit.mono_l k
 unfold spec_byDigit.f
 repeat' first
   | (with_reducible exact ih0 _ _ _ _ _)
   | (with_reducible exact spec_cut.mono _ _)
   | (with_reducible exact LeO.refl _)
   | (with_reducible exact LeO.none _)
   | (with_reducible refine LeO.ite ?_ ?_)
   | (with_reducible refine LeO.bind ?_ (fun _ => ?_))
   | exact ih0 _ _ _ _ _
   | exact spec_cut.mono _ _
   | exact LeO.none _
   | refine LeO.ite ?_ ?_
   | refine LeO.bind ?_ (fun _ => ?_)
theorem spec_byDigit.calls (k : Nat) (A0 : Option Addr) (c0 : Nat) (l0 : List Int) (A1 : Option Addr) (c1 : Nat) (l1 : List Int) (r1 : List Int) (r2 : Int) (w : World) (hr0 : Kd.C (Kd.int .i64) w A0 l0.length l0) (hc0 : l0.length <= c0) (hr1 : Kd.C (Kd.int .i64) w A1 l1.length l1) (hc1 : l1.length <= c1) (h : spec_byDigit.f k l0 l1 = some (r1, r2)) :
  Calls Tryz.prog 65 #[.slice A0 l0.length c0, .slice A1 l1.length c1] w fun e w' => ∃ v0_ : Value, e = .returned (.tuple #[v0_, .int .i64 r2]) /\ Kd.V (Kd.int .i64) 3 w' w.heap.size (fun k_ => (w.heap.size <= k_)) v0_ r1 /\ Below w.heap.size w w' := by
 have HR0 := Zd.mk hr0
 have HC0 := Zd.mk hc0
 clear hr0 hc0
 have HR1 := Zd.mk hr1
 have HC1 := Zd.mk hc1
 clear hr1 hc1
 have HB := Zd.mk (Below.refl w.heap.size w)
 have H : (if 0 <= (l0.length : Int) then (if ((l0.length : Int) : Int).toNat <= 35184372088832 then (spec_byDigit.l0 k l0 l1 (List.replicate ((l0.length : Int) : Int).toNat 0) 0 (wrap64 ((l0.length : Int) - 1))) else (none)) else (none)) = some (r1, r2) := h
 clear h
 by_cases c3 : 0 <= (l0.length : Int)
 .
  rw [if_pos c3] at H
  have c3b0 := eq_true c3
  have c3b1 : decide (0 <= (l0.length : Int)) = true := decide_eq_true c3
  clear c3
  by_cases c4 : ((l0.length : Int) : Int).toNat <= 35184372088832
  .
   rw [if_pos c4] at H
   have c4b0 := eq_true c4
   have c4b1 : decide (((l0.length : Int) : Int).toNat <= 35184372088832) = true := decide_eq_true c4
   clear c4
   obtain ⟨y236, hy236⟩ : ∃ y_ : List Int, y_ = (List.replicate ((l0.length : Int) : Int).toNat 0) := ⟨_, rfl⟩
   replace H : (spec_byDigit.l0 k l0 l1 y236 0 (wrap64 ((l0.length : Int) - 1))) = some (r1, r2) := by first | (rw [hy236]; with_reducible exact H) | (have H2_ := (Option.bind_some _ _).symm.trans H; rw [hy236]; with_reducible exact H2_) | (have H2_ := (Option.bind_some _ _).symm.trans H; with_reducible exact H2_) | with_reducible exact H | (rw [hy236]; exact H) | exact H
   have Ny236 := Zd.mk hy236
   clear hy236
   have H' := Zd.mk H
   clear H
   go_enter Tryz.func65, Tryz.ntmps65
   go_wp2_with (first | ((with_reducible refine gate_dst (N := 11) rfl ?_); refine Kd.R_make (Kd.int .i64) _ 3 rfl (N := 11) rfl 30 _ _ rfl (l0.length : Int) rfl rfl Tryz.underlying30 (.int .i64 0) 8 info3 rfl (by decide) (by omega) 0 (ok := fun _ => True) (okp := fun _ => True) rfl (fun _ hk => hk) trivial (of_decide_eq_true (by first | (with_reducible assumption) | assumption)) (Nat.le_trans (Nat.mul_le_mul_right _ (of_decide_eq_true (by first | (with_reducible assumption) | assumption) : (l0.length : Int).toNat <= 35184372088832)) (by omega)) (Below.refl _ _) (Nat.le_refl _) ?_; intro v237 w5 ho6 hb hg_ hnew_; clear hg_ hnew_; (first | rw [<- Ny236.out] at ho6 | (simp only [Int.reduceToNat] at ho6; rw [<- Ny236.out] at ho6)); have n0_ := Zd.mk (Kd.R_lower (Kd.R_newM (M := fun k_ => (w.heap.size <= k_)) ho6 (Ze (by repeat (first | (with_reducible first | exact HB.out | apply Zb | apply Za | apply Zc) | exact HB.out))) (fun k_ h_ => h_)) (Ze (by repeat (first | (with_reducible first | exact HB.out | apply Zb | apply Za | apply Zc) | exact HB.out)))); have n1_ := Zd.mk (Zi (by repeat (first | (with_reducible first | exact HB.out | apply Zb | apply Za | apply Zc) | exact HB.out)) hb); clear HB; have HO238 := n0_; have HB := n1_; clear n0_ n1_; clear hb ho6))
   go_loopg [7, 8] k (fun kq v7 v8 w' => ∃ (x6_1 : List Int) (x7_1 : Int) (x8_1 : Int), v7 = .int .i64 x7_1 /\ v8 = .int .i64 x8_1 /\ Zd (spec_byDigit.l0 kq l0 l1 x6_1 x7_1 x8_1 = some (r1, r2)) /\ Zd (kq <= k) /\ Zd (Kd.R (Kd.int .i64) 3 w' w.heap.size (fun k_ => (w.heap.size <= k_)) v237 x6_1) /\ Zd (Below w.heap.size w w'))
   case atStart => exact ⟨(y236), (0), (wrap64 ((l0.length : Int) - 1)), (by first | rfl | (simp; done) | (simp [*]; done)), (by first | rfl | (simp; done) | (simp [*]; done)), H', ⟨Nat.le_refl _⟩, ⟨by (with_reducible repeat (first | apply Kd.R_alloc | apply Kd.R_drewN | apply Kd.R_drew)); exact Kd.R_mono HO238.out (fun _ hk => hk.1)⟩, ⟨by repeat (first | (with_reducible first | exact HB.out | apply Zb | apply Za | apply Zc) | exact HB.out)⟩⟩
   case round =>
    clear H'
    try clear c1
    try clear p2
    try clear c3
    try clear c3b0
    try clear c3b1
    try clear c4
    try clear c4b0
    try clear c4b1
    try clear c6
    try clear p6
    obtain ⟨x6_1, x7_1, x8_1, rfl, rfl, HA, HK1, HO_6, HB⟩ := hrel
    cases gk with
    | zero => exact absurd HA.out (by simp [spec_byDigit.l0])
    | succ k1 =>
     have H := HA.out
     clear HA
     simp only [spec_byDigit.l0] at H
     by_cases c7 : x8_1 >= 0
     .
      rw [if_pos c7] at H
      have c7b0 : decide (0 <= x8_1) = true := decide_eq_true c7
      clear c7
      by_cases c8 : 0 <= x8_1
      .
       rw [if_pos c8] at H
       have c8b0 : decide (0 <= x8_1) = true := decide_eq_true c8
       clear c8
       by_cases c9 : x8_1 < (l0.length : Int)
       .
        rw [if_pos c9] at H
        have c9b0 : decide (x8_1 < (l0.length : Int)) = true := decide_eq_true c9
        clear c9
        by_cases c10 : 0 < (l1.length : Int)
        .
         rw [if_pos c10] at H
         have c10b0 : decide (0 < (l1.length : Int)) = true := decide_eq_true c10
         have c10b1 : decide (0 < l1.length) = true := decide_eq_true (by omega)
         clear c10
         by_cases c11 : (rd l1 0) = 0
         .
          rw [if_pos c11] at H
          exact absurd H (by simp)
         .
          rw [if_neg c11] at H
          have c11b0 : ((rd l1 0) == 0) = false := beq_eq_false_iff_ne.mpr c11
          have c11b1 : ((rd l1 0) != 0) = true := bne_iff_ne.mpr c11
          by_cases c12 : x8_1 < (x6_1.length : Int)
          .
           rw [if_pos c12] at H
           have c12b0 : decide (x8_1 < (x6_1.length : Int)) = true := decide_eq_true c12
           clear c12
           obtain ⟨y241, hy241⟩ : ∃ y_ : List Int, y_ = (x6_1.set (x8_1 : Int).toNat (wrap64 (Int.tdiv (wrap64 ((wrap64 (x7_1 * 65536)) + (rd l0 x8_1))) (rd l1 0)))) := ⟨_, rfl⟩
           replace H : (spec_byDigit.l0 k1 l0 l1 y241 (Int.tmod (wrap64 ((wrap64 (x7_1 * 65536)) + (rd l0 x8_1))) (rd l1 0)) (wrap64 (x8_1 - 1))) = some (r1, r2) := by first | (rw [hy241]; with_reducible exact H) | (have H2_ := (Option.bind_some _ _).symm.trans H; rw [hy241]; with_reducible exact H2_) | (have H2_ := (Option.bind_some _ _).symm.trans H; with_reducible exact H2_) | with_reducible exact H | (rw [hy241]; exact H) | exact H
           have Ny241 := Zd.mk hy241
           clear hy241
           have H' := Zd.mk H
           clear H
           have p239 : 0 <= (x8_1 : Int) := of_decide_eq_true (by first | (with_reducible assumption) | assumption)
           have q239 : x8_1 < (l0.length : Int) := of_decide_eq_true (by first | (with_reducible assumption) | assumption)
           obtain ⟨ad239, e239, hx239_0⟩ := Kd.at_int HR0.out x8_1 p239 q239
           cases e239
           replace hx239_0 := (HB.out.cell (World.block_lt_of_cell? w _ hx239_0)).trans hx239_0
           replace p239 := eq_true p239
           replace q239 := eq_true q239
           have p240 : 0 <= (0 : Int) := (by omega)
           have q240 : 0 < (l1.length : Int) := of_decide_eq_true (by first | (with_reducible assumption) | assumption)
           obtain ⟨ad240, e240, hx240_0⟩ := Kd.at_int HR1.out 0 p240 q240
           cases e240
           have qi240 : (0 < l1.length) = True := eq_true (by omega)
           (try rw [show ((0 : Int)).toNat = 0 from rfl] at hx240_0)
           (try rw [Addr.add_zero'] at hx240_0)
           replace hx240_0 := (HB.out.cell (World.block_lt_of_cell? w _ hx240_0)).trans hx240_0
           replace p240 := eq_true p240
           replace q240 := eq_true q240
           have p13 : 0 <= (x8_1 : Int) := of_decide_eq_true (by first | (with_reducible assumption) | assumption)
           have q13 : (x8_1 : Int) < ((x6_1.length : Int) : Int) := of_decide_eq_true (by first | (with_reducible assumption) | assumption)
           obtain ⟨go13, co13, eo13, gb13, gl13, cl13, HG13⟩ := Kd.R_form HO_6.out (by omega)
           (first | cases eo13 | (injection eo13 with ea_ en_ ec_; (first | subst ea_ | (injection ea_ with ea_; subst ea_)); subst ec_; clear en_))
           have GB13 := Zd.mk gb13
           have GG13 := Zd.mk HG13
           clear gb13 gl13 HG13
           obtain ⟨hx13_0, hf13_0⟩ := Kd.R_celln 0 HO_6.out (x8_1 : Int) p13 q13
           replace p13 := eq_true p13
           replace q13 := eq_true q13
           have HP14 := Kd.R_putg HO_6.out (x8_1 : Int) (wrap64 (Int.tdiv (wrap64 ((wrap64 (x7_1 * 65536)) + (rd l0 x8_1))) (rd l1 0)))
           go_wp2_with (first | ((with_reducible refine gate_store (t := 3) (p := 33) rfl ?_); refine store_event (t := 3) (p := 33) (v := ?vo_w15) (w1 := (wr.setCell ⟨go13, (x8_1 : Int).toNat, none⟩ (.int .i64 (wrap64 (Int.tdiv (wrap64 ((wrap64 (x7_1 * 65536)) + (rd l0 x8_1))) (rd l1 0)))))) ?hg ?ho ?hn ?hr ?_; (case ho => rfl); (case hg => rfl); (case hn => rfl); (case hr => first | (go_simp; done) | (go_simp; rfl)); intro w15 hw; have hg : wr.grownBy w15 (some go13) := (by rw [hw]; exact HP14.2); have hp_ : Kd.R (Kd.int .i64) 3 w15 w.heap.size (fun k_ => (w.heap.size <= k_)) (.slice (some ⟨go13, 0, none⟩) x6_1.length co13) y241 := (by rw [hw, Ny241.out]; exact HP14.1); clear HP14; have n0_ := Zd.mk (hp_); have n1_ := Zd.mk ((by rw [hw]; exact Zk (HB.out) GB13.out : Below w.heap.size w w15)); clear HO_6; clear HB; have HO_6 := n0_; have HB := n1_; clear n0_ n1_; clear hg hw hp_; have p242 : 0 <= (0 : Int) := (by omega); have q242 : 0 < (l1.length : Int) := of_decide_eq_true (by first | (with_reducible assumption) | assumption); obtain ⟨ad242, e242, hx242_0⟩ := Kd.at_int HR1.out 0 p242 q242; obtain rfl : ad240 = ad242 := (by injection e242); have qi242 : (0 < l1.length) = True := eq_true (by omega); (try rw [show ((0 : Int)).toNat = 0 from rfl] at hx242_0); (try rw [Addr.add_zero'] at hx242_0); replace hx242_0 := (HB.out.cell (World.block_lt_of_cell? w _ hx242_0)).trans hx242_0; replace p242 := eq_true p242; replace q242 := eq_true q242))
           go_roundg k1
           case measure => have := HK1.out; omega
           case rel => exact ⟨(y241), (Int.tmod (wrap64 ((wrap64 (x7_1 * 65536)) + (rd l0 x8_1))) (rd l1 0)), (wrap64 (x8_1 - 1)), (by first | rfl | (simp; done) | (simp [*]; done)), (by first | rfl | (simp; done) | (simp [*]; done)), H', ⟨by have := HK1.out; omega⟩, ⟨by (with_reducible repeat (first | apply Kd.R_alloc | apply Kd.R_drewN | apply Kd.R_drew)); exact HO_6.out⟩, ⟨by repeat (first | (with_reducible first | exact HB.out | apply Zb | apply Za | apply Zc) | exact HB.out)⟩⟩
          .
           rw [if_neg c12] at H
           exact absurd H (by simp)
        .
         rw [if_neg c10] at H
         exact absurd H (by simp)
       .
        rw [if_neg c9] at H
        exact absurd H (by simp)
      .
       rw [if_neg c8] at H
       exact absurd H (by simp)
     .
      rw [if_neg c7] at H
      have c7b0 : decide (0 <= x8_1) = false := decide_eq_false c7
      clear c7
      replace H := Option.bind_eq_some_iff.mp H
      obtain ⟨t243, A160, H⟩ := H
      replace H : (some (t243, x7_1)) = some (r1, r2) := H
      have A16 := Zd.mk A160
      clear A160
      simp only [Option.some.injEq, Prod.mk.injEq] at H
      obtain ⟨rfl, rfl⟩ := H
      obtain ⟨Ao17, co17, eo17⟩ := Kd.R_slice HO_6.out
      subst eo17
      go_wp2_with (first | ((with_reducible refine Zr (f := 56) rfl ?_); refine goesL_ (some 40) rfl rfl Tryz.func56 (by kernel_rfl) rfl #[.slice Ao17 x6_1.length co17] rfl (by (try simp only [List.map_toArray, List.map_cons, List.map_nil]); first | done | rfl | (simp only [List.length_drop, List.length_take]; rfl)) ?_; (with_reducible refine (spec_cut.calls k1 (fun k_ => some k_ = (.slice Ao17 x6_1.length co17 : Value).ownBlock) _ _ x6_1 t243 _ ?side1 A16.out).mono ?_); (case side1 => exact Kd.R_V (Kd.R_tight rfl (HO_6.out))); rintro e w18 ⟨v244, rfl, ho0, hb⟩; refine ⟨_, rfl, ?_⟩; have n0_ := Zd.mk (Kd.R_below (by (with_reducible repeat (first | apply Kd.R_alloc | apply Kd.R_drewN | apply Kd.R_drew)); exact HO_6.out) hb); have n1_ := Zd.mk (Kd.V_lower (Kd.V_mono (ok' := fun k_ => (w.heap.size <= k_)) ho0 (fun k_ hk_ => Or.elim hk_ (fun hs_ => ((HO_6.out).1 k_ hs_.symm)) (fun hn_ => (Nat.le_trans (Ze (by repeat (first | (with_reducible first | exact HB.out | apply Zb | apply Za | apply Zc) | exact HB.out))) hn_)))) (Ze (by repeat (first | (with_reducible first | exact HB.out | apply Zb | apply Za | apply Zc) | exact HB.out)))); have n2_ := Zd.mk (Zi (by repeat (first | (with_reducible first | exact HB.out | apply Zb | apply Za | apply Zc) | exact HB.out)) hb); clear HO_6; clear HB; have HO_6 := n0_; have HO245 := n1_; have HB := n2_; clear n0_ n1_ n2_; (try clear hb); (try clear hb2); (try clear hk); (try clear hi); (try clear ho0)))
      go_ret2
      exact ⟨_, by first | rfl | (simp [errW_none, errW_some] <;> rfl) | (simp [*, errW_none, errW_some] <;> rfl), by (with_reducible repeat (first | apply Kd.V_alloc | apply Kd.V_drewN | apply Kd.V_drew)); exact HO245.out, by repeat (first | (with_reducible first | exact HB.out | apply Zb | apply Za | apply Zc) | exact HB.out)⟩
  .
   rw [if_neg c4] at H
   exact absurd H (by simp)
 .
  rw [if_neg c3] at H
  exact absurd H (by simp)
end Go.Proofs.YthkklkjldpcbkaaGreatDoor.PSpec
