/- The reference's functions spec_Add, spec_Sub, spec_Cmp, spec_byDigit as Lean functions, each with the proof that Go comes to its answer: written for this claim by the kit's print program; these pieces of its texts stand here together. -/
import Derived.Test.YtefeijofhocnpaaGreatDoorKlSpec0
import Derived.Test.YtefeijofhocnpaaGreatDoorProg
import Derived.Below
import Derived.Deep.Draws
import Derived.Deep.AppendLies
import Derived.Maps.AppendAt
import Derived.OwnWalk
import Derived.Laws.BytesArg
import Derived.Laws.MakeOwn
import Derived.Laws.OwnMore
import Derived.Deep.OwnRows
import Derived.Tactics
import Derived.Lib.ConvBytes
import Derived.Laws.Slices
import Derived.WalkKit
import Derived.KernelRfl
import Derived.RowKit3
import Derived.Deep.LoopGhost
import Derived.Deep.QuietTactic
import Derived.BigQuiet
import Derived.WideLaws
import Derived.Deep.DeepCutAuto
import Derived.Deep.CutBlock
import Derived.Deep.RegionHeld3
import Derived.Laws.Rows
import Derived.Lib.AppendStr
import Derived.ArgAppend
import Derived.Laws.IdiomCopy
import Derived.OrdersHeld
import Derived.Laws.BitsLemmas
import Derived.RowKit
import Derived.Test.YtefeijofhocnpaaGreatDoorKlWWords
import Derived.Test.YtefeijofhocnpaaGreatDoorKlWLast
import Derived.Test.YtefeijofhocnpaaGreatDoorKlWTab
import Derived.Test.YtefeijofhocnpaaGreatDoorKlWFour
import Derived.Test.YtefeijofhocnpaaGreatDoorKlWQPut
import Derived.Test.YtefeijofhocnpaaGreatDoorKlWApart
import Derived.Test.YtefeijofhocnpaaGreatDoorKlWArr
import Derived.Test.YtefeijofhocnpaaGreatDoorKlWZeros
import Derived.Test.YtefeijofhocnpaaGreatDoorKlWFoot
import Derived.Test.YtefeijofhocnpaaGreatDoorKlWKept
import Derived.Test.YtefeijofhocnpaaGreatDoorKlWShare
import Derived.Test.YtefeijofhocnpaaGreatDoorKlWN
import Derived.Test.YtefeijofhocnpaaGreatDoorKlWFootNe
import Derived.Test.YtefeijofhocnpaaGreatDoorKlWAt
import Derived.Test.YtefeijofhocnpaaGreatDoorKlWEqStruct
import Derived.Test.YtefeijofhocnpaaGreatDoorKlWRepsOne
import Derived.Test.YtefeijofhocnpaaGreatDoorKlWInv
import Derived.Test.YtefeijofhocnpaaGreatDoorKlWInvWords
import Derived.Test.YtefeijofhocnpaaGreatDoorKlWGuard
import Derived.Test.YtefeijofhocnpaaGreatDoorKlWNEv
import Derived.Test.YtefeijofhocnpaaGreatDoorKlWMore
namespace Go.Proofs.YtefeijofhocnpaaGreatDoor.PSpec
open Go.RowKit Go.Proofs.YtefeijofhocnpaaGreatDoorW.PrintWords Go.Proofs.YtefeijofhocnpaaGreatDoorW.PrintLast Go.Proofs.YtefeijofhocnpaaGreatDoorW.PrintMore
attribute [local go_sem] max2_int min2_int max_two min_two max_three min_three max_four min_four   -- for this text's walks alone
set_option linter.unusedVariables false
set_option linter.unusedSimpArgs false
mutual
def spec_Add.l0 : Nat → List Int → List Int → List Int → Int → Int → Option (List Int)
  | 0, _, _, _, _, _ => none
  | k + 1, x0, x1, x5, x6, x7 => if x7 < (x0.length : Int) then (spec_Add.j1 k x0 x1 x5 x6 x7 true) else (spec_Add.j1 k x0 x1 x5 x6 x7 (decide (x7 < (x1.length : Int))))
def spec_Add.j1 : Nat → List Int → List Int → List Int → Int → Int → Bool → Option (List Int)
  | 0, _, _, _, _, _, _ => none
  | k + 1, x0, x1, x5, x6, x7, x18 => if x18 = true then (if x7 < (x0.length : Int) then (if 0 ≤ x7 then (if x7 < (x1.length : Int) then (if x5.length < 17592186044416 then (spec_Add.l0 k x0 x1 (x5 ++ [Int.tmod (wrap64 ((wrap64 (x6 + (rd x0 x7))) + (rd x1 x7))) 65536]) (wrap64 (Int.tdiv (wrap64 ((wrap64 (x6 + (rd x0 x7))) + (rd x1 x7))) 65536)) (wrap64 (x7 + 1))) else (none)) else (if x5.length < 17592186044416 then (spec_Add.l0 k x0 x1 (x5 ++ [Int.tmod (wrap64 (x6 + (rd x0 x7))) 65536]) (wrap64 (Int.tdiv (wrap64 (x6 + (rd x0 x7))) 65536)) (wrap64 (x7 + 1))) else (none))) else (none)) else (if x7 < (x1.length : Int) then (if 0 ≤ x7 then (if x5.length < 17592186044416 then (spec_Add.l0 k x0 x1 (x5 ++ [Int.tmod (wrap64 (x6 + (rd x1 x7))) 65536]) (wrap64 (Int.tdiv (wrap64 (x6 + (rd x1 x7))) 65536)) (wrap64 (x7 + 1))) else (none)) else (none)) else (if x5.length < 17592186044416 then (spec_Add.l0 k x0 x1 (x5 ++ [Int.tmod x6 65536]) (wrap64 (Int.tdiv x6 65536)) (wrap64 (x7 + 1))) else (none)))) else (if x5.length < 17592186044416 then ((spec_cut.f k (x5 ++ [x6])).bind fun t196 => (some t196)) else (none))
end
def spec_Add.f (k : Nat) (l0 : List Int) (l1 : List Int) : Option (List Int) := spec_Add.l0 k l0 l1 (([] : List Int)) 0 0
theorem spec_Add.mono_l : ∀ k, (∀ y0 y1 y2 y3 y4, LeO (spec_Add.l0 k y0 y1 y2 y3 y4) (spec_Add.l0 (k + 1) y0 y1 y2 y3 y4)) ∧ (∀ y0 y1 y2 y3 y4 y5, LeO (spec_Add.j1 k y0 y1 y2 y3 y4 y5) (spec_Add.j1 (k + 1) y0 y1 y2 y3 y4 y5))
  | 0 => ⟨fun _ _ _ _ _ r h => by simp [spec_Add.l0] at h, fun _ _ _ _ _ _ r h => by simp [spec_Add.j1] at h⟩
  | k + 1 => by
    obtain ⟨ih0, ih1⟩ := spec_Add.mono_l k
    refine ⟨?_, ?_⟩
    · intro y0 y1 y2 y3 y4
      unfold spec_Add.l0
      repeat' first
      | (with_reducible exact ih0 _ _ _ _ _)
      | (with_reducible exact ih1 _ _ _ _ _ _)
      | (with_reducible exact spec_cut.mono _ _)
      | (with_reducible exact LeO.refl _)
      | (with_reducible exact LeO.none _)
      | (with_reducible refine LeO.ite ?_ ?_)
      | (with_reducible refine LeO.bind ?_ (fun _ => ?_))
      | exact ih0 _ _ _ _ _
      | exact ih1 _ _ _ _ _ _
      | exact spec_cut.mono _ _
      | exact LeO.none _
      | refine LeO.ite ?_ ?_
      | refine LeO.bind ?_ (fun _ => ?_)
    · intro y0 y1 y2 y3 y4 y5
      unfold spec_Add.j1
      repeat' first
      | (with_reducible exact ih0 _ _ _ _ _)
      | (with_reducible exact ih1 _ _ _ _ _ _)
      | (with_reducible exact spec_cut.mono _ _)
      | (with_reducible exact LeO.refl _)
      | (with_reducible exact LeO.none _)
      | (with_reducible refine LeO.ite ?_ ?_)
      | (with_reducible refine LeO.bind ?_ (fun _ => ?_))
      | exact ih0 _ _ _ _ _
      | exact ih1 _ _ _ _ _ _
      | exact spec_cut.mono _ _
      | exact LeO.none _
      | refine LeO.ite ?_ ?_
      | refine LeO.bind ?_ (fun _ => ?_)
theorem spec_Add.mono : ∀ a0 a1 k, LeO (spec_Add.f k a0 a1) (spec_Add.f (k + 1) a0 a1) := by
  intro a0 a1 k
  obtain ⟨ih0, ih1⟩ := spec_Add.mono_l k
  unfold spec_Add.f
  repeat' first
      | (with_reducible exact ih0 _ _ _ _ _)
      | (with_reducible exact ih1 _ _ _ _ _ _)
      | (with_reducible exact spec_cut.mono _ _)
      | (with_reducible exact LeO.refl _)
      | (with_reducible exact LeO.none _)
      | (with_reducible refine LeO.ite ?_ ?_)
      | (with_reducible refine LeO.bind ?_ (fun _ => ?_))
      | exact ih0 _ _ _ _ _
      | exact ih1 _ _ _ _ _ _
      | exact spec_cut.mono _ _
      | exact LeO.none _
      | refine LeO.ite ?_ ?_
      | refine LeO.bind ?_ (fun _ => ?_)
set_option maxHeartbeats 8000000 in
set_option maxRecDepth 100000 in
theorem spec_Add.calls (k : Nat) (A0 : Option Addr) (c0 : Nat) (l0 : List Int) (A1 : Option Addr) (c1 : Nat) (l1 : List Int) (r : List Int) (w : World) (hr0 : Kd.C (Kd.int .i64) w A0 l0.length l0) (hc0 : l0.length ≤ c0) (hr1 : Kd.C (Kd.int .i64) w A1 l1.length l1) (hc1 : l1.length ≤ c1) (h : spec_Add.f k l0 l1 = some r) :
    Calls Tryz.prog 55 #[.slice A0 l0.length c0, .slice A1 l1.length c1] w fun e w' => ∃ v0_ : Value, e = .returned (v0_) ∧ Kd.V (Kd.int .i64) 3 w' w.heap.size (fun k_ => (w.heap.size ≤ k_)) v0_ r ∧ Below w.heap.size w w' := by
  have HR0 := Aside0.mk hr0
  have HC0 := Aside0.mk hc0
  clear hr0 hc0
  have HR1 := Aside0.mk hr1
  have HC1 := Aside0.mk hc1
  clear hr1 hc1
  have HB := Aside0.mk (Below.refl w.heap.size w)
  have H : (spec_Add.l0 k l0 l1 (([] : List Int)) 0 0) = some r := h
  clear h
  obtain ⟨y190, hy190⟩ : ∃ y_ : List Int, y_ = (([] : List Int)) := ⟨_, rfl⟩
  replace H : (spec_Add.l0 k l0 l1 y190 0 0) = some r := by first | (rw [hy190]; with_reducible exact H) | (have H2_ := (Option.bind_some _ _).symm.trans H; rw [hy190]; with_reducible exact H2_) | (have H2_ := (Option.bind_some _ _).symm.trans H; with_reducible exact H2_) | with_reducible exact H | (rw [hy190]; exact H) | exact H
  have Ny190 := Aside0.mk hy190
  clear hy190
  have H' := Aside0.mk H
  clear H
  go_enter Tryz.func55, Tryz.ntmps55
  go_wp2_with (first | ((with_reducible refine gate_dst (N := 8) rfl ?_); (try (refine gate_guard (by rfl) ?_; dsimp only)); refine Kd.R_lit (Kd.int .i64) _ 3 ?hg (N := 8) ?hd (xs := ([] : List Int)) (inner := []) (ok := fun _ => True) (okp := fun _ => True) ?hr ?hp (fun _ hk => hk) trivial (Below.refl _ _) (Nat.le_refl _) (by simp) ?_; (case hd => rfl); (case hg => rfl); (case hr => first | (go_simp; done) | (go_simp; rfl)); (case hp => exact (Reps.none _ _)); intro v191 w3 ho4 hb hg_ hnew_; clear hg_ hnew_; (first | rw [← Ny190.out] at ho4 | (simp only [Int.reduceToNat] at ho4; rw [← Ny190.out] at ho4)); have n0_ := Aside0.mk (Kd.R_lower (Kd.R_newM (M := fun k_ => (w.heap.size ≤ k_)) ho4 (below_size (by repeat (first | (with_reducible first | exact HB.out | apply below_alloc | apply pw_below_drewN | apply below_drew1) | exact HB.out))) (fun k_ h_ => h_)) (below_size (by repeat (first | (with_reducible first | exact HB.out | apply below_alloc | apply pw_below_drewN | apply below_drew1) | exact HB.out)))); have n1_ := Aside0.mk (below_step (by repeat (first | (with_reducible first | exact HB.out | apply below_alloc | apply pw_below_drewN | apply below_drew1) | exact HB.out)) hb); clear HB; have HO192 := n0_; have HB := n1_; clear n0_ n1_; clear hb ho4))
  go_loopg [5, 6, 7] k (fun kq v5 v6 v7 w' => ∃ (x5_1 : List Int) (x6_1 : Int) (x7_1 : Int), v6 = .int .i64 x6_1 ∧ v7 = .int .i64 x7_1 ∧ Aside0 (spec_Add.l0 kq l0 l1 x5_1 x6_1 x7_1 = some r) ∧ Aside0 (kq ≤ k) ∧ Aside0 (Kd.R (Kd.int .i64) 3 w' w.heap.size (fun k_ => (w.heap.size ≤ k_)) v5 x5_1) ∧ Aside0 (Below w.heap.size w w'))
  case atStart => exact ⟨(y190), (0), (0), (by first | rfl | (simp; done) | (simp [*]; done)), (by first | rfl | (simp; done) | (simp [*]; done)), H', ⟨Nat.le_refl _⟩, ⟨by (with_reducible repeat (first | apply Kd.R_alloc | apply Kd.R_drewN | apply Kd.R_drew)); exact Kd.R_mono HO192.out (fun _ hk => hk.1)⟩, ⟨by repeat (first | (with_reducible first | exact HB.out | apply below_alloc | apply pw_below_drewN | apply below_drew1) | exact HB.out)⟩⟩
  case round =>
    clear H'
    try clear c1
    try clear p2
    obtain ⟨x5_1, x6_1, x7_1, rfl, rfl, HA, HK1, HO_5, HB⟩ := hrel
    cases gk with
    | zero => exact absurd HA.out (by simp [spec_Add.l0])
    | succ k1 =>
      have H := HA.out
      clear HA
      simp only [spec_Add.l0] at H
      have HC5 := Aside0.mk H
      clear H
      go_upto_region 4 with (fail)
      go_cut [18] (fun v18 wc => ∃ (kq : Nat) (x18_4 : Bool), v18 = .bool x18_4 ∧ Aside0 (spec_Add.j1 kq l0 l1 x5_1 x6_1 x7_1 x18_4 = some r) ∧ Aside0 (kq ≤ k1) ∧ Aside0 (Kd.R (Kd.int .i64) 3 wc w.heap.size (fun k_ => (w.heap.size ≤ k_)) u5 x5_1) ∧ Aside0 (Below w.heap.size w wc))
      case first =>
        have H := HC5.out
        clear HC5
        by_cases c6 : x7_1 < (l0.length : Int)
        · rw [if_pos c6] at H
          have c6b0 : decide (x7_1 < (l0.length : Int)) = true := decide_eq_true c6
          clear c6
          (first | rw [c6b0] | (simp only [i64_w, i32_w]; rw [c6b0]) | skip)
          have H' := Aside0.mk H
          clear H
          go_wp2
          go_meet
          case rel => exact ⟨_, (true), (by first | rfl | (simp; done) | (simp [*]; done)), H', ⟨by have := HK1.out; first | omega | exact Nat.le_refl _⟩, ⟨by (with_reducible repeat (first | apply Kd.R_alloc | apply Kd.R_drewN | apply Kd.R_drew)); exact HO_5.out⟩, ⟨by repeat (first | (with_reducible first | exact HB.out | apply below_alloc | apply pw_below_drewN | apply below_drew1) | exact HB.out)⟩⟩
        · rw [if_neg c6] at H
          have c6b0 : decide (x7_1 < (l0.length : Int)) = false := decide_eq_false c6
          clear c6
          (first | rw [c6b0] | (simp only [i64_w, i32_w]; rw [c6b0]) | skip)
          have H' := Aside0.mk H
          clear H
          go_wp2
          go_meet
          case rel => exact ⟨_, (decide (x7_1 < (l1.length : Int))), (by first | rfl | (simp; done) | (simp [*]; done)), H', ⟨by have := HK1.out; first | omega | exact Nat.le_refl _⟩, ⟨by (with_reducible repeat (first | apply Kd.R_alloc | apply Kd.R_drewN | apply Kd.R_drew)); exact HO_5.out⟩, ⟨by repeat (first | (with_reducible first | exact HB.out | apply below_alloc | apply pw_below_drewN | apply below_drew1) | exact HB.out)⟩⟩
      case rest =>
        clear HC5
        try clear c1
        try clear p2
        try clear c5
        try clear c6
        try clear c6b0
        try clear p2
        obtain ⟨kq, x18_4, rfl, HA, HJ4, HO_5, HB⟩ := hcut
        cases kq with
        | zero => exact absurd HA.out (by simp [spec_Add.j1])
        | succ kj4 =>
          have H := HA.out
          clear HA
          simp only [spec_Add.j1] at H
          by_cases c7 : x18_4 = true
          · subst c7
            have H1 : (if x7_1 < (l0.length : Int) then (if 0 ≤ x7_1 then (if x7_1 < (l1.length : Int) then (if x5_1.length < 17592186044416 then (spec_Add.l0 kj4 l0 l1 (x5_1 ++ [Int.tmod (wrap64 ((wrap64 (x6_1 + (rd l0 x7_1))) + (rd l1 x7_1))) 65536]) (wrap64 (Int.tdiv (wrap64 ((wrap64 (x6_1 + (rd l0 x7_1))) + (rd l1 x7_1))) 65536)) (wrap64 (x7_1 + 1))) else (none)) else (if x5_1.length < 17592186044416 then (spec_Add.l0 kj4 l0 l1 (x5_1 ++ [Int.tmod (wrap64 (x6_1 + (rd l0 x7_1))) 65536]) (wrap64 (Int.tdiv (wrap64 (x6_1 + (rd l0 x7_1))) 65536)) (wrap64 (x7_1 + 1))) else (none))) else (none)) else (if x7_1 < (l1.length : Int) then (if 0 ≤ x7_1 then (if x5_1.length < 17592186044416 then (spec_Add.l0 kj4 l0 l1 (x5_1 ++ [Int.tmod (wrap64 (x6_1 + (rd l1 x7_1))) 65536]) (wrap64 (Int.tdiv (wrap64 (x6_1 + (rd l1 x7_1))) 65536)) (wrap64 (x7_1 + 1))) else (none)) else (none)) else (if x5_1.length < 17592186044416 then (spec_Add.l0 kj4 l0 l1 (x5_1 ++ [Int.tmod x6_1 65536]) (wrap64 (Int.tdiv x6_1 65536)) (wrap64 (x7_1 + 1))) else (none)))) = some r := by rw [if_pos rfl] at H; exact H
            clear H
            have H := H1
            clear H1
            by_cases c8 : x7_1 < (l0.length : Int)
            · rw [if_pos c8] at H
              have c8b0 : decide (x7_1 < (l0.length : Int)) = true := decide_eq_true c8
              clear c8
              by_cases c9 : 0 ≤ x7_1
              · rw [if_pos c9] at H
                have c9b0 : decide (0 ≤ x7_1) = true := decide_eq_true c9
                clear c9
                by_cases c10 : x7_1 < (l1.length : Int)
                · rw [if_pos c10] at H
                  have c10b0 : decide (x7_1 < (l1.length : Int)) = true := decide_eq_true c10
                  clear c10
                  by_cases c11 : x5_1.length < 17592186044416
                  · rw [if_pos c11] at H
                    have LMc11 := Aside0.mk c11
                    clear c11
                    obtain ⟨y201, hy201⟩ : ∃ y_ : List Int, y_ = (x5_1 ++ [Int.tmod (wrap64 ((wrap64 (x6_1 + (rd l0 x7_1))) + (rd l1 x7_1))) 65536]) := ⟨_, rfl⟩
                    replace H : (spec_Add.l0 kj4 l0 l1 y201 (wrap64 (Int.tdiv (wrap64 ((wrap64 (x6_1 + (rd l0 x7_1))) + (rd l1 x7_1))) 65536)) (wrap64 (x7_1 + 1))) = some r := by first | (rw [hy201]; with_reducible exact H) | (have H2_ := (Option.bind_some _ _).symm.trans H; rw [hy201]; with_reducible exact H2_) | (have H2_ := (Option.bind_some _ _).symm.trans H; with_reducible exact H2_) | with_reducible exact H | (rw [hy201]; exact H) | exact H
                    have Ny201 := Aside0.mk hy201
                    clear hy201
                    have H' := Aside0.mk H
                    clear H
                    have p199 : 0 ≤ (x7_1 : Int) := of_decide_eq_true (by first | (with_reducible assumption) | assumption)
                    have q199 : x7_1 < (l0.length : Int) := of_decide_eq_true (by first | (with_reducible assumption) | assumption)
                    obtain ⟨ad199, e199, hx199_0⟩ := Kd.at_int HR0.out x7_1 p199 q199
                    cases e199
                    replace hx199_0 := (HB.out.cell (World.block_lt_of_cell? w _ hx199_0)).trans hx199_0
                    replace p199 := eq_true p199
                    replace q199 := eq_true q199
                    have p200 : 0 ≤ (x7_1 : Int) := of_decide_eq_true (by first | (with_reducible assumption) | assumption)
                    have q200 : x7_1 < (l1.length : Int) := of_decide_eq_true (by first | (with_reducible assumption) | assumption)
                    obtain ⟨ad200, e200, hx200_0⟩ := Kd.at_int HR1.out x7_1 p200 q200
                    cases e200
                    replace hx200_0 := (HB.out.cell (World.block_lt_of_cell? w _ hx200_0)).trans hx200_0
                    replace p200 := eq_true p200
                    replace q200 := eq_true q200
                    go_wp2_with (first | ((with_reducible refine gate_builtin (b := .append) (xs := #[.tmp 41, .tmp 44]) rfl ?_); (try (refine gate_guard (by rfl) ?_; dsimp only)); at_builtin; refine Kd.R_append (Kd.int .i64) (w0 := w) w.heap.size rfl (.tmp 41) (.tmp 44) 24 3 (.int .i64 0) 8 rfl Tryz.underlying24 info3 rfl (by decide) (by omega) u5 x5_1 (Int.tmod (wrap64 ((wrap64 (x6_1 + (rd l0 x7_1))) + (rd l1 x7_1))) 65536) [.int .i64 (Int.tmod (wrap64 ((wrap64 (x6_1 + (rd l0 x7_1))) + (rd l1 x7_1))) 65536)] (fun k_ => (w.heap.size ≤ k_)) (fun _ => False) rfl rfl ?aP (fun _ hk => hk.elim) ?aF ?aO ?aB ?aS ?aL ?_; (case aP => exact rfl); (case aB => exact (by repeat (first | (with_reducible first | exact HB.out | apply below_alloc | apply pw_below_drewN | apply below_drew1) | exact HB.out))); (case aF => exact (fun k_ hk => (Nat.le_trans (below_size (by repeat (first | (with_reducible first | exact HB.out | apply below_alloc | apply pw_below_drewN | apply below_drew1) | exact HB.out))) hk))); (case aO => exact (by (with_reducible repeat (first | apply Kd.R_alloc | apply Kd.R_drewN | apply Kd.R_drew)); exact HO_5.out)); (case aS => exact (below_size (by repeat (first | (with_reducible first | exact HB.out | apply below_alloc | apply pw_below_drewN | apply below_drew1) | exact HB.out)))); (case aL => have := LMc11.out; omega); intro v202 w12 ho hb hg hat; rw [← Ny201.out] at ho; have n0_ := Aside0.mk (hb); have n1_ := Aside0.mk (ho); clear HB; clear HO_5; have HB := n0_; have HO203 := n1_; clear n0_ n1_; clear ho hb hg hat))
                    go_roundg kj4
                    case measure => have := HK1.out; have := HJ4.out; omega
                    case rel => exact ⟨(y201), (wrap64 (Int.tdiv (wrap64 ((wrap64 (x6_1 + (rd l0 x7_1))) + (rd l1 x7_1))) 65536)), (wrap64 (x7_1 + 1)), (by first | rfl | (simp; done) | (simp [*]; done)), (by first | rfl | (simp; done) | (simp [*]; done)), H', ⟨by have := HK1.out; have := HJ4.out; omega⟩, ⟨by (with_reducible repeat (first | apply Kd.R_alloc | apply Kd.R_drewN | apply Kd.R_drew)); exact HO203.out⟩, ⟨by repeat (first | (with_reducible first | exact HB.out | apply below_alloc | apply pw_below_drewN | apply below_drew1) | exact HB.out)⟩⟩
                  · rw [if_neg c11] at H
                    exact absurd H (by simp)
                · rw [if_neg c10] at H
                  have c10b0 : decide (x7_1 < (l1.length : Int)) = false := decide_eq_false c10
                  clear c10
                  by_cases c13 : x5_1.length < 17592186044416
                  · rw [if_pos c13] at H
                    have LMc13 := Aside0.mk c13
                    clear c13
                    obtain ⟨y204, hy204⟩ : ∃ y_ : List Int, y_ = (x5_1 ++ [Int.tmod (wrap64 (x6_1 + (rd l0 x7_1))) 65536]) := ⟨_, rfl⟩
                    replace H : (spec_Add.l0 kj4 l0 l1 y204 (wrap64 (Int.tdiv (wrap64 (x6_1 + (rd l0 x7_1))) 65536)) (wrap64 (x7_1 + 1))) = some r := by first | (rw [hy204]; with_reducible exact H) | (have H2_ := (Option.bind_some _ _).symm.trans H; rw [hy204]; with_reducible exact H2_) | (have H2_ := (Option.bind_some _ _).symm.trans H; with_reducible exact H2_) | with_reducible exact H | (rw [hy204]; exact H) | exact H
                    have Ny204 := Aside0.mk hy204
                    clear hy204
                    have H' := Aside0.mk H
                    clear H
                    have p199 : 0 ≤ (x7_1 : Int) := of_decide_eq_true (by first | (with_reducible assumption) | assumption)
                    have q199 : x7_1 < (l0.length : Int) := of_decide_eq_true (by first | (with_reducible assumption) | assumption)
                    obtain ⟨ad199, e199, hx199_0⟩ := Kd.at_int HR0.out x7_1 p199 q199
                    cases e199
                    replace hx199_0 := (HB.out.cell (World.block_lt_of_cell? w _ hx199_0)).trans hx199_0
                    replace p199 := eq_true p199
                    replace q199 := eq_true q199
                    go_wp2_with (first | ((with_reducible refine gate_builtin (b := .append) (xs := #[.tmp 41, .tmp 44]) rfl ?_); (try (refine gate_guard (by rfl) ?_; dsimp only)); at_builtin; refine Kd.R_append (Kd.int .i64) (w0 := w) w.heap.size rfl (.tmp 41) (.tmp 44) 24 3 (.int .i64 0) 8 rfl Tryz.underlying24 info3 rfl (by decide) (by omega) u5 x5_1 (Int.tmod (wrap64 (x6_1 + (rd l0 x7_1))) 65536) [.int .i64 (Int.tmod (wrap64 (x6_1 + (rd l0 x7_1))) 65536)] (fun k_ => (w.heap.size ≤ k_)) (fun _ => False) rfl rfl ?aP (fun _ hk => hk.elim) ?aF ?aO ?aB ?aS ?aL ?_; (case aP => exact rfl); (case aB => exact (by repeat (first | (with_reducible first | exact HB.out | apply below_alloc | apply pw_below_drewN | apply below_drew1) | exact HB.out))); (case aF => exact (fun k_ hk => (Nat.le_trans (below_size (by repeat (first | (with_reducible first | exact HB.out | apply below_alloc | apply pw_below_drewN | apply below_drew1) | exact HB.out))) hk))); (case aO => exact (by (with_reducible repeat (first | apply Kd.R_alloc | apply Kd.R_drewN | apply Kd.R_drew)); exact HO_5.out)); (case aS => exact (below_size (by repeat (first | (with_reducible first | exact HB.out | apply below_alloc | apply pw_below_drewN | apply below_drew1) | exact HB.out)))); (case aL => have := LMc13.out; omega); intro v205 w14 ho hb hg hat; rw [← Ny204.out] at ho; have n0_ := Aside0.mk (hb); have n1_ := Aside0.mk (ho); clear HB; clear HO_5; have HB := n0_; have HO206 := n1_; clear n0_ n1_; clear ho hb hg hat))
                    go_roundg kj4
                    case measure => have := HK1.out; have := HJ4.out; omega
                    case rel => exact ⟨(y204), (wrap64 (Int.tdiv (wrap64 (x6_1 + (rd l0 x7_1))) 65536)), (wrap64 (x7_1 + 1)), (by first | rfl | (simp; done) | (simp [*]; done)), (by first | rfl | (simp; done) | (simp [*]; done)), H', ⟨by have := HK1.out; have := HJ4.out; omega⟩, ⟨by (with_reducible repeat (first | apply Kd.R_alloc | apply Kd.R_drewN | apply Kd.R_drew)); exact HO206.out⟩, ⟨by repeat (first | (with_reducible first | exact HB.out | apply below_alloc | apply pw_below_drewN | apply below_drew1) | exact HB.out)⟩⟩
                  · rw [if_neg c13] at H
                    exact absurd H (by simp)
              · rw [if_neg c9] at H
                exact absurd H (by simp)
            · rw [if_neg c8] at H
              have c8b0 : decide (x7_1 < (l0.length : Int)) = false := decide_eq_false c8
              clear c8
              by_cases c15 : x7_1 < (l1.length : Int)
              · rw [if_pos c15] at H
                have c15b0 : decide (x7_1 < (l1.length : Int)) = true := decide_eq_true c15
                clear c15
                by_cases c16 : 0 ≤ x7_1
                · rw [if_pos c16] at H
                  have c16b0 : decide (0 ≤ x7_1) = true := decide_eq_true c16
                  clear c16
                  by_cases c17 : x5_1.length < 17592186044416
                  · rw [if_pos c17] at H
                    have LMc17 := Aside0.mk c17
                    clear c17
                    obtain ⟨y208, hy208⟩ : ∃ y_ : List Int, y_ = (x5_1 ++ [Int.tmod (wrap64 (x6_1 + (rd l1 x7_1))) 65536]) := ⟨_, rfl⟩
                    replace H : (spec_Add.l0 kj4 l0 l1 y208 (wrap64 (Int.tdiv (wrap64 (x6_1 + (rd l1 x7_1))) 65536)) (wrap64 (x7_1 + 1))) = some r := by first | (rw [hy208]; with_reducible exact H) | (have H2_ := (Option.bind_some _ _).symm.trans H; rw [hy208]; with_reducible exact H2_) | (have H2_ := (Option.bind_some _ _).symm.trans H; with_reducible exact H2_) | with_reducible exact H | (rw [hy208]; exact H) | exact H
                    have Ny208 := Aside0.mk hy208
                    clear hy208
                    have H' := Aside0.mk H
                    clear H
                    have p207 : 0 ≤ (x7_1 : Int) := of_decide_eq_true (by first | (with_reducible assumption) | assumption)
                    have q207 : x7_1 < (l1.length : Int) := of_decide_eq_true (by first | (with_reducible assumption) | assumption)
                    obtain ⟨ad207, e207, hx207_0⟩ := Kd.at_int HR1.out x7_1 p207 q207
                    cases e207
                    replace hx207_0 := (HB.out.cell (World.block_lt_of_cell? w _ hx207_0)).trans hx207_0
                    replace p207 := eq_true p207
                    replace q207 := eq_true q207
                    go_wp2_with (first | ((with_reducible refine gate_builtin (b := .append) (xs := #[.tmp 41, .tmp 44]) rfl ?_); (try (refine gate_guard (by rfl) ?_; dsimp only)); at_builtin; refine Kd.R_append (Kd.int .i64) (w0 := w) w.heap.size rfl (.tmp 41) (.tmp 44) 24 3 (.int .i64 0) 8 rfl Tryz.underlying24 info3 rfl (by decide) (by omega) u5 x5_1 (Int.tmod (wrap64 (x6_1 + (rd l1 x7_1))) 65536) [.int .i64 (Int.tmod (wrap64 (x6_1 + (rd l1 x7_1))) 65536)] (fun k_ => (w.heap.size ≤ k_)) (fun _ => False) rfl rfl ?aP (fun _ hk => hk.elim) ?aF ?aO ?aB ?aS ?aL ?_; (case aP => exact rfl); (case aB => exact (by repeat (first | (with_reducible first | exact HB.out | apply below_alloc | apply pw_below_drewN | apply below_drew1) | exact HB.out))); (case aF => exact (fun k_ hk => (Nat.le_trans (below_size (by repeat (first | (with_reducible first | exact HB.out | apply below_alloc | apply pw_below_drewN | apply below_drew1) | exact HB.out))) hk))); (case aO => exact (by (with_reducible repeat (first | apply Kd.R_alloc | apply Kd.R_drewN | apply Kd.R_drew)); exact HO_5.out)); (case aS => exact (below_size (by repeat (first | (with_reducible first | exact HB.out | apply below_alloc | apply pw_below_drewN | apply below_drew1) | exact HB.out)))); (case aL => have := LMc17.out; omega); intro v209 w18 ho hb hg hat; rw [← Ny208.out] at ho; have n0_ := Aside0.mk (hb); have n1_ := Aside0.mk (ho); clear HB; clear HO_5; have HB := n0_; have HO210 := n1_; clear n0_ n1_; clear ho hb hg hat))
                    go_roundg kj4
                    case measure => have := HK1.out; have := HJ4.out; omega
                    case rel => exact ⟨(y208), (wrap64 (Int.tdiv (wrap64 (x6_1 + (rd l1 x7_1))) 65536)), (wrap64 (x7_1 + 1)), (by first | rfl | (simp; done) | (simp [*]; done)), (by first | rfl | (simp; done) | (simp [*]; done)), H', ⟨by have := HK1.out; have := HJ4.out; omega⟩, ⟨by (with_reducible repeat (first | apply Kd.R_alloc | apply Kd.R_drewN | apply Kd.R_drew)); exact HO210.out⟩, ⟨by repeat (first | (with_reducible first | exact HB.out | apply below_alloc | apply pw_below_drewN | apply below_drew1) | exact HB.out)⟩⟩
                  · rw [if_neg c17] at H
                    exact absurd H (by simp)
                · rw [if_neg c16] at H
                  exact absurd H (by simp)
              · rw [if_neg c15] at H
                have c15b0 : decide (x7_1 < (l1.length : Int)) = false := decide_eq_false c15
                clear c15
                by_cases c19 : x5_1.length < 17592186044416
                · rw [if_pos c19] at H
                  have LMc19 := Aside0.mk c19
                  clear c19
                  obtain ⟨y211, hy211⟩ : ∃ y_ : List Int, y_ = (x5_1 ++ [Int.tmod x6_1 65536]) := ⟨_, rfl⟩
                  replace H : (spec_Add.l0 kj4 l0 l1 y211 (wrap64 (Int.tdiv x6_1 65536)) (wrap64 (x7_1 + 1))) = some r := by first | (rw [hy211]; with_reducible exact H) | (have H2_ := (Option.bind_some _ _).symm.trans H; rw [hy211]; with_reducible exact H2_) | (have H2_ := (Option.bind_some _ _).symm.trans H; with_reducible exact H2_) | with_reducible exact H | (rw [hy211]; exact H) | exact H
                  have Ny211 := Aside0.mk hy211
                  clear hy211
                  have H' := Aside0.mk H
                  clear H
                  go_wp2_with (first | ((with_reducible refine gate_builtin (b := .append) (xs := #[.tmp 41, .tmp 44]) rfl ?_); (try (refine gate_guard (by rfl) ?_; dsimp only)); at_builtin; refine Kd.R_append (Kd.int .i64) (w0 := w) w.heap.size rfl (.tmp 41) (.tmp 44) 24 3 (.int .i64 0) 8 rfl Tryz.underlying24 info3 rfl (by decide) (by omega) u5 x5_1 (Int.tmod x6_1 65536) [.int .i64 (Int.tmod x6_1 65536)] (fun k_ => (w.heap.size ≤ k_)) (fun _ => False) rfl rfl ?aP (fun _ hk => hk.elim) ?aF ?aO ?aB ?aS ?aL ?_; (case aP => exact rfl); (case aB => exact (by repeat (first | (with_reducible first | exact HB.out | apply below_alloc | apply pw_below_drewN | apply below_drew1) | exact HB.out))); (case aF => exact (fun k_ hk => (Nat.le_trans (below_size (by repeat (first | (with_reducible first | exact HB.out | apply below_alloc | apply pw_below_drewN | apply below_drew1) | exact HB.out))) hk))); (case aO => exact (by (with_reducible repeat (first | apply Kd.R_alloc | apply Kd.R_drewN | apply Kd.R_drew)); exact HO_5.out)); (case aS => exact (below_size (by repeat (first | (with_reducible first | exact HB.out | apply below_alloc | apply pw_below_drewN | apply below_drew1) | exact HB.out)))); (case aL => have := LMc19.out; omega); intro v212 w20 ho hb hg hat; rw [← Ny211.out] at ho; have n0_ := Aside0.mk (hb); have n1_ := Aside0.mk (ho); clear HB; clear HO_5; have HB := n0_; have HO213 := n1_; clear n0_ n1_; clear ho hb hg hat))
                  go_roundg kj4
                  case measure => have := HK1.out; have := HJ4.out; omega
                  case rel => exact ⟨(y211), (wrap64 (Int.tdiv x6_1 65536)), (wrap64 (x7_1 + 1)), (by first | rfl | (simp; done) | (simp [*]; done)), (by first | rfl | (simp; done) | (simp [*]; done)), H', ⟨by have := HK1.out; have := HJ4.out; omega⟩, ⟨by (with_reducible repeat (first | apply Kd.R_alloc | apply Kd.R_drewN | apply Kd.R_drew)); exact HO213.out⟩, ⟨by repeat (first | (with_reducible first | exact HB.out | apply below_alloc | apply pw_below_drewN | apply below_drew1) | exact HB.out)⟩⟩
                · rw [if_neg c19] at H
                  exact absurd H (by simp)
          · replace c7 := Bool.eq_false_iff.mpr c7
            subst c7
            have H1 : (if x5_1.length < 17592186044416 then ((spec_cut.f kj4 (x5_1 ++ [x6_1])).bind fun t196 => (some t196)) else (none)) = some r := by rw [if_neg (show ¬ (false = true) by decide)] at H; exact H
            clear H
            have H := H1
            clear H1
            by_cases c21 : x5_1.length < 17592186044416
            · rw [if_pos c21] at H
              have LMc21 := Aside0.mk c21
              clear c21
              obtain ⟨y193, hy193⟩ : ∃ y_ : List Int, y_ = (x5_1 ++ [x6_1]) := ⟨_, rfl⟩
              replace H : ((spec_cut.f kj4 y193).bind fun t196 => (some t196)) = some r := by first | (rw [hy193]; with_reducible exact H) | (have H2_ := (Option.bind_some _ _).symm.trans H; rw [hy193]; with_reducible exact H2_) | (have H2_ := (Option.bind_some _ _).symm.trans H; with_reducible exact H2_) | with_reducible exact H | (rw [hy193]; exact H) | exact H
              have Ny193 := Aside0.mk hy193
              clear hy193
              replace H := Option.bind_eq_some_iff.mp H
              obtain ⟨t196, A220, H⟩ := H
              replace H : (some t196) = some r := H
              have A22 := Aside0.mk A220
              clear A220
              obtain rfl := Option.some.inj H
              go_wp2_with (first | ((with_reducible refine gate_builtin (b := .append) (xs := #[.tmp 48, .tmp 50]) rfl ?_); (try (refine gate_guard (by rfl) ?_; dsimp only)); at_builtin; refine Kd.R_append (Kd.int .i64) (w0 := w) w.heap.size rfl (.tmp 48) (.tmp 50) 24 3 (.int .i64 0) 8 rfl Tryz.underlying24 info3 rfl (by decide) (by omega) u5 x5_1 x6_1 [.int .i64 x6_1] (fun k_ => (w.heap.size ≤ k_)) (fun _ => False) rfl rfl ?aP (fun _ hk => hk.elim) ?aF ?aO ?aB ?aS ?aL ?_; (case aP => exact rfl); (case aB => exact (by repeat (first | (with_reducible first | exact HB.out | apply below_alloc | apply pw_below_drewN | apply below_drew1) | exact HB.out))); (case aF => exact (fun k_ hk => (Nat.le_trans (below_size (by repeat (first | (with_reducible first | exact HB.out | apply below_alloc | apply pw_below_drewN | apply below_drew1) | exact HB.out))) hk))); (case aO => exact (by (with_reducible repeat (first | apply Kd.R_alloc | apply Kd.R_drewN | apply Kd.R_drew)); exact HO_5.out)); (case aS => exact (below_size (by repeat (first | (with_reducible first | exact HB.out | apply below_alloc | apply pw_below_drewN | apply below_drew1) | exact HB.out)))); (case aL => have := LMc21.out; omega); intro v194 w23 ho hb hg hat; rw [← Ny193.out] at ho; have n0_ := Aside0.mk (hb); have n1_ := Aside0.mk (ho); clear HB; clear HO_5; have HB := n0_; have HO195 := n1_; clear n0_ n1_; clear ho hb hg hat; obtain ⟨Ao24, co24, eo24⟩ := Kd.R_slice HO195.out; subst eo24) | ((with_reducible refine gate_callee (f := 49) rfl ?_); refine goesL_ (some 52) rfl rfl Tryz.func49 (by kernel_rfl) rfl #[.slice Ao24 y193.length co24] rfl (by (try simp only [List.map_toArray, List.map_cons, List.map_nil]); first | done | rfl | (simp only [List.length_drop, List.length_take]; rfl)) ?_; (with_reducible refine (spec_cut.calls kj4 (fun k_ => some k_ = (.slice Ao24 y193.length co24 : Value).ownBlock) _ _ y193 t196 _ ?side1 A22.out).mono ?_); (case side1 => exact Kd.R_V (Kd.R_tight rfl (HO195.out))); rintro e w25 ⟨v197, rfl, ho0, hb⟩; refine ⟨_, rfl, ?_⟩; have n0_ := Aside0.mk (Kd.R_below (by (with_reducible repeat (first | apply Kd.R_alloc | apply Kd.R_drewN | apply Kd.R_drew)); exact HO195.out) hb); have n1_ := Aside0.mk (Kd.V_lower (Kd.V_mono (ok' := fun k_ => (w.heap.size ≤ k_)) ho0 (fun k_ hk_ => Or.elim hk_ (fun hs_ => ((HO195.out).1 k_ hs_.symm)) (fun hn_ => (Nat.le_trans (below_size (by repeat (first | (with_reducible first | exact HB.out | apply below_alloc | apply pw_below_drewN | apply below_drew1) | exact HB.out))) hn_)))) (below_size (by repeat (first | (with_reducible first | exact HB.out | apply below_alloc | apply pw_below_drewN | apply below_drew1) | exact HB.out)))); have n2_ := Aside0.mk (below_step (by repeat (first | (with_reducible first | exact HB.out | apply below_alloc | apply pw_below_drewN | apply below_drew1) | exact HB.out)) hb); clear HO195; clear HB; have HO195 := n0_; have HO198 := n1_; have HB := n2_; clear n0_ n1_ n2_; (try clear hb); (try clear hb2); (try clear hk); (try clear hi); (try clear ho0)))
              go_ret
              exact ⟨_, by first | rfl | (simp [errW_none, errW_some] <;> rfl) | (simp [*, errW_none, errW_some] <;> rfl), by (with_reducible repeat (first | apply Kd.V_alloc | apply Kd.V_drewN | apply Kd.V_drew)); exact HO198.out, by repeat (first | (with_reducible first | exact HB.out | apply below_alloc | apply pw_below_drewN | apply below_drew1) | exact HB.out)⟩
            · rw [if_neg c21] at H
              exact absurd H (by simp)
def spec_Sub.l0 : Nat → List Int → List Int → List Int → Int → Int → Int → Option (List Int)
  | 0, _, _, _, _, _, _ => none
  | k + 1, x0, x1, x5, x6, x11, x12 => if x12 < x11 then (if 0 ≤ x12 then (if x12 < (x0.length : Int) then (if x12 < (x1.length : Int) then (if (wrap64 ((wrap64 ((rd x0 x12) - x6)) - (rd x1 x12))) < 0 then (if x5.length < 17592186044416 then (spec_Sub.l0 k x0 x1 (x5 ++ [wrap64 ((wrap64 ((wrap64 ((rd x0 x12) - x6)) - (rd x1 x12))) + 65536)]) 1 x11 (wrap64 (x12 + 1))) else (none)) else (if x5.length < 17592186044416 then (spec_Sub.l0 k x0 x1 (x5 ++ [wrap64 ((wrap64 ((rd x0 x12) - x6)) - (rd x1 x12))]) 0 x11 (wrap64 (x12 + 1))) else (none))) else (if (wrap64 ((rd x0 x12) - x6)) < 0 then (if x5.length < 17592186044416 then (spec_Sub.l0 k x0 x1 (x5 ++ [wrap64 ((wrap64 ((rd x0 x12) - x6)) + 65536)]) 1 x11 (wrap64 (x12 + 1))) else (none)) else (if x5.length < 17592186044416 then (spec_Sub.l0 k x0 x1 (x5 ++ [wrap64 ((rd x0 x12) - x6)]) 0 x11 (wrap64 (x12 + 1))) else (none)))) else (none)) else (none)) else ((spec_cut.f k x5).bind fun t169 => (some t169))
def spec_Sub.f (k : Nat) (l0 : List Int) (l1 : List Int) : Option (List Int) := spec_Sub.l0 k l0 l1 (([] : List Int)) 0 (l0.length : Int) 0
theorem spec_Sub.mono_l : ∀ k, (∀ y0 y1 y2 y3 y4 y5, LeO (spec_Sub.l0 k y0 y1 y2 y3 y4 y5) (spec_Sub.l0 (k + 1) y0 y1 y2 y3 y4 y5))
  | 0 => fun _ _ _ _ _ _ r h => by simp [spec_Sub.l0] at h
  | k + 1 => by
    have ih0 := spec_Sub.mono_l k
    · intro y0 y1 y2 y3 y4 y5
      unfold spec_Sub.l0
      repeat' first
      | (with_reducible exact ih0 _ _ _ _ _ _)
      | (with_reducible exact spec_cut.mono _ _)
      | (with_reducible exact LeO.refl _)
      | (with_reducible exact LeO.none _)
      | (with_reducible refine LeO.ite ?_ ?_)
      | (with_reducible refine LeO.bind ?_ (fun _ => ?_))
      | exact ih0 _ _ _ _ _ _
      | exact spec_cut.mono _ _
      | exact LeO.none _
      | refine LeO.ite ?_ ?_
      | refine LeO.bind ?_ (fun _ => ?_)
theorem spec_Sub.mono : ∀ a0 a1 k, LeO (spec_Sub.f k a0 a1) (spec_Sub.f (k + 1) a0 a1) := by
  intro a0 a1 k
  have ih0 := spec_Sub.mono_l k
  unfold spec_Sub.f
  repeat' first
      | (with_reducible exact ih0 _ _ _ _ _ _)
      | (with_reducible exact spec_cut.mono _ _)
      | (with_reducible exact LeO.refl _)
      | (with_reducible exact LeO.none _)
      | (with_reducible refine LeO.ite ?_ ?_)
      | (with_reducible refine LeO.bind ?_ (fun _ => ?_))
      | exact ih0 _ _ _ _ _ _
      | exact spec_cut.mono _ _
      | exact LeO.none _
      | refine LeO.ite ?_ ?_
      | refine LeO.bind ?_ (fun _ => ?_)
set_option maxHeartbeats 8000000 in
set_option maxRecDepth 100000 in
theorem spec_Sub.calls (k : Nat) (A0 : Option Addr) (c0 : Nat) (l0 : List Int) (A1 : Option Addr) (c1 : Nat) (l1 : List Int) (r : List Int) (w : World) (hr0 : Kd.C (Kd.int .i64) w A0 l0.length l0) (hc0 : l0.length ≤ c0) (hr1 : Kd.C (Kd.int .i64) w A1 l1.length l1) (hc1 : l1.length ≤ c1) (h : spec_Sub.f k l0 l1 = some r) :
    Calls Tryz.prog 37 #[.slice A0 l0.length c0, .slice A1 l1.length c1] w fun e w' => ∃ v0_ : Value, e = .returned (v0_) ∧ Kd.V (Kd.int .i64) 3 w' w.heap.size (fun k_ => (w.heap.size ≤ k_)) v0_ r ∧ Below w.heap.size w w' := by
  have HR0 := Aside0.mk hr0
  have HC0 := Aside0.mk hc0
  clear hr0 hc0
  have HR1 := Aside0.mk hr1
  have HC1 := Aside0.mk hc1
  clear hr1 hc1
  have HB := Aside0.mk (Below.refl w.heap.size w)
  have H : (spec_Sub.l0 k l0 l1 (([] : List Int)) 0 (l0.length : Int) 0) = some r := h
  clear h
  obtain ⟨y166, hy166⟩ : ∃ y_ : List Int, y_ = (([] : List Int)) := ⟨_, rfl⟩
  replace H : (spec_Sub.l0 k l0 l1 y166 0 (l0.length : Int) 0) = some r := by first | (rw [hy166]; with_reducible exact H) | (have H2_ := (Option.bind_some _ _).symm.trans H; rw [hy166]; with_reducible exact H2_) | (have H2_ := (Option.bind_some _ _).symm.trans H; with_reducible exact H2_) | with_reducible exact H | (rw [hy166]; exact H) | exact H
  have Ny166 := Aside0.mk hy166
  clear hy166
  have H' := Aside0.mk H
  clear H
  go_enter Tryz.func37, Tryz.ntmps37
  go_wp2_with (first | ((with_reducible refine gate_dst (N := 9) rfl ?_); refine Kd.R_lit (Kd.int .i64) _ 3 ?hg (N := 9) ?hd (xs := ([] : List Int)) (inner := []) (ok := fun _ => True) (okp := fun _ => True) ?hr ?hp (fun _ hk => hk) trivial (Below.refl _ _) (Nat.le_refl _) (by simp) ?_; (case hd => rfl); (case hg => rfl); (case hr => first | (go_simp; done) | (go_simp; rfl)); (case hp => exact (Reps.none _ _)); intro v167 w3 ho4 hb hg_ hnew_; clear hg_ hnew_; (first | rw [← Ny166.out] at ho4 | (simp only [Int.reduceToNat] at ho4; rw [← Ny166.out] at ho4)); have n0_ := Aside0.mk (Kd.R_lower (Kd.R_newM (M := fun k_ => (w.heap.size ≤ k_)) ho4 (below_size (by repeat (first | (with_reducible first | exact HB.out | apply below_alloc | apply pw_below_drewN | apply below_drew1) | exact HB.out))) (fun k_ h_ => h_)) (below_size (by repeat (first | (with_reducible first | exact HB.out | apply below_alloc | apply pw_below_drewN | apply below_drew1) | exact HB.out)))); have n1_ := Aside0.mk (below_step (by repeat (first | (with_reducible first | exact HB.out | apply below_alloc | apply pw_below_drewN | apply below_drew1) | exact HB.out)) hb); clear HB; have HO168 := n0_; have HB := n1_; clear n0_ n1_; clear hb ho4))
  go_loopg [5, 6, 12] k (fun kq v5 v6 v12 w' => ∃ (x5_1 : List Int) (x6_1 : Int) (x12_1 : Int), v6 = .int .i64 x6_1 ∧ v12 = .int .i64 x12_1 ∧ Aside0 (spec_Sub.l0 kq l0 l1 x5_1 x6_1 (l0.length : Int) x12_1 = some r) ∧ Aside0 (kq ≤ k) ∧ Aside0 (Kd.R (Kd.int .i64) 3 w' w.heap.size (fun k_ => (w.heap.size ≤ k_)) v5 x5_1) ∧ Aside0 (Below w.heap.size w w'))
  case atStart => exact ⟨(y166), (0), (0), (by first | rfl | (simp; done) | (simp [*]; done)), (by first | rfl | (simp; done) | (simp [*]; done)), H', ⟨Nat.le_refl _⟩, ⟨by (with_reducible repeat (first | apply Kd.R_alloc | apply Kd.R_drewN | apply Kd.R_drew)); exact Kd.R_mono HO168.out (fun _ hk => hk.1)⟩, ⟨by repeat (first | (with_reducible first | exact HB.out | apply below_alloc | apply pw_below_drewN | apply below_drew1) | exact HB.out)⟩⟩
  case round =>
    clear H'
    try clear c1
    try clear p2
    try clear c3
    obtain ⟨x5_1, x6_1, x12_1, rfl, rfl, HA, HK1, HO_5, HB⟩ := hrel
    cases gk with
    | zero => exact absurd HA.out (by simp [spec_Sub.l0])
    | succ k1 =>
      have H := HA.out
      clear HA
      simp only [spec_Sub.l0] at H
      by_cases c5 : x12_1 < (l0.length : Int)
      · rw [if_pos c5] at H
        have c5b0 : decide (x12_1 < (l0.length : Int)) = true := decide_eq_true c5
        clear c5
        by_cases c6 : 0 ≤ x12_1
        · rw [if_pos c6] at H
          have c6b0 : decide (0 ≤ x12_1) = true := decide_eq_true c6
          clear c6
          by_cases c7 : x12_1 < (l0.length : Int)
          · rw [if_pos c7] at H
            have c7b0 : decide (x12_1 < (l0.length : Int)) = true := decide_eq_true c7
            clear c7
            by_cases c8 : x12_1 < (l1.length : Int)
            · rw [if_pos c8] at H
              have c8b0 : decide (x12_1 < (l1.length : Int)) = true := decide_eq_true c8
              clear c8
              by_cases c9 : (wrap64 ((wrap64 ((rd l0 x12_1) - x6_1)) - (rd l1 x12_1))) < 0
              · rw [if_pos c9] at H
                have c9b0 : decide ((wrap64 ((wrap64 ((rd l0 x12_1) - x6_1)) - (rd l1 x12_1))) < 0) = true := decide_eq_true c9
                clear c9
                by_cases c10 : x5_1.length < 17592186044416
                · rw [if_pos c10] at H
                  have LMc10 := Aside0.mk c10
                  clear c10
                  obtain ⟨y174, hy174⟩ : ∃ y_ : List Int, y_ = (x5_1 ++ [wrap64 ((wrap64 ((wrap64 ((rd l0 x12_1) - x6_1)) - (rd l1 x12_1))) + 65536)]) := ⟨_, rfl⟩
                  replace H : (spec_Sub.l0 k1 l0 l1 y174 1 (l0.length : Int) (wrap64 (x12_1 + 1))) = some r := by first | (rw [hy174]; with_reducible exact H) | (have H2_ := (Option.bind_some _ _).symm.trans H; rw [hy174]; with_reducible exact H2_) | (have H2_ := (Option.bind_some _ _).symm.trans H; with_reducible exact H2_) | with_reducible exact H | (rw [hy174]; exact H) | exact H
                  have Ny174 := Aside0.mk hy174
                  clear hy174
                  have H' := Aside0.mk H
                  clear H
                  have p172 : 0 ≤ (x12_1 : Int) := of_decide_eq_true (by first | (with_reducible assumption) | assumption)
                  have q172 : x12_1 < (l0.length : Int) := of_decide_eq_true (by first | (with_reducible assumption) | assumption)
                  obtain ⟨ad172, e172, hx172_0⟩ := Kd.at_int HR0.out x12_1 p172 q172
                  cases e172
                  replace hx172_0 := (HB.out.cell (World.block_lt_of_cell? w _ hx172_0)).trans hx172_0
                  replace p172 := eq_true p172
                  replace q172 := eq_true q172
                  have p173 : 0 ≤ (x12_1 : Int) := of_decide_eq_true (by first | (with_reducible assumption) | assumption)
                  have q173 : x12_1 < (l1.length : Int) := of_decide_eq_true (by first | (with_reducible assumption) | assumption)
                  obtain ⟨ad173, e173, hx173_0⟩ := Kd.at_int HR1.out x12_1 p173 q173
                  cases e173
                  replace hx173_0 := (HB.out.cell (World.block_lt_of_cell? w _ hx173_0)).trans hx173_0
                  replace p173 := eq_true p173
                  replace q173 := eq_true q173
                  go_wp2_with (first | ((with_reducible refine gate_builtin (b := .append) (xs := #[.tmp 35, .tmp 37]) rfl ?_); at_builtin; refine Kd.R_append (Kd.int .i64) (w0 := w) w.heap.size rfl (.tmp 35) (.tmp 37) 24 3 (.int .i64 0) 8 rfl Tryz.underlying24 info3 rfl (by decide) (by omega) u5 x5_1 (wrap64 ((wrap64 ((wrap64 ((rd l0 x12_1) - x6_1)) - (rd l1 x12_1))) + 65536)) [.int .i64 (wrap64 ((wrap64 ((wrap64 ((rd l0 x12_1) - x6_1)) - (rd l1 x12_1))) + 65536))] (fun k_ => (w.heap.size ≤ k_)) (fun _ => False) rfl rfl ?aP (fun _ hk => hk.elim) ?aF ?aO ?aB ?aS ?aL ?_; (case aP => exact rfl); (case aB => exact (by repeat (first | (with_reducible first | exact HB.out | apply below_alloc | apply pw_below_drewN | apply below_drew1) | exact HB.out))); (case aF => exact (fun k_ hk => (Nat.le_trans (below_size (by repeat (first | (with_reducible first | exact HB.out | apply below_alloc | apply pw_below_drewN | apply below_drew1) | exact HB.out))) hk))); (case aO => exact (by (with_reducible repeat (first | apply Kd.R_alloc | apply Kd.R_drewN | apply Kd.R_drew)); exact HO_5.out)); (case aS => exact (below_size (by repeat (first | (with_reducible first | exact HB.out | apply below_alloc | apply pw_below_drewN | apply below_drew1) | exact HB.out)))); (case aL => have := LMc10.out; omega); intro v175 w11 ho hb hg hat; rw [← Ny174.out] at ho; have n0_ := Aside0.mk (hb); have n1_ := Aside0.mk (ho); clear HB; clear HO_5; have HB := n0_; have HO176 := n1_; clear n0_ n1_; clear ho hb hg hat))
                  go_roundg k1
                  case measure => have := HK1.out; omega
                  case rel => exact ⟨(y174), (1), (wrap64 (x12_1 + 1)), (by first | rfl | (simp; done) | (simp [*]; done)), (by first | rfl | (simp; done) | (simp [*]; done)), H', ⟨by have := HK1.out; omega⟩, ⟨by (with_reducible repeat (first | apply Kd.R_alloc | apply Kd.R_drewN | apply Kd.R_drew)); exact HO176.out⟩, ⟨by repeat (first | (with_reducible first | exact HB.out | apply below_alloc | apply pw_below_drewN | apply below_drew1) | exact HB.out)⟩⟩
                · rw [if_neg c10] at H
                  exact absurd H (by simp)
              · rw [if_neg c9] at H
                have c9b0 : decide ((wrap64 ((wrap64 ((rd l0 x12_1) - x6_1)) - (rd l1 x12_1))) < 0) = false := decide_eq_false c9
                clear c9
                by_cases c12 : x5_1.length < 17592186044416
                · rw [if_pos c12] at H
                  have LMc12 := Aside0.mk c12
                  clear c12
                  obtain ⟨y177, hy177⟩ : ∃ y_ : List Int, y_ = (x5_1 ++ [wrap64 ((wrap64 ((rd l0 x12_1) - x6_1)) - (rd l1 x12_1))]) := ⟨_, rfl⟩
                  replace H : (spec_Sub.l0 k1 l0 l1 y177 0 (l0.length : Int) (wrap64 (x12_1 + 1))) = some r := by first | (rw [hy177]; with_reducible exact H) | (have H2_ := (Option.bind_some _ _).symm.trans H; rw [hy177]; with_reducible exact H2_) | (have H2_ := (Option.bind_some _ _).symm.trans H; with_reducible exact H2_) | with_reducible exact H | (rw [hy177]; exact H) | exact H
                  have Ny177 := Aside0.mk hy177
                  clear hy177
                  have H' := Aside0.mk H
                  clear H
                  have p172 : 0 ≤ (x12_1 : Int) := of_decide_eq_true (by first | (with_reducible assumption) | assumption)
                  have q172 : x12_1 < (l0.length : Int) := of_decide_eq_true (by first | (with_reducible assumption) | assumption)
                  obtain ⟨ad172, e172, hx172_0⟩ := Kd.at_int HR0.out x12_1 p172 q172
                  cases e172
                  replace hx172_0 := (HB.out.cell (World.block_lt_of_cell? w _ hx172_0)).trans hx172_0
                  replace p172 := eq_true p172
                  replace q172 := eq_true q172
                  have p173 : 0 ≤ (x12_1 : Int) := of_decide_eq_true (by first | (with_reducible assumption) | assumption)
                  have q173 : x12_1 < (l1.length : Int) := of_decide_eq_true (by first | (with_reducible assumption) | assumption)
                  obtain ⟨ad173, e173, hx173_0⟩ := Kd.at_int HR1.out x12_1 p173 q173
                  cases e173
                  replace hx173_0 := (HB.out.cell (World.block_lt_of_cell? w _ hx173_0)).trans hx173_0
                  replace p173 := eq_true p173
                  replace q173 := eq_true q173
                  go_wp2_with (first | ((with_reducible refine gate_builtin (b := .append) (xs := #[.tmp 35, .tmp 37]) rfl ?_); at_builtin; refine Kd.R_append (Kd.int .i64) (w0 := w) w.heap.size rfl (.tmp 35) (.tmp 37) 24 3 (.int .i64 0) 8 rfl Tryz.underlying24 info3 rfl (by decide) (by omega) u5 x5_1 (wrap64 ((wrap64 ((rd l0 x12_1) - x6_1)) - (rd l1 x12_1))) [.int .i64 (wrap64 ((wrap64 ((rd l0 x12_1) - x6_1)) - (rd l1 x12_1)))] (fun k_ => (w.heap.size ≤ k_)) (fun _ => False) rfl rfl ?aP (fun _ hk => hk.elim) ?aF ?aO ?aB ?aS ?aL ?_; (case aP => exact rfl); (case aB => exact (by repeat (first | (with_reducible first | exact HB.out | apply below_alloc | apply pw_below_drewN | apply below_drew1) | exact HB.out))); (case aF => exact (fun k_ hk => (Nat.le_trans (below_size (by repeat (first | (with_reducible first | exact HB.out | apply below_alloc | apply pw_below_drewN | apply below_drew1) | exact HB.out))) hk))); (case aO => exact (by (with_reducible repeat (first | apply Kd.R_alloc | apply Kd.R_drewN | apply Kd.R_drew)); exact HO_5.out)); (case aS => exact (below_size (by repeat (first | (with_reducible first | exact HB.out | apply below_alloc | apply pw_below_drewN | apply below_drew1) | exact HB.out)))); (case aL => have := LMc12.out; omega); intro v178 w13 ho hb hg hat; rw [← Ny177.out] at ho; have n0_ := Aside0.mk (hb); have n1_ := Aside0.mk (ho); clear HB; clear HO_5; have HB := n0_; have HO179 := n1_; clear n0_ n1_; clear ho hb hg hat))
                  go_roundg k1
                  case measure => have := HK1.out; omega
                  case rel => exact ⟨(y177), (0), (wrap64 (x12_1 + 1)), (by first | rfl | (simp; done) | (simp [*]; done)), (by first | rfl | (simp; done) | (simp [*]; done)), H', ⟨by have := HK1.out; omega⟩, ⟨by (with_reducible repeat (first | apply Kd.R_alloc | apply Kd.R_drewN | apply Kd.R_drew)); exact HO179.out⟩, ⟨by repeat (first | (with_reducible first | exact HB.out | apply below_alloc | apply pw_below_drewN | apply below_drew1) | exact HB.out)⟩⟩
                · rw [if_neg c12] at H
                  exact absurd H (by simp)
            · rw [if_neg c8] at H
              have c8b0 : decide (x12_1 < (l1.length : Int)) = false := decide_eq_false c8
              clear c8
              by_cases c14 : (wrap64 ((rd l0 x12_1) - x6_1)) < 0
              · rw [if_pos c14] at H
                have c14b0 : decide ((wrap64 ((rd l0 x12_1) - x6_1)) < 0) = true := decide_eq_true c14
                clear c14
                by_cases c15 : x5_1.length < 17592186044416
                · rw [if_pos c15] at H
                  have LMc15 := Aside0.mk c15
                  clear c15
                  obtain ⟨y180, hy180⟩ : ∃ y_ : List Int, y_ = (x5_1 ++ [wrap64 ((wrap64 ((rd l0 x12_1) - x6_1)) + 65536)]) := ⟨_, rfl⟩
                  replace H : (spec_Sub.l0 k1 l0 l1 y180 1 (l0.length : Int) (wrap64 (x12_1 + 1))) = some r := by first | (rw [hy180]; with_reducible exact H) | (have H2_ := (Option.bind_some _ _).symm.trans H; rw [hy180]; with_reducible exact H2_) | (have H2_ := (Option.bind_some _ _).symm.trans H; with_reducible exact H2_) | with_reducible exact H | (rw [hy180]; exact H) | exact H
                  have Ny180 := Aside0.mk hy180
                  clear hy180
                  have H' := Aside0.mk H
                  clear H
                  have p172 : 0 ≤ (x12_1 : Int) := of_decide_eq_true (by first | (with_reducible assumption) | assumption)
                  have q172 : x12_1 < (l0.length : Int) := of_decide_eq_true (by first | (with_reducible assumption) | assumption)
                  obtain ⟨ad172, e172, hx172_0⟩ := Kd.at_int HR0.out x12_1 p172 q172
                  cases e172
                  replace hx172_0 := (HB.out.cell (World.block_lt_of_cell? w _ hx172_0)).trans hx172_0
                  replace p172 := eq_true p172
                  replace q172 := eq_true q172
                  go_wp2_with (first | ((with_reducible refine gate_builtin (b := .append) (xs := #[.tmp 35, .tmp 37]) rfl ?_); at_builtin; refine Kd.R_append (Kd.int .i64) (w0 := w) w.heap.size rfl (.tmp 35) (.tmp 37) 24 3 (.int .i64 0) 8 rfl Tryz.underlying24 info3 rfl (by decide) (by omega) u5 x5_1 (wrap64 ((wrap64 ((rd l0 x12_1) - x6_1)) + 65536)) [.int .i64 (wrap64 ((wrap64 ((rd l0 x12_1) - x6_1)) + 65536))] (fun k_ => (w.heap.size ≤ k_)) (fun _ => False) rfl rfl ?aP (fun _ hk => hk.elim) ?aF ?aO ?aB ?aS ?aL ?_; (case aP => exact rfl); (case aB => exact (by repeat (first | (with_reducible first | exact HB.out | apply below_alloc | apply pw_below_drewN | apply below_drew1) | exact HB.out))); (case aF => exact (fun k_ hk => (Nat.le_trans (below_size (by repeat (first | (with_reducible first | exact HB.out | apply below_alloc | apply pw_below_drewN | apply below_drew1) | exact HB.out))) hk))); (case aO => exact (by (with_reducible repeat (first | apply Kd.R_alloc | apply Kd.R_drewN | apply Kd.R_drew)); exact HO_5.out)); (case aS => exact (below_size (by repeat (first | (with_reducible first | exact HB.out | apply below_alloc | apply pw_below_drewN | apply below_drew1) | exact HB.out)))); (case aL => have := LMc15.out; omega); intro v181 w16 ho hb hg hat; rw [← Ny180.out] at ho; have n0_ := Aside0.mk (hb); have n1_ := Aside0.mk (ho); clear HB; clear HO_5; have HB := n0_; have HO182 := n1_; clear n0_ n1_; clear ho hb hg hat))
                  go_roundg k1
                  case measure => have := HK1.out; omega
                  case rel => exact ⟨(y180), (1), (wrap64 (x12_1 + 1)), (by first | rfl | (simp; done) | (simp [*]; done)), (by first | rfl | (simp; done) | (simp [*]; done)), H', ⟨by have := HK1.out; omega⟩, ⟨by (with_reducible repeat (first | apply Kd.R_alloc | apply Kd.R_drewN | apply Kd.R_drew)); exact HO182.out⟩, ⟨by repeat (first | (with_reducible first | exact HB.out | apply below_alloc | apply pw_below_drewN | apply below_drew1) | exact HB.out)⟩⟩
                · rw [if_neg c15] at H
                  exact absurd H (by simp)
              · rw [if_neg c14] at H
                have c14b0 : decide ((wrap64 ((rd l0 x12_1) - x6_1)) < 0) = false := decide_eq_false c14
                clear c14
                by_cases c17 : x5_1.length < 17592186044416
                · rw [if_pos c17] at H
                  have LMc17 := Aside0.mk c17
                  clear c17
                  obtain ⟨y183, hy183⟩ : ∃ y_ : List Int, y_ = (x5_1 ++ [wrap64 ((rd l0 x12_1) - x6_1)]) := ⟨_, rfl⟩
                  replace H : (spec_Sub.l0 k1 l0 l1 y183 0 (l0.length : Int) (wrap64 (x12_1 + 1))) = some r := by first | (rw [hy183]; with_reducible exact H) | (have H2_ := (Option.bind_some _ _).symm.trans H; rw [hy183]; with_reducible exact H2_) | (have H2_ := (Option.bind_some _ _).symm.trans H; with_reducible exact H2_) | with_reducible exact H | (rw [hy183]; exact H) | exact H
                  have Ny183 := Aside0.mk hy183
                  clear hy183
                  have H' := Aside0.mk H
                  clear H
                  have p172 : 0 ≤ (x12_1 : Int) := of_decide_eq_true (by first | (with_reducible assumption) | assumption)
                  have q172 : x12_1 < (l0.length : Int) := of_decide_eq_true (by first | (with_reducible assumption) | assumption)
                  obtain ⟨ad172, e172, hx172_0⟩ := Kd.at_int HR0.out x12_1 p172 q172
                  cases e172
                  replace hx172_0 := (HB.out.cell (World.block_lt_of_cell? w _ hx172_0)).trans hx172_0
                  replace p172 := eq_true p172
                  replace q172 := eq_true q172
                  go_wp2_with (first | ((with_reducible refine gate_builtin (b := .append) (xs := #[.tmp 35, .tmp 37]) rfl ?_); at_builtin; refine Kd.R_append (Kd.int .i64) (w0 := w) w.heap.size rfl (.tmp 35) (.tmp 37) 24 3 (.int .i64 0) 8 rfl Tryz.underlying24 info3 rfl (by decide) (by omega) u5 x5_1 (wrap64 ((rd l0 x12_1) - x6_1)) [.int .i64 (wrap64 ((rd l0 x12_1) - x6_1))] (fun k_ => (w.heap.size ≤ k_)) (fun _ => False) rfl rfl ?aP (fun _ hk => hk.elim) ?aF ?aO ?aB ?aS ?aL ?_; (case aP => exact rfl); (case aB => exact (by repeat (first | (with_reducible first | exact HB.out | apply below_alloc | apply pw_below_drewN | apply below_drew1) | exact HB.out))); (case aF => exact (fun k_ hk => (Nat.le_trans (below_size (by repeat (first | (with_reducible first | exact HB.out | apply below_alloc | apply pw_below_drewN | apply below_drew1) | exact HB.out))) hk))); (case aO => exact (by (with_reducible repeat (first | apply Kd.R_alloc | apply Kd.R_drewN | apply Kd.R_drew)); exact HO_5.out)); (case aS => exact (below_size (by repeat (first | (with_reducible first | exact HB.out | apply below_alloc | apply pw_below_drewN | apply below_drew1) | exact HB.out)))); (case aL => have := LMc17.out; omega); intro v184 w18 ho hb hg hat; rw [← Ny183.out] at ho; have n0_ := Aside0.mk (hb); have n1_ := Aside0.mk (ho); clear HB; clear HO_5; have HB := n0_; have HO185 := n1_; clear n0_ n1_; clear ho hb hg hat))
                  go_roundg k1
                  case measure => have := HK1.out; omega
                  case rel => exact ⟨(y183), (0), (wrap64 (x12_1 + 1)), (by first | rfl | (simp; done) | (simp [*]; done)), (by first | rfl | (simp; done) | (simp [*]; done)), H', ⟨by have := HK1.out; omega⟩, ⟨by (with_reducible repeat (first | apply Kd.R_alloc | apply Kd.R_drewN | apply Kd.R_drew)); exact HO185.out⟩, ⟨by repeat (first | (with_reducible first | exact HB.out | apply below_alloc | apply pw_below_drewN | apply below_drew1) | exact HB.out)⟩⟩
                · rw [if_neg c17] at H
                  exact absurd H (by simp)
          · rw [if_neg c7] at H
            exact absurd H (by simp)
        · rw [if_neg c6] at H
          exact absurd H (by simp)
      · rw [if_neg c5] at H
        have c5b0 : decide (x12_1 < (l0.length : Int)) = false := decide_eq_false c5
        clear c5
        replace H := Option.bind_eq_some_iff.mp H
        obtain ⟨t169, A190, H⟩ := H
        replace H : (some t169) = some r := H
        have A19 := Aside0.mk A190
        clear A190
        obtain rfl := Option.some.inj H
        obtain ⟨Ao20, co20, eo20⟩ := Kd.R_slice HO_5.out
        subst eo20
        go_wp2_with (first | ((with_reducible refine gate_callee (f := 49) rfl ?_); refine goesL_ (some 41) rfl rfl Tryz.func49 (by kernel_rfl) rfl #[.slice Ao20 x5_1.length co20] rfl (by (try simp only [List.map_toArray, List.map_cons, List.map_nil]); first | done | rfl | (simp only [List.length_drop, List.length_take]; rfl)) ?_; (with_reducible refine (spec_cut.calls k1 (fun k_ => some k_ = (.slice Ao20 x5_1.length co20 : Value).ownBlock) _ _ x5_1 t169 _ ?side1 A19.out).mono ?_); (case side1 => exact Kd.R_V (Kd.R_tight rfl (HO_5.out))); rintro e w21 ⟨v170, rfl, ho0, hb⟩; refine ⟨_, rfl, ?_⟩; have n0_ := Aside0.mk (Kd.R_below (by (with_reducible repeat (first | apply Kd.R_alloc | apply Kd.R_drewN | apply Kd.R_drew)); exact HO_5.out) hb); have n1_ := Aside0.mk (Kd.V_lower (Kd.V_mono (ok' := fun k_ => (w.heap.size ≤ k_)) ho0 (fun k_ hk_ => Or.elim hk_ (fun hs_ => ((HO_5.out).1 k_ hs_.symm)) (fun hn_ => (Nat.le_trans (below_size (by repeat (first | (with_reducible first | exact HB.out | apply below_alloc | apply pw_below_drewN | apply below_drew1) | exact HB.out))) hn_)))) (below_size (by repeat (first | (with_reducible first | exact HB.out | apply below_alloc | apply pw_below_drewN | apply below_drew1) | exact HB.out)))); have n2_ := Aside0.mk (below_step (by repeat (first | (with_reducible first | exact HB.out | apply below_alloc | apply pw_below_drewN | apply below_drew1) | exact HB.out)) hb); clear HO_5; clear HB; have HO_5 := n0_; have HO171 := n1_; have HB := n2_; clear n0_ n1_ n2_; (try clear hb); (try clear hb2); (try clear hk); (try clear hi); (try clear ho0)))
        go_ret
        exact ⟨_, by first | rfl | (simp [errW_none, errW_some] <;> rfl) | (simp [*, errW_none, errW_some] <;> rfl), by (with_reducible repeat (first | apply Kd.V_alloc | apply Kd.V_drewN | apply Kd.V_drew)); exact HO171.out, by repeat (first | (with_reducible first | exact HB.out | apply below_alloc | apply pw_below_drewN | apply below_drew1) | exact HB.out)⟩
def spec_Cmp.l0 : Nat → List Int → List Int → Int → Option (Int)
  | 0, _, _, _ => none
  | k + 1, x0, x1, x5 => if x5 ≥ 0 then (if 0 ≤ x5 then (if x5 < (x0.length : Int) then (if x5 < (x1.length : Int) then (if (rd x0 x5) = (rd x1 x5) then (spec_Cmp.l0 k x0 x1 (wrap64 (x5 - 1))) else (some (wrap64 ((rd x0 x5) - (rd x1 x5))))) else (none)) else (none)) else (none)) else (some 0)
def spec_Cmp.f (k : Nat) (l0 : List Int) (l1 : List Int) : Option (Int) := if (l0.length : Int) = (l1.length : Int) then (spec_Cmp.l0 k l0 l1 (wrap64 ((l0.length : Int) - 1))) else (some (wrap64 ((l0.length : Int) - (l1.length : Int))))
theorem spec_Cmp.mono_l : ∀ k, (∀ y0 y1 y2, LeO (spec_Cmp.l0 k y0 y1 y2) (spec_Cmp.l0 (k + 1) y0 y1 y2))
  | 0 => fun _ _ _ r h => by simp [spec_Cmp.l0] at h
  | k + 1 => by
    have ih0 := spec_Cmp.mono_l k
    · intro y0 y1 y2
      unfold spec_Cmp.l0
      repeat' first
      | (with_reducible exact ih0 _ _ _)
      | (with_reducible exact LeO.refl _)
      | (with_reducible exact LeO.none _)
      | (with_reducible refine LeO.ite ?_ ?_)
      | (with_reducible refine LeO.bind ?_ (fun _ => ?_))
      | exact ih0 _ _ _
      | exact LeO.none _
      | refine LeO.ite ?_ ?_
      | refine LeO.bind ?_ (fun _ => ?_)
theorem spec_Cmp.mono : ∀ a0 a1 k, LeO (spec_Cmp.f k a0 a1) (spec_Cmp.f (k + 1) a0 a1) := by
  intro a0 a1 k
  have ih0 := spec_Cmp.mono_l k
  unfold spec_Cmp.f
  repeat' first
      | (with_reducible exact ih0 _ _ _)
      | (with_reducible exact LeO.refl _)
      | (with_reducible exact LeO.none _)
      | (with_reducible refine LeO.ite ?_ ?_)
      | (with_reducible refine LeO.bind ?_ (fun _ => ?_))
      | exact ih0 _ _ _
      | exact LeO.none _
      | refine LeO.ite ?_ ?_
      | refine LeO.bind ?_ (fun _ => ?_)
set_option maxHeartbeats 8000000 in
set_option maxRecDepth 100000 in
theorem spec_Cmp.calls (k : Nat) (A0 : Option Addr) (c0 : Nat) (l0 : List Int) (A1 : Option Addr) (c1 : Nat) (l1 : List Int) (r : Int) (w : World) (hr0 : Kd.C (Kd.int .i64) w A0 l0.length l0) (hc0 : l0.length ≤ c0) (hr1 : Kd.C (Kd.int .i64) w A1 l1.length l1) (hc1 : l1.length ≤ c1) (h : spec_Cmp.f k l0 l1 = some r) :
    Calls Tryz.prog 43 #[.slice A0 l0.length c0, .slice A1 l1.length c1] w fun e w' => e = .returned (.int .i64 r) ∧ Drawn0 w w' := by
  have HR0 := Aside0.mk hr0
  have HC0 := Aside0.mk hc0
  clear hr0 hc0
  have HR1 := Aside0.mk hr1
  have HC1 := Aside0.mk hc1
  clear hr1 hc1
  have H : (if (l0.length : Int) = (l1.length : Int) then (spec_Cmp.l0 k l0 l1 (wrap64 ((l0.length : Int) - 1))) else (some (wrap64 ((l0.length : Int) - (l1.length : Int))))) = some r := h
  clear h
  by_cases c3 : (l0.length : Int) = (l1.length : Int)
  · rw [if_pos c3] at H
    have c3b0 : ((l0.length : Int) == (l1.length : Int)) = true := beq_iff_eq.mpr c3
    have c3b1 : ((l0.length : Int) != (l1.length : Int)) = false := bne_eq_false_iff_eq.mpr c3
    have c3b2 : (l0.length == l1.length) = true := by first | simpa using c3 | (simp at c3 ⊢; omega)
    clear c3
    have H' := Aside0.mk H
    clear H
    go_enter Tryz.func43, Tryz.ntmps43
    go_wp2
    repeat (go_quiet (fail); try go_wp2)
    go_loopg [5] k (fun kq v5 w' => ∃ (x5_1 : Int), v5 = .int .i64 x5_1 ∧ Aside0 (spec_Cmp.l0 kq l0 l1 x5_1 = some r) ∧ Aside0 (kq ≤ k) ∧ Drawn0 w w')
    case atStart => exact ⟨(wrap64 ((l0.length : Int) - 1)), (by first | rfl | (simp; done) | (simp [*]; done)), H', ⟨Nat.le_refl _⟩, by repeat (first | exact Drawn0.refl _ | apply Drawn0.step)⟩
    case round =>
      clear H'
      try clear c1
      try clear p2
      try clear c3
      try clear c3b0
      try clear c3b1
      try clear c3b2
      obtain ⟨x5_1, rfl, HA, HK1, ⟨m1, rfl⟩⟩ := hrel
      cases gk with
      | zero => exact absurd HA.out (by simp [spec_Cmp.l0])
      | succ k1 =>
        have H := HA.out
        clear HA
        simp only [spec_Cmp.l0] at H
        by_cases c4 : x5_1 ≥ 0
        · rw [if_pos c4] at H
          have c4b0 : decide (0 ≤ x5_1) = true := decide_eq_true c4
          clear c4
          by_cases c5 : 0 ≤ x5_1
          · rw [if_pos c5] at H
            have c5b0 : decide (0 ≤ x5_1) = true := decide_eq_true c5
            clear c5
            by_cases c6 : x5_1 < (l0.length : Int)
            · rw [if_pos c6] at H
              have c6b0 : decide (x5_1 < (l0.length : Int)) = true := decide_eq_true c6
              clear c6
              by_cases c7 : x5_1 < (l1.length : Int)
              · rw [if_pos c7] at H
                have c7b0 : decide (x5_1 < (l1.length : Int)) = true := decide_eq_true c7
                clear c7
                by_cases c8 : (rd l0 x5_1) = (rd l1 x5_1)
                · rw [if_pos c8] at H
                  have c8b0 : ((rd l0 x5_1) == (rd l1 x5_1)) = true := beq_iff_eq.mpr c8
                  have c8b1 : ((rd l0 x5_1) != (rd l1 x5_1)) = false := bne_eq_false_iff_eq.mpr c8
                  clear c8
                  have H' := Aside0.mk H
                  clear H
                  have p186 : 0 ≤ (x5_1 : Int) := of_decide_eq_true (by first | (with_reducible assumption) | assumption)
                  have q186 : x5_1 < (l0.length : Int) := of_decide_eq_true (by first | (with_reducible assumption) | assumption)
                  obtain ⟨ad186, e186, hx186_0⟩ := Kd.at_int HR0.out x5_1 p186 q186
                  cases e186
                  replace p186 := eq_true p186
                  replace q186 := eq_true q186
                  have p187 : 0 ≤ (x5_1 : Int) := of_decide_eq_true (by first | (with_reducible assumption) | assumption)
                  have q187 : x5_1 < (l1.length : Int) := of_decide_eq_true (by first | (with_reducible assumption) | assumption)
                  obtain ⟨ad187, e187, hx187_0⟩ := Kd.at_int HR1.out x5_1 p187 q187
                  cases e187
                  replace p187 := eq_true p187
                  replace q187 := eq_true q187
                  go_wp2
                  repeat (go_quiet (fail); try go_wp2)
                  go_roundg k1
                  case measure => have := HK1.out; omega
                  case rel => exact ⟨(wrap64 (x5_1 - 1)), (by first | rfl | (simp; done) | (simp [*]; done)), H', ⟨by have := HK1.out; omega⟩, by repeat (first | exact Drawn0.refl _ | apply Drawn0.step)⟩
                · rw [if_neg c8] at H
                  have c8b0 : ((rd l0 x5_1) == (rd l1 x5_1)) = false := beq_eq_false_iff_ne.mpr c8
                  have c8b1 : ((rd l0 x5_1) != (rd l1 x5_1)) = true := bne_iff_ne.mpr c8
                  obtain rfl := Option.some.inj H
                  have p186 : 0 ≤ (x5_1 : Int) := of_decide_eq_true (by first | (with_reducible assumption) | assumption)
                  have q186 : x5_1 < (l0.length : Int) := of_decide_eq_true (by first | (with_reducible assumption) | assumption)
                  obtain ⟨ad186, e186, hx186_0⟩ := Kd.at_int HR0.out x5_1 p186 q186
                  cases e186
                  replace p186 := eq_true p186
                  replace q186 := eq_true q186
                  have p187 : 0 ≤ (x5_1 : Int) := of_decide_eq_true (by first | (with_reducible assumption) | assumption)
                  have q187 : x5_1 < (l1.length : Int) := of_decide_eq_true (by first | (with_reducible assumption) | assumption)
                  obtain ⟨ad187, e187, hx187_0⟩ := Kd.at_int HR1.out x5_1 p187 q187
                  cases e187
                  replace p187 := eq_true p187
                  replace q187 := eq_true q187
                  have p188 : 0 ≤ (x5_1 : Int) := of_decide_eq_true (by first | (with_reducible assumption) | assumption)
                  have q188 : x5_1 < (l0.length : Int) := of_decide_eq_true (by first | (with_reducible assumption) | assumption)
                  obtain ⟨ad188, e188, hx188_0⟩ := Kd.at_int HR0.out x5_1 p188 q188
                  obtain rfl : ad186 = ad188 := (by injection e188)
                  replace p188 := eq_true p188
                  replace q188 := eq_true q188
                  have p189 : 0 ≤ (x5_1 : Int) := of_decide_eq_true (by first | (with_reducible assumption) | assumption)
                  have q189 : x5_1 < (l1.length : Int) := of_decide_eq_true (by first | (with_reducible assumption) | assumption)
                  obtain ⟨ad189, e189, hx189_0⟩ := Kd.at_int HR1.out x5_1 p189 q189
                  obtain rfl : ad187 = ad189 := (by injection e189)
                  replace p189 := eq_true p189
                  replace q189 := eq_true q189
                  go_wp2
                  repeat (go_quiet (fail); try go_wp2)
                  go_ret
                  exact ⟨by first | rfl | (simp; done) | (simp [*]; done), by repeat (first | exact Drawn0.refl _ | apply Drawn0.step)⟩
              · rw [if_neg c7] at H
                exact absurd H (by simp)
            · rw [if_neg c6] at H
              exact absurd H (by simp)
          · rw [if_neg c5] at H
            exact absurd H (by simp)
        · rw [if_neg c4] at H
          have c4b0 : decide (0 ≤ x5_1) = false := decide_eq_false c4
          clear c4
          obtain rfl := Option.some.inj H
          go_wp2
          repeat (go_quiet (fail); try go_wp2)
          go_ret
          exact ⟨by first | rfl | (simp; done) | (simp [*]; done), by repeat (first | exact Drawn0.refl _ | apply Drawn0.step)⟩
  · rw [if_neg c3] at H
    have c3b0 : ((l0.length : Int) == (l1.length : Int)) = false := beq_eq_false_iff_ne.mpr c3
    have c3b1 : ((l0.length : Int) != (l1.length : Int)) = true := bne_iff_ne.mpr c3
    have c3b2 : (l0.length == l1.length) = false := by first | simpa using c3 | (simp at c3 ⊢; omega)
    obtain rfl := Option.some.inj H
    go_enter Tryz.func43, Tryz.ntmps43
    go_wp2
    repeat (go_quiet (fail); try go_wp2)
    go_ret
    exact ⟨by first | rfl | (simp; done) | (simp [*]; done), by repeat (first | exact Drawn0.refl _ | apply Drawn0.step)⟩
def spec_byDigit.l0 : Nat → List Int → List Int → List Int → Int → Int → Option (List Int × Int)
  | 0, _, _, _, _, _ => none
  | k + 1, x0, x1, x6, x7, x8 => if x8 ≥ 0 then (if 0 ≤ x8 then (if x8 < (x0.length : Int) then (if 0 < (x1.length : Int) then (if (rd x1 0) = 0 then (none) else (if x8 < (x6.length : Int) then (spec_byDigit.l0 k x0 x1 (x6.set (x8 : Int).toNat (wrap64 (Int.tdiv (wrap64 ((wrap64 (x7 * 65536)) + (rd x0 x8))) (rd x1 0)))) (Int.tmod (wrap64 ((wrap64 (x7 * 65536)) + (rd x0 x8))) (rd x1 0)) (wrap64 (x8 - 1))) else (none))) else (none)) else (none)) else (none)) else ((spec_cut.f k x6).bind fun t300 => (some (t300, x7)))
def spec_byDigit.f (k : Nat) (l0 : List Int) (l1 : List Int) : Option (List Int × Int) := if 0 ≤ (l0.length : Int) then (if ((l0.length : Int) : Int).toNat ≤ 35184372088832 then (spec_byDigit.l0 k l0 l1 (List.replicate ((l0.length : Int) : Int).toNat 0) 0 (wrap64 ((l0.length : Int) - 1))) else (none)) else (none)
theorem spec_byDigit.mono_l : ∀ k, (∀ y0 y1 y2 y3 y4, LeO (spec_byDigit.l0 k y0 y1 y2 y3 y4) (spec_byDigit.l0 (k + 1) y0 y1 y2 y3 y4))
  | 0 => fun _ _ _ _ _ r h => by simp [spec_byDigit.l0] at h
  | k + 1 => by
    have ih0 := spec_byDigit.mono_l k
    · intro y0 y1 y2 y3 y4
      unfold spec_byDigit.l0
      repeat' first
      | (with_reducible exact ih0 _ _ _ _ _)
      | (with_reducible exact spec_cut.mono _ _)
      | (with_reducible exact LeO.refl _)
      | (with_reducible exact LeO.none _)
      | (with_reducible refine LeO.ite ?_ ?_)
      | (with_reducible refine LeO.bind ?_ (fun _ => ?_))
      | exact ih0 _ _ _ _ _
      | exact spec_cut.mono _ _
      | exact LeO.none _
      | refine LeO.ite ?_ ?_
      | refine LeO.bind ?_ (fun _ => ?_)
theorem spec_byDigit.mono : ∀ a0 a1 k, LeO (spec_byDigit.f k a0 a1) (spec_byDigit.f (k + 1) a0 a1) := by
  intro a0 a1 k
  have ih0 := spec_byDigit.mono_l k
  unfold spec_byDigit.f
  repeat' first
      | (with_reducible exact ih0 _ _ _ _ _)
      | (with_reducible exact spec_cut.mono _ _)
      | (with_reducible exact LeO.refl _)
      | (with_reducible exact LeO.none _)
      | (with_reducible refine LeO.ite ?_ ?_)
      | (with_reducible refine LeO.bind ?_ (fun _ => ?_))
      | exact ih0 _ _ _ _ _
      | exact spec_cut.mono _ _
      | exact LeO.none _
      | refine LeO.ite ?_ ?_
      | refine LeO.bind ?_ (fun _ => ?_)
set_option maxHeartbeats 8000000 in
set_option maxRecDepth 100000 in
theorem spec_byDigit.calls (k : Nat) (A0 : Option Addr) (c0 : Nat) (l0 : List Int) (A1 : Option Addr) (c1 : Nat) (l1 : List Int) (r1 : List Int) (r2 : Int) (w : World) (hr0 : Kd.C (Kd.int .i64) w A0 l0.length l0) (hc0 : l0.length ≤ c0) (hr1 : Kd.C (Kd.int .i64) w A1 l1.length l1) (hc1 : l1.length ≤ c1) (h : spec_byDigit.f k l0 l1 = some (r1, r2)) :
    Calls Tryz.prog 53 #[.slice A0 l0.length c0, .slice A1 l1.length c1] w fun e w' => ∃ v0_ : Value, e = .returned (.tuple #[v0_, .int .i64 r2]) ∧ Kd.V (Kd.int .i64) 3 w' w.heap.size (fun k_ => (w.heap.size ≤ k_)) v0_ r1 ∧ Below w.heap.size w w' := by
  have HR0 := Aside0.mk hr0
  have HC0 := Aside0.mk hc0
  clear hr0 hc0
  have HR1 := Aside0.mk hr1
  have HC1 := Aside0.mk hc1
  clear hr1 hc1
  have HB := Aside0.mk (Below.refl w.heap.size w)
  have H : (if 0 ≤ (l0.length : Int) then (if ((l0.length : Int) : Int).toNat ≤ 35184372088832 then (spec_byDigit.l0 k l0 l1 (List.replicate ((l0.length : Int) : Int).toNat 0) 0 (wrap64 ((l0.length : Int) - 1))) else (none)) else (none)) = some (r1, r2) := h
  clear h
  by_cases c3 : 0 ≤ (l0.length : Int)
  · rw [if_pos c3] at H
    have c3b0 := eq_true c3
    have c3b1 : decide (0 ≤ (l0.length : Int)) = true := decide_eq_true c3
    clear c3
    by_cases c4 : ((l0.length : Int) : Int).toNat ≤ 35184372088832
    · rw [if_pos c4] at H
      have c4b0 := eq_true c4
      have c4b1 : decide (((l0.length : Int) : Int).toNat ≤ 35184372088832) = true := decide_eq_true c4
      clear c4
      obtain ⟨y293, hy293⟩ : ∃ y_ : List Int, y_ = (List.replicate ((l0.length : Int) : Int).toNat 0) := ⟨_, rfl⟩
      replace H : (spec_byDigit.l0 k l0 l1 y293 0 (wrap64 ((l0.length : Int) - 1))) = some (r1, r2) := by first | (rw [hy293]; with_reducible exact H) | (have H2_ := (Option.bind_some _ _).symm.trans H; rw [hy293]; with_reducible exact H2_) | (have H2_ := (Option.bind_some _ _).symm.trans H; with_reducible exact H2_) | with_reducible exact H | (rw [hy293]; exact H) | exact H
      have Ny293 := Aside0.mk hy293
      clear hy293
      have H' := Aside0.mk H
      clear H
      go_enter Tryz.func53, Tryz.ntmps53
      go_wp2_with (first | ((with_reducible refine gate_dst (N := 11) rfl ?_); refine Kd.R_make (Kd.int .i64) _ 3 rfl (N := 11) rfl 24 _ _ rfl (l0.length : Int) rfl rfl Tryz.underlying24 (.int .i64 0) 8 info3 rfl (by decide) (by omega) 0 (ok := fun _ => True) (okp := fun _ => True) rfl (fun _ hk => hk) trivial (of_decide_eq_true (by first | (with_reducible assumption) | assumption)) (Nat.le_trans (Nat.mul_le_mul_right _ (of_decide_eq_true (by first | (with_reducible assumption) | assumption) : (l0.length : Int).toNat ≤ 35184372088832)) (by omega)) (Below.refl _ _) (Nat.le_refl _) ?_; intro v294 w5 ho6 hb hg_ hnew_; clear hg_ hnew_; (first | rw [← Ny293.out] at ho6 | (simp only [Int.reduceToNat] at ho6; rw [← Ny293.out] at ho6)); have n0_ := Aside0.mk (Kd.R_lower (Kd.R_newM (M := fun k_ => (w.heap.size ≤ k_)) ho6 (below_size (by repeat (first | (with_reducible first | exact HB.out | apply below_alloc | apply pw_below_drewN | apply below_drew1) | exact HB.out))) (fun k_ h_ => h_)) (below_size (by repeat (first | (with_reducible first | exact HB.out | apply below_alloc | apply pw_below_drewN | apply below_drew1) | exact HB.out)))); have n1_ := Aside0.mk (below_step (by repeat (first | (with_reducible first | exact HB.out | apply below_alloc | apply pw_below_drewN | apply below_drew1) | exact HB.out)) hb); clear HB; have HO295 := n0_; have HB := n1_; clear n0_ n1_; clear hb ho6))
      go_loopg [7, 8] k (fun kq v7 v8 w' => ∃ (x6_1 : List Int) (x7_1 : Int) (x8_1 : Int), v7 = .int .i64 x7_1 ∧ v8 = .int .i64 x8_1 ∧ Aside0 (spec_byDigit.l0 kq l0 l1 x6_1 x7_1 x8_1 = some (r1, r2)) ∧ Aside0 (kq ≤ k) ∧ Aside0 (Kd.R (Kd.int .i64) 3 w' w.heap.size (fun k_ => (w.heap.size ≤ k_)) v294 x6_1) ∧ Aside0 (Below w.heap.size w w'))
      case atStart => exact ⟨(y293), (0), (wrap64 ((l0.length : Int) - 1)), (by first | rfl | (simp; done) | (simp [*]; done)), (by first | rfl | (simp; done) | (simp [*]; done)), H', ⟨Nat.le_refl _⟩, ⟨by (with_reducible repeat (first | apply Kd.R_alloc | apply Kd.R_drewN | apply Kd.R_drew)); exact Kd.R_mono HO295.out (fun _ hk => hk.1)⟩, ⟨by repeat (first | (with_reducible first | exact HB.out | apply below_alloc | apply pw_below_drewN | apply below_drew1) | exact HB.out)⟩⟩
      case round =>
        clear H'
        try clear c1
        try clear p2
        try clear c3
        try clear c3b0
        try clear c3b1
        try clear c4
        try clear c4b0
        try clear c4b1
        try clear c5
        try clear p6
        obtain ⟨x6_1, x7_1, x8_1, rfl, rfl, HA, HK1, HO_6, HB⟩ := hrel
        cases gk with
        | zero => exact absurd HA.out (by simp [spec_byDigit.l0])
        | succ k1 =>
          have H := HA.out
          clear HA
          simp only [spec_byDigit.l0] at H
          by_cases c7 : x8_1 ≥ 0
          · rw [if_pos c7] at H
            have c7b0 : decide (0 ≤ x8_1) = true := decide_eq_true c7
            clear c7
            by_cases c8 : 0 ≤ x8_1
            · rw [if_pos c8] at H
              have c8b0 : decide (0 ≤ x8_1) = true := decide_eq_true c8
              clear c8
              by_cases c9 : x8_1 < (l0.length : Int)
              · rw [if_pos c9] at H
                have c9b0 : decide (x8_1 < (l0.length : Int)) = true := decide_eq_true c9
                clear c9
                by_cases c10 : 0 < (l1.length : Int)
                · rw [if_pos c10] at H
                  have c10b0 : decide (0 < (l1.length : Int)) = true := decide_eq_true c10
                  have c10b1 : decide (0 < l1.length) = true := decide_eq_true (by omega)
                  clear c10
                  by_cases c11 : (rd l1 0) = 0
                  · rw [if_pos c11] at H
                    exact absurd H (by simp)
                  · rw [if_neg c11] at H
                    have c11b0 : ((rd l1 0) == 0) = false := beq_eq_false_iff_ne.mpr c11
                    have c11b1 : ((rd l1 0) != 0) = true := bne_iff_ne.mpr c11
                    by_cases c12 : x8_1 < (x6_1.length : Int)
                    · rw [if_pos c12] at H
                      have c12b0 : decide (x8_1 < (x6_1.length : Int)) = true := decide_eq_true c12
                      clear c12
                      obtain ⟨y298, hy298⟩ : ∃ y_ : List Int, y_ = (x6_1.set (x8_1 : Int).toNat (wrap64 (Int.tdiv (wrap64 ((wrap64 (x7_1 * 65536)) + (rd l0 x8_1))) (rd l1 0)))) := ⟨_, rfl⟩
                      replace H : (spec_byDigit.l0 k1 l0 l1 y298 (Int.tmod (wrap64 ((wrap64 (x7_1 * 65536)) + (rd l0 x8_1))) (rd l1 0)) (wrap64 (x8_1 - 1))) = some (r1, r2) := by first | (rw [hy298]; with_reducible exact H) | (have H2_ := (Option.bind_some _ _).symm.trans H; rw [hy298]; with_reducible exact H2_) | (have H2_ := (Option.bind_some _ _).symm.trans H; with_reducible exact H2_) | with_reducible exact H | (rw [hy298]; exact H) | exact H
                      have Ny298 := Aside0.mk hy298
                      clear hy298
                      have H' := Aside0.mk H
                      clear H
                      have p296 : 0 ≤ (x8_1 : Int) := of_decide_eq_true (by first | (with_reducible assumption) | assumption)
                      have q296 : x8_1 < (l0.length : Int) := of_decide_eq_true (by first | (with_reducible assumption) | assumption)
                      obtain ⟨ad296, e296, hx296_0⟩ := Kd.at_int HR0.out x8_1 p296 q296
                      cases e296
                      replace hx296_0 := (HB.out.cell (World.block_lt_of_cell? w _ hx296_0)).trans hx296_0
                      replace p296 := eq_true p296
                      replace q296 := eq_true q296
                      have p297 : 0 ≤ (0 : Int) := (by omega)
                      have q297 : 0 < (l1.length : Int) := of_decide_eq_true (by first | (with_reducible assumption) | assumption)
                      obtain ⟨ad297, e297, hx297_0⟩ := Kd.at_int HR1.out 0 p297 q297
                      cases e297
                      have qi297 : (0 < l1.length) = True := eq_true (by omega)
                      (try rw [show ((0 : Int)).toNat = 0 from rfl] at hx297_0)
                      (try rw [Addr.add_zero'] at hx297_0)
                      replace hx297_0 := (HB.out.cell (World.block_lt_of_cell? w _ hx297_0)).trans hx297_0
                      replace p297 := eq_true p297
                      replace q297 := eq_true q297
                      have p13 : 0 ≤ (x8_1 : Int) := of_decide_eq_true (by first | (with_reducible assumption) | assumption)
                      have q13 : (x8_1 : Int) < ((x6_1.length : Int) : Int) := of_decide_eq_true (by first | (with_reducible assumption) | assumption)
                      obtain ⟨go13, co13, eo13, gb13, gl13, cl13, HG13⟩ := Kd.R_form HO_6.out (by omega)
                      (first | cases eo13 | (injection eo13 with ea_ en_ ec_; (first | subst ea_ | (injection ea_ with ea_; subst ea_)); subst ec_; clear en_))
                      have GB13 := Aside0.mk gb13
                      have GG13 := Aside0.mk HG13
                      clear gb13 gl13 HG13
                      obtain ⟨hx13_0, hf13_0⟩ := Kd.R_celln 0 HO_6.out (x8_1 : Int) p13 q13
                      replace p13 := eq_true p13
                      replace q13 := eq_true q13
                      have HP14 := Kd.R_putg HO_6.out (x8_1 : Int) (wrap64 (Int.tdiv (wrap64 ((wrap64 (x7_1 * 65536)) + (rd l0 x8_1))) (rd l1 0)))
                      go_wp2_with (first | ((with_reducible refine gate_store (t := 3) (p := 33) rfl ?_); refine store_event (t := 3) (p := 33) (v := ?vo_w15) (w1 := (wr.setCell ⟨go13, (x8_1 : Int).toNat, none⟩ (.int .i64 (wrap64 (Int.tdiv (wrap64 ((wrap64 (x7_1 * 65536)) + (rd l0 x8_1))) (rd l1 0)))))) ?hg ?ho ?hn ?hr ?_; (case ho => rfl); (case hg => rfl); (case hn => rfl); (case hr => first | (go_simp; done) | (go_simp; rfl)); intro w15 hw; have hg : wr.grownBy w15 (some go13) := (by rw [hw]; exact HP14.2); have hp_ : Kd.R (Kd.int .i64) 3 w15 w.heap.size (fun k_ => (w.heap.size ≤ k_)) (.slice (some ⟨go13, 0, none⟩) x6_1.length co13) y298 := (by rw [hw, Ny298.out]; exact HP14.1); clear HP14; have n0_ := Aside0.mk (hp_); have n1_ := Aside0.mk ((by rw [hw]; exact below_set (HB.out) GB13.out : Below w.heap.size w w15)); clear HO_6; clear HB; have HO_6 := n0_; have HB := n1_; clear n0_ n1_; clear hg hw hp_; have p299 : 0 ≤ (0 : Int) := (by omega); have q299 : 0 < (l1.length : Int) := of_decide_eq_true (by first | (with_reducible assumption) | assumption); obtain ⟨ad299, e299, hx299_0⟩ := Kd.at_int HR1.out 0 p299 q299; obtain rfl : ad297 = ad299 := (by injection e299); have qi299 : (0 < l1.length) = True := eq_true (by omega); (try rw [show ((0 : Int)).toNat = 0 from rfl] at hx299_0); (try rw [Addr.add_zero'] at hx299_0); replace hx299_0 := (HB.out.cell (World.block_lt_of_cell? w _ hx299_0)).trans hx299_0; replace p299 := eq_true p299; replace q299 := eq_true q299))
                      go_roundg k1
                      case measure => have := HK1.out; omega
                      case rel => exact ⟨(y298), (Int.tmod (wrap64 ((wrap64 (x7_1 * 65536)) + (rd l0 x8_1))) (rd l1 0)), (wrap64 (x8_1 - 1)), (by first | rfl | (simp; done) | (simp [*]; done)), (by first | rfl | (simp; done) | (simp [*]; done)), H', ⟨by have := HK1.out; omega⟩, ⟨by (with_reducible repeat (first | apply Kd.R_alloc | apply Kd.R_drewN | apply Kd.R_drew)); exact HO_6.out⟩, ⟨by repeat (first | (with_reducible first | exact HB.out | apply below_alloc | apply pw_below_drewN | apply below_drew1) | exact HB.out)⟩⟩
                    · rw [if_neg c12] at H
                      exact absurd H (by simp)
                · rw [if_neg c10] at H
                  exact absurd H (by simp)
              · rw [if_neg c9] at H
                exact absurd H (by simp)
            · rw [if_neg c8] at H
              exact absurd H (by simp)
          · rw [if_neg c7] at H
            have c7b0 : decide (0 ≤ x8_1) = false := decide_eq_false c7
            clear c7
            replace H := Option.bind_eq_some_iff.mp H
            obtain ⟨t300, A160, H⟩ := H
            replace H : (some (t300, x7_1)) = some (r1, r2) := H
            have A16 := Aside0.mk A160
            clear A160
            simp only [Option.some.injEq, Prod.mk.injEq] at H
            obtain ⟨rfl, rfl⟩ := H
            obtain ⟨Ao17, co17, eo17⟩ := Kd.R_slice HO_6.out
            subst eo17
            go_wp2_with (first | ((with_reducible refine gate_callee (f := 49) rfl ?_); refine goesL_ (some 40) rfl rfl Tryz.func49 (by kernel_rfl) rfl #[.slice Ao17 x6_1.length co17] rfl (by (try simp only [List.map_toArray, List.map_cons, List.map_nil]); first | done | rfl | (simp only [List.length_drop, List.length_take]; rfl)) ?_; (with_reducible refine (spec_cut.calls k1 (fun k_ => some k_ = (.slice Ao17 x6_1.length co17 : Value).ownBlock) _ _ x6_1 t300 _ ?side1 A16.out).mono ?_); (case side1 => exact Kd.R_V (Kd.R_tight rfl (HO_6.out))); rintro e w18 ⟨v301, rfl, ho0, hb⟩; refine ⟨_, rfl, ?_⟩; have n0_ := Aside0.mk (Kd.R_below (by (with_reducible repeat (first | apply Kd.R_alloc | apply Kd.R_drewN | apply Kd.R_drew)); exact HO_6.out) hb); have n1_ := Aside0.mk (Kd.V_lower (Kd.V_mono (ok' := fun k_ => (w.heap.size ≤ k_)) ho0 (fun k_ hk_ => Or.elim hk_ (fun hs_ => ((HO_6.out).1 k_ hs_.symm)) (fun hn_ => (Nat.le_trans (below_size (by repeat (first | (with_reducible first | exact HB.out | apply below_alloc | apply pw_below_drewN | apply below_drew1) | exact HB.out))) hn_)))) (below_size (by repeat (first | (with_reducible first | exact HB.out | apply below_alloc | apply pw_below_drewN | apply below_drew1) | exact HB.out)))); have n2_ := Aside0.mk (below_step (by repeat (first | (with_reducible first | exact HB.out | apply below_alloc | apply pw_below_drewN | apply below_drew1) | exact HB.out)) hb); clear HO_6; clear HB; have HO_6 := n0_; have HO302 := n1_; have HB := n2_; clear n0_ n1_ n2_; (try clear hb); (try clear hb2); (try clear hk); (try clear hi); (try clear ho0)))
            go_ret2
            exact ⟨_, by first | rfl | (simp [errW_none, errW_some] <;> rfl) | (simp [*, errW_none, errW_some] <;> rfl), by (with_reducible repeat (first | apply Kd.V_alloc | apply Kd.V_drewN | apply Kd.V_drew)); exact HO302.out, by repeat (first | (with_reducible first | exact HB.out | apply below_alloc | apply pw_below_drewN | apply below_drew1) | exact HB.out)⟩
    · rw [if_neg c4] at H
      exact absurd H (by simp)
  · rw [if_neg c3] at H
    exact absurd H (by simp)
end Go.Proofs.YtefeijofhocnpaaGreatDoor.PSpec
