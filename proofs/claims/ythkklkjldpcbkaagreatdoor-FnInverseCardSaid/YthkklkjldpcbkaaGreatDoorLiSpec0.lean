/- The reference's functions spec_Small, spec_cut, spec_Of, spec_Mul, spec_sign, spec_Words, spec_Is, spec_IsNat, spec_In, spec_Zero, spec_One, laws_zzFits1, laws_big as Lean functions, each with the proof that Go comes to its answer: written for this claim by the kit's print program; these pieces of its texts stand here together. -/
import Derived.Test.YthkklkjldpcbkaaGreatDoorProg
import Derived.Below
import Derived.Deep.Draws
import Derived.Deep.AppendLies
import Derived.Maps.AppendAt
import Derived.OwnWalk
import Derived.Laws.BytesArg
import Derived.Laws.MakeOwn
import Derived.Laws.OwnMore
import Derived.Deep.OwnRows
import Derived.Tactics
import Derived.Lib.ConvBytes
import Derived.Laws.Slices
import Derived.WalkKit
import Derived.KernelRfl
import Derived.RowKit3
import Derived.Deep.LoopGhost
import Derived.Deep.QuietTactic
import Derived.BigQuiet
import Derived.WideLaws
import Derived.Deep.DeepCutAuto
import Derived.Deep.CutBlock
import Derived.Deep.RegionHeld3
import Derived.Laws.Rows
import Derived.Lib.AppendStr
import Derived.ArgAppend
import Derived.Laws.IdiomCopy
import Derived.OrdersHeld
import Derived.Laws.BitsLemmas
import Derived.RowKit
import Derived.Test.YthkklkjldpcbkaaGreatDoorLiWWords
import Derived.Test.YthkklkjldpcbkaaGreatDoorLiWLast
import Derived.Test.YthkklkjldpcbkaaGreatDoorLiWApart
import Derived.Test.YthkklkjldpcbkaaGreatDoorLiWFoot
import Derived.Test.YthkklkjldpcbkaaGreatDoorLiWKept
import Derived.Test.YthkklkjldpcbkaaGreatDoorLiWShare
import Derived.Laws.StructEq
import Derived.Test.YthkklkjldpcbkaaGreatDoorLiWRepsOne
import Derived.Test.YthkklkjldpcbkaaGreatDoorLiWGuard
import Derived.Test.YthkklkjldpcbkaaGreatDoorLiWMore
set_option maxHeartbeats 16000000
set_option maxRecDepth 1000000
namespace Go.Proofs.YthkklkjldpcbkaaGreatDoor.PSpec
open Go.RowKit Go.Proofs.YthkklkjldpcbkaaGreatDoorW.PrintWords Go.Proofs.YthkklkjldpcbkaaGreatDoorW.PrintLast Go.Proofs.YthkklkjldpcbkaaGreatDoorW.PrintMore
attribute [local go_sem] max2_int min2_int max_two min_two max_three min_three max_four min_four   -- for this text's walks alone
set_option linter.unusedVariables false
set_option linter.unusedSimpArgs false
theorem info3 : (Tryz.prog.info? 3).map (fun i => (i.zero, i.size, i.bytes)) = some (some (.int .i64 0), 1, 8) := by kernel_rfl
def spec_Small.l0 : Nat -> Int -> List Int -> Option (List Int)
 | 0, _, _ => none
 | k + 1, x0, x3 => if x0 > 0 then (if x3.length < 17592186044416 then (spec_Small.l0 k (wrap64 (Int.tdiv x0 65536)) (x3 ++ [Int.tmod x0 65536])) else (none)) else (some x3)
def spec_Small.f (k : Nat) (a0 : Int) : Option (List Int) := spec_Small.l0 k a0 (([] : List Int))
theorem spec_Small.mono_l : ∀ k, (∀ y0 y1, LeO (spec_Small.l0 k y0 y1) (spec_Small.l0 (k + 1) y0 y1))
 | 0 => fun _ _ r h => by simp [spec_Small.l0] at h
 | k + 1 => by
  have ih0 := spec_Small.mono_l k
  .
   intro y0 y1
   unfold spec_Small.l0
   repeat' first
   | (with_reducible exact ih0 _ _)
   | (with_reducible exact LeO.refl _)
   | (with_reducible exact LeO.none _)
   | (with_reducible refine LeO.ite ?_ ?_)
   | (with_reducible refine LeO.bind ?_ (fun _ => ?_))
   | exact ih0 _ _
   | exact LeO.none _
   | refine LeO.ite ?_ ?_
   | refine LeO.bind ?_ (fun _ => ?_)
theorem spec_Small.mono : ∀ a0 k, LeO (spec_Small.f k a0) (spec_Small.f (k + 1) a0) := by
 intro a0 k
 have ih0 := spec_Small.mono_l k
 unfold spec_Small.f
 repeat' first
   | (with_reducible exact ih0 _ _)
   | (with_reducible exact LeO.refl _)
   | (with_reducible exact LeO.none _)
   | (with_reducible refine LeO.ite ?_ ?_)
   | (with_reducible refine LeO.bind ?_ (fun _ => ?_))
   | exact ih0 _ _
   | exact LeO.none _
   | refine LeO.ite ?_ ?_
   | refine LeO.bind ?_ (fun _ => ?_)
theorem spec_Small.calls (k : Nat) (a0 : Int) (r : List Int) (w : World) (h : spec_Small.f k a0 = some r) :
  Calls Tryz.prog 19 #[.int .i64 a0] w fun e w' => ∃ v0_ : Value, e = .returned (v0_) /\ Kd.R (Kd.int .i64) 3 w' w.heap.size (fun _ => True) v0_ r /\ Below w.heap.size w w' := by
 have HB := Zd.mk (Below.refl w.heap.size w)
 have H : (spec_Small.l0 k a0 (([] : List Int))) = some r := h
 clear h
 obtain ⟨y199, hy199⟩ : ∃ y_ : List Int, y_ = (([] : List Int)) := ⟨_, rfl⟩
 replace H : (spec_Small.l0 k a0 y199) = some r := by first | (rw [hy199]; with_reducible exact H) | (have H2_ := (Option.bind_some _ _).symm.trans H; rw [hy199]; with_reducible exact H2_) | (have H2_ := (Option.bind_some _ _).symm.trans H; with_reducible exact H2_) | with_reducible exact H | (rw [hy199]; exact H) | exact H
 have Ny199 := Zd.mk hy199
 clear hy199
 have H' := Zd.mk H
 clear H
 go_enter Tryz.func19, Tryz.ntmps19
 go_wp2_with (first | ((with_reducible refine gate_dst (N := 4) rfl ?_); refine Kd.R_lit (Kd.int .i64) _ 3 ?hg (N := 4) ?hd (xs := ([] : List Int)) (inner := []) (ok := fun _ => True) (okp := fun _ => True) ?hr ?hp (fun _ hk => hk) trivial (Below.refl _ _) (Nat.le_refl _) (by simp) ?_; (case hd => rfl); (case hg => rfl); (case hr => first | (go_simp; done) | (go_simp; rfl)); (case hp => exact (Reps.none _ _)); intro v200 w2 ho3 hb hg_ hnew_; clear hg_ hnew_; (first | rw [<- Ny199.out] at ho3 | (simp only [Int.reduceToNat] at ho3; rw [<- Ny199.out] at ho3)); have n0_ := Zd.mk (Kd.R_lower ho3 (Ze (by repeat (first | (with_reducible first | exact HB.out | apply Zb | apply Za | apply Zc) | exact HB.out)))); have n1_ := Zd.mk (Zi (by repeat (first | (with_reducible first | exact HB.out | apply Zb | apply Za | apply Zc) | exact HB.out)) hb); clear HB; have HO201 := n0_; have HB := n1_; clear n0_ n1_; clear hb ho3))
 go_loopg [0, 3] k (fun kq v0 v3 w' => ∃ (x0_1 : Int) (x3_1 : List Int), v0 = .int .i64 x0_1 /\ Zd (spec_Small.l0 kq x0_1 x3_1 = some r) /\ Zd (kq <= k) /\ Zd (Kd.R (Kd.int .i64) 3 w' w.heap.size (fun _ => True) v3 x3_1) /\ Zd (Below w.heap.size w w'))
 case atStart => exact ⟨(a0), (y199), (by first | rfl | (simp; done) | (simp [*]; done)), H', ⟨Nat.le_refl _⟩, ⟨by (with_reducible repeat (first | apply Kd.R_alloc | apply Kd.R_drewN | apply Kd.R_drew)); exact HO201.out⟩, ⟨by repeat (first | (with_reducible first | exact HB.out | apply Zb | apply Za | apply Zc) | exact HB.out)⟩⟩
 case round =>
  clear H'
  try clear c1
  try clear p2
  obtain ⟨x0_1, x3_1, rfl, HA, HK1, HO_3, HB⟩ := hrel
  cases gk with
  | zero => exact absurd HA.out (by simp [spec_Small.l0])
  | succ k1 =>
   have H := HA.out
   clear HA
   simp only [spec_Small.l0] at H
   by_cases c4 : x0_1 > 0
   .
    rw [if_pos c4] at H
    have c4b0 : decide (0 < x0_1) = true := decide_eq_true c4
    clear c4
    by_cases c5 : x3_1.length < 17592186044416
    .
     rw [if_pos c5] at H
     have LMc5 := Zd.mk c5
     clear c5
     obtain ⟨y202, hy202⟩ : ∃ y_ : List Int, y_ = (x3_1 ++ [Int.tmod x0_1 65536]) := ⟨_, rfl⟩
     replace H : (spec_Small.l0 k1 (wrap64 (Int.tdiv x0_1 65536)) y202) = some r := by first | (rw [hy202]; with_reducible exact H) | (have H2_ := (Option.bind_some _ _).symm.trans H; rw [hy202]; with_reducible exact H2_) | (have H2_ := (Option.bind_some _ _).symm.trans H; with_reducible exact H2_) | with_reducible exact H | (rw [hy202]; exact H) | exact H
     have Ny202 := Zd.mk hy202
     clear hy202
     have H' := Zd.mk H
     clear H
     go_wp2_with (first | ((with_reducible refine gate_builtin (b := .append) (xs := #[.tmp 9, .tmp 12]) rfl ?_); at_builtin; refine Kd.R_append (Kd.int .i64) (w0 := w) w.heap.size rfl (.tmp 9) (.tmp 12) 30 3 (.int .i64 0) 8 rfl Tryz.underlying30 info3 rfl (by decide) (by omega) u3 x3_1 (Int.tmod x0_1 65536) [.int .i64 (Int.tmod x0_1 65536)] (fun _ => True) (fun _ => False) rfl rfl ?aP (fun _ hk => hk.elim) ?aF ?aO ?aB ?aS ?aL ?_; (case aP => exact rfl); (case aB => exact (by repeat (first | (with_reducible first | exact HB.out | apply Zb | apply Za | apply Zc) | exact HB.out))); (case aF => exact (fun _ _ => trivial)); (case aO => exact (by (with_reducible repeat (first | apply Kd.R_alloc | apply Kd.R_drewN | apply Kd.R_drew)); exact HO_3.out)); (case aS => exact (Ze (by repeat (first | (with_reducible first | exact HB.out | apply Zb | apply Za | apply Zc) | exact HB.out)))); (case aL => have := LMc5.out; omega); intro v203 w6 ho hb hg hat; rw [<- Ny202.out] at ho; have n0_ := Zd.mk (hb); have n1_ := Zd.mk (ho); clear HB; clear HO_3; have HB := n0_; have HO204 := n1_; clear n0_ n1_; clear ho hb hg hat))
     go_roundg k1
     case measure => have := HK1.out; omega
     case rel => exact ⟨(wrap64 (Int.tdiv x0_1 65536)), (y202), (by first | rfl | (simp; done) | (simp [*]; done)), H', ⟨by have := HK1.out; omega⟩, ⟨by (with_reducible repeat (first | apply Kd.R_alloc | apply Kd.R_drewN | apply Kd.R_drew)); exact HO204.out⟩, ⟨by repeat (first | (with_reducible first | exact HB.out | apply Zb | apply Za | apply Zc) | exact HB.out)⟩⟩
    .
     rw [if_neg c5] at H
     exact absurd H (by simp)
   .
    rw [if_neg c4] at H
    have c4b0 : decide (0 < x0_1) = false := decide_eq_false c4
    clear c4
    obtain rfl := Option.some.inj H
    go_wp2
    go_ret
    exact ⟨_, by first | rfl | (simp [errW_none, errW_some] <;> rfl) | (simp [*, errW_none, errW_some] <;> rfl), by (with_reducible repeat (first | apply Kd.R_alloc | apply Kd.R_drewN | apply Kd.R_drew)); exact HO_3.out, by repeat (first | (with_reducible first | exact HB.out | apply Zb | apply Za | apply Zc) | exact HB.out)⟩
def spec_cut.l0 : Nat -> List Int -> Option (List Int)
 | 0, _ => none
 | k + 1, x0 => if (x0.length : Int) > 0 then (if 0 <= (wrap64 ((x0.length : Int) - 1)) then (if (wrap64 ((x0.length : Int) - 1)) < (x0.length : Int) then (if (rd x0 (wrap64 ((x0.length : Int) - 1))) = 0 then (if (wrap64 ((x0.length : Int) - 1)) <= (x0.length : Int) then (spec_cut.l0 k (x0.take ((wrap64 ((x0.length : Int) - 1)) : Int).toNat)) else (none)) else (some x0)) else (none)) else (none)) else (some x0)
def spec_cut.f (k : Nat) (l0 : List Int) : Option (List Int) := spec_cut.l0 k l0
theorem spec_cut.mono_l : ∀ k, (∀ y0, LeO (spec_cut.l0 k y0) (spec_cut.l0 (k + 1) y0))
 | 0 => fun _ r h => by simp [spec_cut.l0] at h
 | k + 1 => by
  have ih0 := spec_cut.mono_l k
  .
   intro y0
   unfold spec_cut.l0
   repeat' first
   | (with_reducible exact ih0 _)
   | (with_reducible exact LeO.refl _)
   | (with_reducible exact LeO.none _)
   | (with_reducible refine LeO.ite ?_ ?_)
   | (with_reducible refine LeO.bind ?_ (fun _ => ?_))
   | exact ih0 _
   | exact LeO.none _
   | refine LeO.ite ?_ ?_
   | refine LeO.bind ?_ (fun _ => ?_)
theorem spec_cut.mono : ∀ a0 k, LeO (spec_cut.f k a0) (spec_cut.f (k + 1) a0) := by
 intro a0 k
 have ih0 := spec_cut.mono_l k
 unfold spec_cut.f
 repeat' first
   | (with_reducible exact ih0 _)
   | (with_reducible exact LeO.refl _)
   | (with_reducible exact LeO.none _)
   | (with_reducible refine LeO.ite ?_ ?_)
   | (with_reducible refine LeO.bind ?_ (fun _ => ?_))
   | exact ih0 _
   | exact LeO.none _
   | refine LeO.ite ?_ ?_
   | refine LeO.bind ?_ (fun _ => ?_)
theorem spec_cut.calls (k : Nat) (P0_ : Nat -> Prop) (A0 : Option Addr) (c0 : Nat) (l0 : List Int) (r : List Int) (w : World) (hs0 : Kd.V (Kd.int .i64) 3 w w.heap.size (fun k_ => P0_ k_) (.slice A0 l0.length c0) l0) (h : spec_cut.f k l0 = some r) :
  Calls Tryz.prog 56 #[.slice A0 l0.length c0] w fun e w' => ∃ v0_ : Value, e = .returned (v0_) /\ Kd.V (Kd.int .i64) 3 w' w.heap.size (fun k_ => (P0_ k_ \/ w.heap.size <= k_)) v0_ r /\ Below w.heap.size w w' := by
 have HO0 := Zd.mk (show Kd.V (Kd.int .i64) 3 w w.heap.size (fun k_ => (P0_ k_ \/ w.heap.size <= k_)) (.slice A0 l0.length c0) l0 from Kd.V_mono hs0 (fun k_ hk => .inl hk))
 have HB := Zd.mk (Below.refl w.heap.size w)
 have H : (spec_cut.l0 k l0) = some r := h
 clear h
 have H' := Zd.mk H
 clear H
 go_enter Tryz.func56, Tryz.ntmps56
 go_wp2
 go_loopg [0] k (fun kq v0 w' => ∃ (x0_1 : List Int), Zd (spec_cut.l0 kq x0_1 = some r) /\ Zd (kq <= k) /\ Zd (Kd.V (Kd.int .i64) 3 w' w.heap.size (fun k_ => (P0_ k_ \/ w.heap.size <= k_)) v0 x0_1) /\ Zd (Below w.heap.size w w'))
 case atStart => exact ⟨(l0), H', ⟨Nat.le_refl _⟩, ⟨by (with_reducible repeat (first | apply Kd.V_alloc | apply Kd.V_drewN | apply Kd.V_drew)); exact HO0.out⟩, ⟨by repeat (first | (with_reducible first | exact HB.out | apply Zb | apply Za | apply Zc) | exact HB.out)⟩⟩
 case round =>
  clear H'
  obtain ⟨x0_1, HA, HK1, HO_0, HB⟩ := hrel
  cases gk with
  | zero => exact absurd HA.out (by simp [spec_cut.l0])
  | succ k1 =>
   have H := HA.out
   clear HA
   simp only [spec_cut.l0] at H
   by_cases c2 : (x0_1.length : Int) > 0
   .
    rw [if_pos c2] at H
    have c2b0 : decide (0 < (x0_1.length : Int)) = true := decide_eq_true c2
    have c2b1 : decide (0 < x0_1.length) = true := decide_eq_true (by omega)
    clear c2
    obtain ⟨ji3, hji3⟩ : ∃ j_ : Int, (wrap64 ((x0_1.length : Int) - 1)) = j_ := ⟨_, rfl⟩
    replace H : (if 0 <= (ji3) then (if (ji3) < (x0_1.length : Int) then (if (rd x0_1 (ji3)) = 0 then (if (ji3) <= (x0_1.length : Int) then (spec_cut.l0 k1 (x0_1.take ((ji3) : Int).toNat)) else (none)) else (some x0_1)) else (none)) else (none)) = some r := by first | (rw [hji3] at H; exact H) | (simp only [hji3] at H ⊢; exact H)
    have hji3w : (IntKind.i64.wrap ((x0_1.length : Int) - 1)) = ji3 := (i64_w _).trans hji3
    by_cases c4 : 0 <= (ji3)
    .
     rw [if_pos c4] at H
     have c4b0 : decide (0 <= (ji3)) = true := decide_eq_true c4
     clear c4
     by_cases c5 : (ji3) < (x0_1.length : Int)
     .
      rw [if_pos c5] at H
      have c5b0 : decide ((ji3) < (x0_1.length : Int)) = true := decide_eq_true c5
      clear c5
      by_cases c6 : (rd x0_1 (ji3)) = 0
      .
       rw [if_pos c6] at H
       have c6b0 : ((rd x0_1 (ji3)) == 0) = true := beq_iff_eq.mpr c6
       have c6b1 : ((rd x0_1 (ji3)) != 0) = false := bne_eq_false_iff_eq.mpr c6
       clear c6
       have c7b0 := eq_true (of_decide_eq_true (by first | (with_reducible assumption) | assumption) : 0 <= (ji3))
       by_cases c8 : (ji3) <= (x0_1.length : Int)
       .
        rw [if_pos c8] at H
        have c8b0 := eq_true c8
        have c8b1 : decide ((ji3) <= (x0_1.length : Int)) = true := decide_eq_true c8
        clear c8
        obtain ⟨y175, hy175⟩ : ∃ y_ : List Int, y_ = (x0_1.take ((ji3) : Int).toNat) := ⟨_, rfl⟩
        replace H : (spec_cut.l0 k1 y175) = some r := by first | (rw [hy175]; with_reducible exact H) | (have H2_ := (Option.bind_some _ _).symm.trans H; rw [hy175]; with_reducible exact H2_) | (have H2_ := (Option.bind_some _ _).symm.trans H; with_reducible exact H2_) | with_reducible exact H | (rw [hy175]; exact H) | exact H
        have Ny175 := Zd.mk hy175
        clear hy175
        have H' := Zd.mk H
        clear H
        obtain ⟨Ao9, co9, eo9⟩ := Kd.V_slice HO_0.out
        subst eo9
        have p174 : 0 <= ((ji3) : Int) := of_decide_eq_true (by first | (with_reducible assumption) | assumption)
        have q174 : (ji3) < (x0_1.length : Int) := of_decide_eq_true (by first | (with_reducible assumption) | assumption)
        obtain ⟨ad174, e174, hx174_0⟩ := Kd.at_int (Kd.V_reads' HO_0.out).2.2 (ji3) p174 q174
        cases e174
        replace p174 := eq_true p174
        replace q174 := eq_true q174
        have q10 : ((ji3) : Int) <= ((x0_1.length : Int) : Int) := of_decide_eq_true (by first | (with_reducible assumption) | assumption)
        obtain ⟨i010, hi010, _, hsz10, _⟩ := info_parts info3
        have hroom10 : x0_1.length <= co9 := (Kd.V_reads' HO_0.out).2.1
        have hC10 : Kd.F (Kd.int .i64) _ _ (some ad174) x0_1.length x0_1 := (Kd.V_at (base := w.heap.size) HO_0.out).2.2
        have hcut10 := cut_to (P := Tryz.prog) 30 3 .i64 Tryz.underlying30 hi010 (some ad174) x0_1.length co9 (ji3) (of_decide_eq_true (by first | (with_reducible assumption) | assumption)) q10 hroom10
        have hr10 := Kd.F_take (m := ((ji3) : Int).toNat) hC10 (by omega)
        have hy10 : y175.length = ((ji3) : Int).toNat := (by rw [Ny175.out, List.length_take]; omega)
        rw [<- Ny175.out] at hr10
        rw [<- hy10] at hcut10
        have HO179 := Zd.mk (show Kd.V (Kd.int .i64) 3 _ w.heap.size _ (.slice (some ad174) y175.length co9) y175 from Kd.V_mk (by omega) hr10)
        have HC179 := Zd.mk (show y175.length <= co9 from by omega)
        clear hr10 hC10 hroom10 hi010 hsz10
        have KY10 := Zd.mk hy10
        clear hy10
        replace q10 := eq_true q10
        go_wp2
        go_roundg k1
        case measure => have := HK1.out; omega
        case rel => exact ⟨(y175), H', ⟨by have := HK1.out; omega⟩, ⟨by (with_reducible repeat (first | apply Kd.V_alloc | apply Kd.V_drewN | apply Kd.V_drew)); exact HO179.out⟩, ⟨by repeat (first | (with_reducible first | exact HB.out | apply Zb | apply Za | apply Zc) | exact HB.out)⟩⟩
       .
        rw [if_neg c8] at H
        exact absurd H (by simp)
      .
       rw [if_neg c6] at H
       have c6b0 : ((rd x0_1 (ji3)) == 0) = false := beq_eq_false_iff_ne.mpr c6
       have c6b1 : ((rd x0_1 (ji3)) != 0) = true := bne_iff_ne.mpr c6
       obtain rfl := Option.some.inj H
       obtain ⟨Ao11, co11, eo11⟩ := Kd.V_slice HO_0.out
       subst eo11
       have p174 : 0 <= ((ji3) : Int) := of_decide_eq_true (by first | (with_reducible assumption) | assumption)
       have q174 : (ji3) < (x0_1.length : Int) := of_decide_eq_true (by first | (with_reducible assumption) | assumption)
       obtain ⟨ad174, e174, hx174_0⟩ := Kd.at_int (Kd.V_reads' HO_0.out).2.2 (ji3) p174 q174
       cases e174
       replace p174 := eq_true p174
       replace q174 := eq_true q174
       go_wp2
       go_ret
       exact ⟨_, by first | rfl | (simp [errW_none, errW_some] <;> rfl) | (simp only [<- hji3]; first | rfl | (simp [errW_none, errW_some] <;> rfl)) | (simp [*, errW_none, errW_some] <;> rfl), by (with_reducible repeat (first | apply Kd.V_alloc | apply Kd.V_drewN | apply Kd.V_drew)); exact HO_0.out, by repeat (first | (with_reducible first | exact HB.out | apply Zb | apply Za | apply Zc) | exact HB.out)⟩
     .
      rw [if_neg c5] at H
      exact absurd H (by simp)
    .
     rw [if_neg c4] at H
     exact absurd H (by simp)
   .
    rw [if_neg c2] at H
    have c2b0 : decide (0 < (x0_1.length : Int)) = false := decide_eq_false c2
    have c2b1 : decide (0 < x0_1.length) = false := decide_eq_false (by omega)
    clear c2
    obtain rfl := Option.some.inj H
    obtain ⟨Ao12, co12, eo12⟩ := Kd.V_slice HO_0.out
    subst eo12
    go_wp2
    go_ret
    exact ⟨_, by first | rfl | (simp [errW_none, errW_some] <;> rfl) | (simp [*, errW_none, errW_some] <;> rfl), by (with_reducible repeat (first | apply Kd.V_alloc | apply Kd.V_drewN | apply Kd.V_drew)); exact HO_0.out, by repeat (first | (with_reducible first | exact HB.out | apply Zb | apply Za | apply Zc) | exact HB.out)⟩
mutual
def spec_Of.l0 : Nat -> List Int -> List Int -> Int -> Int -> Option (List Int)
 | 0, _, _, _, _ => none
 | k + 1, x3, x8, x9, x10 => if x10 < x9 then (if 0 <= x10 then (if x10 < (x8.length : Int) then (spec_Of.l1 k x3 (rd x8 x10) x8 x9 x10 0) else (none)) else (none)) else ((spec_cut.f k x3).bind fun t183 => (some t183))
def spec_Of.l1 : Nat -> List Int -> Int -> List Int -> Int -> Int -> Int -> Option (List Int)
 | 0, _, _, _, _, _, _ => none
 | k + 1, x3, x5, x8, x9, x10, x14 => if x14 < 4 then (if 0 <= (wrap64 (16 * x14)) then (if x3.length < 17592186044416 then (spec_Of.l1 k (x3 ++ [wrap64 (Go.bits .and .u64 (shr .u64 x5 (wrap64 (16 * x14))) 65535)]) x5 x8 x9 x10 (wrap64 (x14 + 1))) else (none)) else (none)) else (spec_Of.l0 k x3 x8 x9 (wrap64 (x10 + 1)))
end
def spec_Of.f (k : Nat) (l0 : List Int) : Option (List Int) := spec_Of.l0 k (([] : List Int)) l0 (l0.length : Int) 0
theorem spec_Of.calls (k : Nat) (A0 : Option Addr) (c0 : Nat) (l0 : List Int) (r : List Int) (w : World) (hr0 : Kd.C (Kd.int .u64) w A0 l0.length l0) (hc0 : l0.length <= c0) (h : spec_Of.f k l0 = some r) :
  Calls Tryz.prog 32 #[.slice A0 l0.length c0] w fun e w' => ∃ v0_ : Value, e = .returned (v0_) /\ Kd.V (Kd.int .i64) 3 w' w.heap.size (fun k_ => (w.heap.size <= k_)) v0_ r /\ Below w.heap.size w w' := by
 have HR0 := Zd.mk hr0
 have HC0 := Zd.mk hc0
 clear hr0 hc0
 have HB := Zd.mk (Below.refl w.heap.size w)
 have H : (spec_Of.l0 k (([] : List Int)) l0 (l0.length : Int) 0) = some r := h
 clear h
 obtain ⟨y180, hy180⟩ : ∃ y_ : List Int, y_ = (([] : List Int)) := ⟨_, rfl⟩
 replace H : (spec_Of.l0 k y180 l0 (l0.length : Int) 0) = some r := by first | (rw [hy180]; with_reducible exact H) | (have H2_ := (Option.bind_some _ _).symm.trans H; rw [hy180]; with_reducible exact H2_) | (have H2_ := (Option.bind_some _ _).symm.trans H; with_reducible exact H2_) | with_reducible exact H | (rw [hy180]; exact H) | exact H
 have Ny180 := Zd.mk hy180
 clear hy180
 have H' := Zd.mk H
 clear H
 go_enter Tryz.func32, Tryz.ntmps32
 go_wp2_with (first | ((with_reducible refine gate_dst (N := 7) rfl ?_); refine Kd.R_lit (Kd.int .i64) _ 3 ?hg (N := 7) ?hd (xs := ([] : List Int)) (inner := []) (ok := fun _ => True) (okp := fun _ => True) ?hr ?hp (fun _ hk => hk) trivial (Below.refl _ _) (Nat.le_refl _) (by simp) ?_; (case hd => rfl); (case hg => rfl); (case hr => first | (go_simp; done) | (go_simp; rfl)); (case hp => exact (Reps.none _ _)); intro v181 w2 ho3 hb hg_ hnew_; clear hg_ hnew_; (first | rw [<- Ny180.out] at ho3 | (simp only [Int.reduceToNat] at ho3; rw [<- Ny180.out] at ho3)); have n0_ := Zd.mk (Kd.R_lower (Kd.R_newM (M := fun k_ => (w.heap.size <= k_)) ho3 (Ze (by repeat (first | (with_reducible first | exact HB.out | apply Zb | apply Za | apply Zc) | exact HB.out))) (fun k_ h_ => h_)) (Ze (by repeat (first | (with_reducible first | exact HB.out | apply Zb | apply Za | apply Zc) | exact HB.out)))); have n1_ := Zd.mk (Zi (by repeat (first | (with_reducible first | exact HB.out | apply Zb | apply Za | apply Zc) | exact HB.out)) hb); clear HB; have HO182 := n0_; have HB := n1_; clear n0_ n1_; clear hb ho3))
 go_loopg [3, 10] k (fun kq v3 v10 w' => ∃ (x3_1 : List Int) (x10_1 : Int), v10 = .int .i64 x10_1 /\ Zd (spec_Of.l0 kq x3_1 l0 (l0.length : Int) x10_1 = some r) /\ Zd (kq <= k) /\ Zd (Kd.R (Kd.int .i64) 3 w' w.heap.size (fun k_ => (w.heap.size <= k_)) v3 x3_1) /\ Zd (Below w.heap.size w w'))
 case atStart => exact ⟨(y180), (0), (by first | rfl | (simp; done) | (simp [*]; done)), H', ⟨Nat.le_refl _⟩, ⟨by (with_reducible repeat (first | apply Kd.R_alloc | apply Kd.R_drewN | apply Kd.R_drew)); exact Kd.R_mono HO182.out (fun _ hk => hk.1)⟩, ⟨by repeat (first | (with_reducible first | exact HB.out | apply Zb | apply Za | apply Zc) | exact HB.out)⟩⟩
 case round =>
  clear H'
  try clear p2
  try clear c3
  obtain ⟨x3_1, x10_1, rfl, HA, HK1, HO_3, HB⟩ := hrel
  cases gk with
  | zero => exact absurd HA.out (by simp [spec_Of.l0])
  | succ k1 =>
   have H := HA.out
   clear HA
   simp only [spec_Of.l0] at H
   by_cases c4 : x10_1 < (l0.length : Int)
   .
    rw [if_pos c4] at H
    have c4b0 : decide (x10_1 < (l0.length : Int)) = true := decide_eq_true c4
    clear c4
    by_cases c5 : 0 <= x10_1
    .
     rw [if_pos c5] at H
     have c5b0 : decide (0 <= x10_1) = true := decide_eq_true c5
     clear c5
     by_cases c6 : x10_1 < (l0.length : Int)
     .
      rw [if_pos c6] at H
      have c6b0 : decide (x10_1 < (l0.length : Int)) = true := decide_eq_true c6
      clear c6
      have H' := Zd.mk H
      clear H
      have p186 : 0 <= (x10_1 : Int) := of_decide_eq_true (by first | (with_reducible assumption) | assumption)
      have q186 : x10_1 < (l0.length : Int) := of_decide_eq_true (by first | (with_reducible assumption) | assumption)
      obtain ⟨ad186, e186, hx186_0⟩ := Kd.at_int HR0.out x10_1 p186 q186
      cases e186
      replace hx186_0 := (HB.out.cell (World.block_lt_of_cell? w _ hx186_0)).trans hx186_0
      replace p186 := eq_true p186
      replace q186 := eq_true q186
      go_wp2
      go_loopg [3, 14] k1 (fun kq v3 v14 w' => ∃ (x3_2 : List Int) (x14_2 : Int), v14 = .int .i64 x14_2 /\ Zd (spec_Of.l1 kq x3_2 (rd l0 x10_1) l0 (l0.length : Int) x10_1 x14_2 = some r) /\ Zd (kq <= k1) /\ Zd (Kd.R (Kd.int .i64) 3 w' w.heap.size (fun k_ => (w.heap.size <= k_)) v3 x3_2) /\ Zd (Below w.heap.size w w'))
      case atStart => exact ⟨(x3_1), (0), (by first | rfl | (simp; done) | (simp [*]; done)), H', ⟨Nat.le_refl _⟩, ⟨by (with_reducible repeat (first | apply Kd.R_alloc | apply Kd.R_drewN | apply Kd.R_drew)); exact HO_3.out⟩, ⟨by repeat (first | (with_reducible first | exact HB.out | apply Zb | apply Za | apply Zc) | exact HB.out)⟩⟩
      case round =>
       clear H'
       try clear p1
       try clear q1
       try clear hx1
       try clear p2
       try clear c3
       try clear c4
       try clear c4b0
       try clear c5
       try clear c5b0
       try clear c6
       try clear c6b0
       try clear hx186_0
       try clear p186
       try clear p2
       try clear q186
       obtain ⟨x3_2, x14_2, rfl, HA, HK2, HO_3, HB⟩ := hrel
       cases gk with
       | zero => exact absurd HA.out (by simp [spec_Of.l1])
       | succ k2 =>
        have H := HA.out
        clear HA
        simp only [spec_Of.l1] at H
        by_cases c7 : x14_2 < 4
        .
         rw [if_pos c7] at H
         have c7b0 : decide (x14_2 < 4) = true := decide_eq_true c7
         clear c7
         obtain ⟨ji8, hji8⟩ : ∃ j_ : Int, (wrap64 (16 * x14_2)) = j_ := ⟨_, rfl⟩
         replace H : (if 0 <= (ji8) then (if x3_2.length < 17592186044416 then (spec_Of.l1 k2 (x3_2 ++ [wrap64 (Go.bits .and .u64 (shr .u64 (rd l0 x10_1) (ji8)) 65535)]) (rd l0 x10_1) l0 (l0.length : Int) x10_1 (wrap64 (x14_2 + 1))) else (none)) else (none)) = some r := by first | (rw [hji8] at H; exact H) | (simp only [hji8] at H ⊢; exact H)
         have hji8w : (IntKind.i64.wrap (16 * x14_2)) = ji8 := (i64_w _).trans hji8
         by_cases c9 : 0 <= (ji8)
         .
          rw [if_pos c9] at H
          have c9b0 := eq_true c9
          have c9b1 : decide (0 <= (ji8)) = true := decide_eq_true c9
          clear c9
          obtain ⟨ji10, hji10⟩ : ∃ j_ : Int, (shr .u64 (rd l0 x10_1) (ji8)) = j_ := ⟨_, rfl⟩
          replace H : (if x3_2.length < 17592186044416 then (spec_Of.l1 k2 (x3_2 ++ [wrap64 (Go.bits .and .u64 (ji10) 65535)]) (rd l0 x10_1) l0 (l0.length : Int) x10_1 (wrap64 (x14_2 + 1))) else (none)) = some r := by first | (rw [hji10] at H; exact H) | (simp only [hji10] at H ⊢; exact H)
          have hji10_ : ((rd l0 x10_1) / 2 ^ min (ji8).toNat 64) = ji10 := hji10
          have hji10z : (ji8) <= 64 -> ((rd l0 x10_1) / 2 ^ (ji8).toNat) = ji10 := shr_small hji10
          by_cases c11 : x3_2.length < 17592186044416
          .
           rw [if_pos c11] at H
           have LMc11 := Zd.mk c11
           clear c11
           obtain ⟨y187, hy187⟩ : ∃ y_ : List Int, y_ = (x3_2 ++ [wrap64 (Go.bits .and .u64 (ji10) 65535)]) := ⟨_, rfl⟩
           replace H : (spec_Of.l1 k2 y187 (rd l0 x10_1) l0 (l0.length : Int) x10_1 (wrap64 (x14_2 + 1))) = some r := by first | (rw [hy187]; with_reducible exact H) | (have H2_ := (Option.bind_some _ _).symm.trans H; rw [hy187]; with_reducible exact H2_) | (have H2_ := (Option.bind_some _ _).symm.trans H; with_reducible exact H2_) | with_reducible exact H | (rw [hy187]; exact H) | exact H
           have Ny187 := Zd.mk hy187
           clear hy187
           have H' := Zd.mk H
           clear H
           go_wp2_with (first | ((with_reducible refine gate_builtin (b := .append) (xs := #[.tmp 17, .tmp 24]) rfl ?_); at_builtin; refine Kd.R_append (Kd.int .i64) (w0 := w) w.heap.size rfl (.tmp 17) (.tmp 24) 30 3 (.int .i64 0) 8 rfl Tryz.underlying30 info3 rfl (by decide) (by omega) u3 x3_2 (wrap64 (Go.bits .and .u64 (ji10) 65535)) [.int .i64 (wrap64 (Go.bits .and .u64 (ji10) 65535))] (fun k_ => (w.heap.size <= k_)) (fun _ => False) rfl rfl ?aP (fun _ hk => hk.elim) ?aF ?aO ?aB ?aS ?aL ?_; (case aP => exact rfl); (case aB => exact (by repeat (first | (with_reducible first | exact HB.out | apply Zb | apply Za | apply Zc) | exact HB.out))); (case aF => exact (fun k_ hk => (Nat.le_trans (Ze (by repeat (first | (with_reducible first | exact HB.out | apply Zb | apply Za | apply Zc) | exact HB.out))) hk))); (case aO => exact (by (with_reducible repeat (first | apply Kd.R_alloc | apply Kd.R_drewN | apply Kd.R_drew)); exact HO_3.out)); (case aS => exact (Ze (by repeat (first | (with_reducible first | exact HB.out | apply Zb | apply Za | apply Zc) | exact HB.out)))); (case aL => have := LMc11.out; omega); intro v188 w12 ho hb hg hat; rw [<- Ny187.out] at ho; have n0_ := Zd.mk (hb); have n1_ := Zd.mk (ho); clear HB; clear HO_3; have HB := n0_; have HO189 := n1_; clear n0_ n1_; clear ho hb hg hat))
           go_roundg k2
           case measure => have := HK1.out; have := HK2.out; omega
           case rel => exact ⟨(y187), (wrap64 (x14_2 + 1)), (by first | rfl | (simp; done) | (simp [*]; done)), H', ⟨by have := HK1.out; have := HK2.out; omega⟩, ⟨by (with_reducible repeat (first | apply Kd.R_alloc | apply Kd.R_drewN | apply Kd.R_drew)); exact HO189.out⟩, ⟨by repeat (first | (with_reducible first | exact HB.out | apply Zb | apply Za | apply Zc) | exact HB.out)⟩⟩
          .
           rw [if_neg c11] at H
           exact absurd H (by simp)
         .
          rw [if_neg c9] at H
          exact absurd H (by simp)
        .
         rw [if_neg c7] at H
         have c7b0 : decide (x14_2 < 4) = false := decide_eq_false c7
         clear c7
         have H' := Zd.mk H
         clear H
         go_wp2
         go_roundg k2
         case measure => have := HK1.out; have := HK2.out; omega
         case rel => exact ⟨(x3_2), (wrap64 (x10_1 + 1)), (by first | rfl | (simp; done) | (simp [*]; done)), H', ⟨by have := HK1.out; have := HK2.out; omega⟩, ⟨by (with_reducible repeat (first | apply Kd.R_alloc | apply Kd.R_drewN | apply Kd.R_drew)); exact HO_3.out⟩, ⟨by repeat (first | (with_reducible first | exact HB.out | apply Zb | apply Za | apply Zc) | exact HB.out)⟩⟩
     .
      rw [if_neg c6] at H
      exact absurd H (by simp)
    .
     rw [if_neg c5] at H
     exact absurd H (by simp)
   .
    rw [if_neg c4] at H
    have c4b0 : decide (x10_1 < (l0.length : Int)) = false := decide_eq_false c4
    clear c4
    replace H := Option.bind_eq_some_iff.mp H
    obtain ⟨t183, A130, H⟩ := H
    replace H : (some t183) = some r := H
    have A13 := Zd.mk A130
    clear A130
    obtain rfl := Option.some.inj H
    obtain ⟨Ao14, co14, eo14⟩ := Kd.R_slice HO_3.out
    subst eo14
    go_wp2_with (first | ((with_reducible refine Zr (f := 56) rfl ?_); refine goesL_ (some 29) rfl rfl Tryz.func56 (by kernel_rfl) rfl #[.slice Ao14 x3_1.length co14] rfl (by (try simp only [List.map_toArray, List.map_cons, List.map_nil]); first | done | rfl | (simp only [List.length_drop, List.length_take]; rfl)) ?_; (with_reducible refine (spec_cut.calls k1 (fun k_ => some k_ = (.slice Ao14 x3_1.length co14 : Value).ownBlock) _ _ x3_1 t183 _ ?side1 A13.out).mono ?_); (case side1 => exact Kd.R_V (Kd.R_tight rfl (HO_3.out))); rintro e w15 ⟨v184, rfl, ho0, hb⟩; refine ⟨_, rfl, ?_⟩; have n0_ := Zd.mk (Kd.R_below (by (with_reducible repeat (first | apply Kd.R_alloc | apply Kd.R_drewN | apply Kd.R_drew)); exact HO_3.out) hb); have n1_ := Zd.mk (Kd.V_lower (Kd.V_mono (ok' := fun k_ => (w.heap.size <= k_)) ho0 (fun k_ hk_ => Or.elim hk_ (fun hs_ => ((HO_3.out).1 k_ hs_.symm)) (fun hn_ => (Nat.le_trans (Ze (by repeat (first | (with_reducible first | exact HB.out | apply Zb | apply Za | apply Zc) | exact HB.out))) hn_)))) (Ze (by repeat (first | (with_reducible first | exact HB.out | apply Zb | apply Za | apply Zc) | exact HB.out)))); have n2_ := Zd.mk (Zi (by repeat (first | (with_reducible first | exact HB.out | apply Zb | apply Za | apply Zc) | exact HB.out)) hb); clear HO_3; clear HB; have HO_3 := n0_; have HO185 := n1_; have HB := n2_; clear n0_ n1_ n2_; (try clear hb); (try clear hb2); (try clear hk); (try clear hi); (try clear ho0)))
    go_ret
    exact ⟨_, by first | rfl | (simp [errW_none, errW_some] <;> rfl) | (simp [*, errW_none, errW_some] <;> rfl), by (with_reducible repeat (first | apply Kd.V_alloc | apply Kd.V_drewN | apply Kd.V_drew)); exact HO185.out, by repeat (first | (with_reducible first | exact HB.out | apply Zb | apply Za | apply Zc) | exact HB.out)⟩
mutual
def spec_Mul.l0 : Nat -> List Int -> List Int -> List Int -> Int -> Int -> Option (List Int)
 | 0, _, _, _, _, _ => none
 | k + 1, x1, x5, x17, x18, x19 => if x19 < x18 then (if 0 <= x19 then (if x19 < (x17.length : Int) then (spec_Mul.l1 k x1 x5 x19 (rd x17 x19) 0 x17 x18 x19 x1 (x1.length : Int) 0) else (none)) else (none)) else ((spec_cut.f k x5).bind fun t228 => (some t228))
def spec_Mul.l1 : Nat -> List Int -> List Int -> Int -> Int -> Int -> List Int -> Int -> Int -> List Int -> Int -> Int -> Option (List Int)
 | 0, _, _, _, _, _, _, _, _, _, _, _ => none
 | k + 1, x1, x5, x6, x7, x8, x17, x18, x19, x24, x25, x26 => if x26 < x25 then (if 0 <= x26 then (if x26 < (x24.length : Int) then (if 0 <= (wrap64 (x6 + x26)) then (if (wrap64 (x6 + x26)) < (x5.length : Int) then (spec_Mul.l1 k x1 (x5.set ((wrap64 (x6 + x26)) : Int).toNat (Int.tmod (wrap64 (x8 + (wrap64 ((rd x5 (wrap64 (x6 + x26))) + (wrap64 (x7 * (rd x24 x26))))))) 65536)) x6 x7 (wrap64 (Int.tdiv (wrap64 (x8 + (wrap64 ((rd x5 (wrap64 (x6 + x26))) + (wrap64 (x7 * (rd x24 x26))))))) 65536)) x17 x18 x19 x24 x25 (wrap64 (x26 + 1))) else (none)) else (none)) else (none)) else (none)) else (if 0 <= (wrap64 (x6 + (x1.length : Int))) then (if (wrap64 (x6 + (x1.length : Int))) < (x5.length : Int) then (spec_Mul.l0 k x1 (x5.set ((wrap64 (x6 + (x1.length : Int))) : Int).toNat x8) x17 x18 (wrap64 (x19 + 1))) else (none)) else (none))
end
def spec_Mul.f (k : Nat) (l0 : List Int) (l1 : List Int) : Option (List Int) := if 0 <= (wrap64 ((l0.length : Int) + (l1.length : Int))) then (if (wrap64 ((l0.length : Int) + (l1.length : Int)) : Int).toNat <= 35184372088832 then (spec_Mul.l0 k l1 (List.replicate (wrap64 ((l0.length : Int) + (l1.length : Int)) : Int).toNat 0) l0 (l0.length : Int) 0) else (none)) else (none)
theorem spec_Mul.mono_l : ∀ k, (∀ y0 y1 y2 y3 y4, LeO (spec_Mul.l0 k y0 y1 y2 y3 y4) (spec_Mul.l0 (k + 1) y0 y1 y2 y3 y4)) /\ (∀ y0 y1 y2 y3 y4 y5 y6 y7 y8 y9 y10, LeO (spec_Mul.l1 k y0 y1 y2 y3 y4 y5 y6 y7 y8 y9 y10) (spec_Mul.l1 (k + 1) y0 y1 y2 y3 y4 y5 y6 y7 y8 y9 y10))
 | 0 => ⟨fun _ _ _ _ _ r h => by simp [spec_Mul.l0] at h, fun _ _ _ _ _ _ _ _ _ _ _ r h => by simp [spec_Mul.l1] at h⟩
 | k + 1 => by
  obtain ⟨ih0, ih1⟩ := spec_Mul.mono_l k
  refine ⟨?_, ?_⟩
  .
   intro y0 y1 y2 y3 y4
   unfold spec_Mul.l0
   repeat' first
   | (with_reducible exact ih0 _ _ _ _ _)
   | (with_reducible exact ih1 _ _ _ _ _ _ _ _ _ _ _)
   | (with_reducible exact spec_cut.mono _ _)
   | (with_reducible exact LeO.refl _)
   | (with_reducible exact LeO.none _)
   | (with_reducible refine LeO.ite ?_ ?_)
   | (with_reducible refine LeO.bind ?_ (fun _ => ?_))
   | exact ih0 _ _ _ _ _
   | exact ih1 _ _ _ _ _ _ _ _ _ _ _
   | exact spec_cut.mono _ _
   | exact LeO.none _
   | refine LeO.ite ?_ ?_
   | refine LeO.bind ?_ (fun _ => ?_)
  .
   intro y0 y1 y2 y3 y4 y5 y6 y7 y8 y9 y10
   unfold spec_Mul.l1
   repeat' first
   | (with_reducible exact ih0 _ _ _ _ _)
   | (with_reducible exact ih1 _ _ _ _ _ _ _ _ _ _ _)
   | (with_reducible exact spec_cut.mono _ _)
   | (with_reducible exact LeO.refl _)
   | (with_reducible exact LeO.none _)
   | (with_reducible refine LeO.ite ?_ ?_)
   | (with_reducible refine LeO.bind ?_ (fun _ => ?_))
   | exact ih0 _ _ _ _ _
   | exact ih1 _ _ _ _ _ _ _ _ _ _ _
   | exact spec_cut.mono _ _
   | exact LeO.none _
   | refine LeO.ite ?_ ?_
   | refine LeO.bind ?_ (fun _ => ?_)
theorem spec_Mul.mono : ∀ a0 a1 k, LeO (spec_Mul.f k a0 a1) (spec_Mul.f (k + 1) a0 a1) := by
 intro a0 a1 k
 obtain ⟨ih0, ih1⟩ := spec_Mul.mono_l k
 unfold spec_Mul.f
 repeat' first
   | (with_reducible exact ih0 _ _ _ _ _)
   | (with_reducible exact ih1 _ _ _ _ _ _ _ _ _ _ _)
   | (with_reducible exact spec_cut.mono _ _)
   | (with_reducible exact LeO.refl _)
   | (with_reducible exact LeO.none _)
   | (with_reducible refine LeO.ite ?_ ?_)
   | (with_reducible refine LeO.bind ?_ (fun _ => ?_))
   | exact ih0 _ _ _ _ _
   | exact ih1 _ _ _ _ _ _ _ _ _ _ _
   | exact spec_cut.mono _ _
   | exact LeO.none _
   | refine LeO.ite ?_ ?_
   | refine LeO.bind ?_ (fun _ => ?_)
theorem spec_Mul.calls (k : Nat) (A0 : Option Addr) (c0 : Nat) (l0 : List Int) (A1 : Option Addr) (c1 : Nat) (l1 : List Int) (r : List Int) (w : World) (hr0 : Kd.C (Kd.int .i64) w A0 l0.length l0) (hc0 : l0.length <= c0) (hr1 : Kd.C (Kd.int .i64) w A1 l1.length l1) (hc1 : l1.length <= c1) (h : spec_Mul.f k l0 l1 = some r) :
  Calls Tryz.prog 36 #[.slice A0 l0.length c0, .slice A1 l1.length c1] w fun e w' => ∃ v0_ : Value, e = .returned (v0_) /\ Kd.V (Kd.int .i64) 3 w' w.heap.size (fun k_ => (w.heap.size <= k_)) v0_ r /\ Below w.heap.size w w' := by
 have HR0 := Zd.mk hr0
 have HC0 := Zd.mk hc0
 clear hr0 hc0
 have HR1 := Zd.mk hr1
 have HC1 := Zd.mk hc1
 clear hr1 hc1
 have HB := Zd.mk (Below.refl w.heap.size w)
 have H : (if 0 <= (wrap64 ((l0.length : Int) + (l1.length : Int))) then (if (wrap64 ((l0.length : Int) + (l1.length : Int)) : Int).toNat <= 35184372088832 then (spec_Mul.l0 k l1 (List.replicate (wrap64 ((l0.length : Int) + (l1.length : Int)) : Int).toNat 0) l0 (l0.length : Int) 0) else (none)) else (none)) = some r := h
 clear h
 obtain ⟨ji3, hji3⟩ : ∃ j_ : Int, (wrap64 ((l0.length : Int) + (l1.length : Int))) = j_ := ⟨_, rfl⟩
 replace H : (if 0 <= (ji3) then (if (ji3 : Int).toNat <= 35184372088832 then (spec_Mul.l0 k l1 (List.replicate (ji3 : Int).toNat 0) l0 (l0.length : Int) 0) else (none)) else (none)) = some r := by first | (rw [hji3] at H; exact H) | (simp only [hji3] at H ⊢; exact H)
 have hji3w : (IntKind.i64.wrap ((l0.length : Int) + (l1.length : Int))) = ji3 := (i64_w _).trans hji3
 by_cases c4 : 0 <= (ji3)
 .
  rw [if_pos c4] at H
  have c4b0 := eq_true c4
  have c4b1 : decide (0 <= (ji3)) = true := decide_eq_true c4
  clear c4
  by_cases c5 : (ji3 : Int).toNat <= 35184372088832
  .
   rw [if_pos c5] at H
   have c5b0 := eq_true c5
   have c5b1 : decide ((ji3 : Int).toNat <= 35184372088832) = true := decide_eq_true c5
   clear c5
   obtain ⟨y225, hy225⟩ : ∃ y_ : List Int, y_ = (List.replicate (ji3 : Int).toNat 0) := ⟨_, rfl⟩
   replace H : (spec_Mul.l0 k l1 y225 l0 (l0.length : Int) 0) = some r := by first | (rw [hy225]; with_reducible exact H) | (have H2_ := (Option.bind_some _ _).symm.trans H; rw [hy225]; with_reducible exact H2_) | (have H2_ := (Option.bind_some _ _).symm.trans H; with_reducible exact H2_) | with_reducible exact H | (rw [hy225]; exact H) | exact H
   have Ny225 := Zd.mk hy225
   clear hy225
   have H' := Zd.mk H
   clear H
   go_enter Tryz.func36, Tryz.ntmps36
   go_wp2_with (first | ((with_reducible refine gate_dst (N := 16) rfl ?_); refine Kd.R_make (Kd.int .i64) _ 3 rfl (N := 16) rfl 30 _ _ rfl ji3 rfl rfl Tryz.underlying30 (.int .i64 0) 8 info3 rfl (by decide) (by omega) 0 (ok := fun _ => True) (okp := fun _ => True) rfl (fun _ hk => hk) trivial (of_decide_eq_true (by first | (with_reducible assumption) | assumption)) (Nat.le_trans (Nat.mul_le_mul_right _ (of_decide_eq_true (by first | (with_reducible assumption) | assumption) : ji3.toNat <= 35184372088832)) (by omega)) (Below.refl _ _) (Nat.le_refl _) ?_; intro v226 w6 ho7 hb hg_ hnew_; clear hg_ hnew_; (first | rw [<- Ny225.out] at ho7 | (simp only [Int.reduceToNat] at ho7; rw [<- Ny225.out] at ho7)); have n0_ := Zd.mk (Kd.R_lower (Kd.R_newM (M := fun k_ => (w.heap.size <= k_)) ho7 (Ze (by repeat (first | (with_reducible first | exact HB.out | apply Zb | apply Za | apply Zc) | exact HB.out))) (fun k_ h_ => h_)) (Ze (by repeat (first | (with_reducible first | exact HB.out | apply Zb | apply Za | apply Zc) | exact HB.out)))); have n1_ := Zd.mk (Zi (by repeat (first | (with_reducible first | exact HB.out | apply Zb | apply Za | apply Zc) | exact HB.out)) hb); clear HB; have HO227 := n0_; have HB := n1_; clear n0_ n1_; clear hb ho7))
   go_loopg [19] k (fun kq v19 w' => ∃ (x5_1 : List Int) (x19_1 : Int), v19 = .int .i64 x19_1 /\ Zd (spec_Mul.l0 kq l1 x5_1 l0 (l0.length : Int) x19_1 = some r) /\ Zd (kq <= k) /\ Zd (Kd.R (Kd.int .i64) 3 w' w.heap.size (fun k_ => (w.heap.size <= k_)) v226 x5_1) /\ Zd (Below w.heap.size w w'))
   case atStart => exact ⟨(y225), (0), (by first | rfl | (simp; done) | (simp [*]; done)), H', ⟨Nat.le_refl _⟩, ⟨by (with_reducible repeat (first | apply Kd.R_alloc | apply Kd.R_drewN | apply Kd.R_drew)); exact Kd.R_mono HO227.out (fun _ hk => hk.1)⟩, ⟨by repeat (first | (with_reducible first | exact HB.out | apply Zb | apply Za | apply Zc) | exact HB.out)⟩⟩
   case round =>
    clear H'
    try clear c1
    try clear p2
    try clear c3
    try clear c4
    try clear c4b0
    try clear c4b1
    try clear c5
    try clear c5b0
    try clear c5b1
    try clear p6
    obtain ⟨x5_1, x19_1, rfl, HA, HK1, HO_5, HB⟩ := hrel
    cases gk with
    | zero => exact absurd HA.out (by simp [spec_Mul.l0])
    | succ k1 =>
     have H := HA.out
     clear HA
     simp only [spec_Mul.l0] at H
     by_cases c8 : x19_1 < (l0.length : Int)
     .
      rw [if_pos c8] at H
      have c8b0 : decide (x19_1 < (l0.length : Int)) = true := decide_eq_true c8
      clear c8
      by_cases c9 : 0 <= x19_1
      .
       rw [if_pos c9] at H
       have c9b0 : decide (0 <= x19_1) = true := decide_eq_true c9
       clear c9
       by_cases c10 : x19_1 < (l0.length : Int)
       .
        rw [if_pos c10] at H
        have c10b0 : decide (x19_1 < (l0.length : Int)) = true := decide_eq_true c10
        clear c10
        have H' := Zd.mk H
        clear H
        have p231 : 0 <= (x19_1 : Int) := of_decide_eq_true (by first | (with_reducible assumption) | assumption)
        have q231 : x19_1 < (l0.length : Int) := of_decide_eq_true (by first | (with_reducible assumption) | assumption)
        obtain ⟨ad231, e231, hx231_0⟩ := Kd.at_int HR0.out x19_1 p231 q231
        cases e231
        replace hx231_0 := (HB.out.cell (World.block_lt_of_cell? w _ hx231_0)).trans hx231_0
        replace p231 := eq_true p231
        replace q231 := eq_true q231
        go_wp2
        go_loopg [8, 26] k1 (fun kq v8 v26 w' => ∃ (x5_2 : List Int) (x8_2 : Int) (x26_2 : Int), v8 = .int .i64 x8_2 /\ v26 = .int .i64 x26_2 /\ Zd (spec_Mul.l1 kq l1 x5_2 x19_1 (rd l0 x19_1) x8_2 l0 (l0.length : Int) x19_1 l1 (l1.length : Int) x26_2 = some r) /\ Zd (kq <= k1) /\ Zd (Kd.R (Kd.int .i64) 3 w' w.heap.size (fun k_ => (w.heap.size <= k_)) v226 x5_2) /\ Zd (Below w.heap.size w w'))
        case atStart => exact ⟨(x5_1), (0), (0), (by first | rfl | (simp; done) | (simp [*]; done)), (by first | rfl | (simp; done) | (simp [*]; done)), H', ⟨Nat.le_refl _⟩, ⟨by (with_reducible repeat (first | apply Kd.R_alloc | apply Kd.R_drewN | apply Kd.R_drew)); exact HO_5.out⟩, ⟨by repeat (first | (with_reducible first | exact HB.out | apply Zb | apply Za | apply Zc) | exact HB.out)⟩⟩
        case round =>
         clear H'
         try clear c1
         try clear p2
         try clear q2
         try clear hx2
         try clear c3
         try clear c4
         try clear c4b0
         try clear c4b1
         try clear c5
         try clear c5b0
         try clear c5b1
         try clear p6
         try clear c8
         try clear c8b0
         try clear c9
         try clear c9b0
         try clear c10
         try clear c10b0
         try clear hx231_0
         try clear p2
         try clear p231
         try clear p6
         try clear q231
         obtain ⟨x5_2, x8_2, x26_2, rfl, rfl, HA, HK2, HO_5, HB⟩ := hrel
         cases gk with
         | zero => exact absurd HA.out (by simp [spec_Mul.l1])
         | succ k2 =>
          have H := HA.out
          clear HA
          simp only [spec_Mul.l1] at H
          by_cases c11 : x26_2 < (l1.length : Int)
          .
           rw [if_pos c11] at H
           have c11b0 : decide (x26_2 < (l1.length : Int)) = true := decide_eq_true c11
           clear c11
           by_cases c12 : 0 <= x26_2
           .
            rw [if_pos c12] at H
            have c12b0 : decide (0 <= x26_2) = true := decide_eq_true c12
            clear c12
            by_cases c13 : x26_2 < (l1.length : Int)
            .
             rw [if_pos c13] at H
             have c13b0 : decide (x26_2 < (l1.length : Int)) = true := decide_eq_true c13
             clear c13
             obtain ⟨ji14, hji14⟩ : ∃ j_ : Int, (wrap64 (x19_1 + x26_2)) = j_ := ⟨_, rfl⟩
             replace H : (if 0 <= (ji14) then (if (ji14) < (x5_2.length : Int) then (spec_Mul.l1 k2 l1 (x5_2.set ((ji14) : Int).toNat (Int.tmod (wrap64 (x8_2 + (wrap64 ((rd x5_2 (ji14)) + (wrap64 ((rd l0 x19_1) * (rd l1 x26_2))))))) 65536)) x19_1 (rd l0 x19_1) (wrap64 (Int.tdiv (wrap64 (x8_2 + (wrap64 ((rd x5_2 (ji14)) + (wrap64 ((rd l0 x19_1) * (rd l1 x26_2))))))) 65536)) l0 (l0.length : Int) x19_1 l1 (l1.length : Int) (wrap64 (x26_2 + 1))) else (none)) else (none)) = some r := by first | (rw [hji14] at H; exact H) | (simp only [hji14] at H ⊢; exact H)
             have hji14w : (IntKind.i64.wrap (x19_1 + x26_2)) = ji14 := (i64_w _).trans hji14
             by_cases c15 : 0 <= (ji14)
             .
              rw [if_pos c15] at H
              have c15b0 : decide (0 <= (ji14)) = true := decide_eq_true c15
              clear c15
              by_cases c16 : (ji14) < (x5_2.length : Int)
              .
               rw [if_pos c16] at H
               have c16b0 : decide ((ji14) < (x5_2.length : Int)) = true := decide_eq_true c16
               clear c16
               obtain ⟨y234, hy234⟩ : ∃ y_ : List Int, y_ = (x5_2.set ((ji14) : Int).toNat (Int.tmod (wrap64 (x8_2 + (wrap64 ((rd x5_2 (ji14)) + (wrap64 ((rd l0 x19_1) * (rd l1 x26_2))))))) 65536)) := ⟨_, rfl⟩
               replace H : (spec_Mul.l1 k2 l1 y234 x19_1 (rd l0 x19_1) (wrap64 (Int.tdiv (wrap64 (x8_2 + (wrap64 ((rd x5_2 (ji14)) + (wrap64 ((rd l0 x19_1) * (rd l1 x26_2))))))) 65536)) l0 (l0.length : Int) x19_1 l1 (l1.length : Int) (wrap64 (x26_2 + 1))) = some r := by first | (rw [hy234]; with_reducible exact H) | (have H2_ := (Option.bind_some _ _).symm.trans H; rw [hy234]; with_reducible exact H2_) | (have H2_ := (Option.bind_some _ _).symm.trans H; with_reducible exact H2_) | with_reducible exact H | (rw [hy234]; exact H) | exact H
               have Ny234 := Zd.mk hy234
               clear hy234
               have H' := Zd.mk H
               clear H
               have p232 : 0 <= (x26_2 : Int) := of_decide_eq_true (by first | (with_reducible assumption) | assumption)
               have q232 : x26_2 < (l1.length : Int) := of_decide_eq_true (by first | (with_reducible assumption) | assumption)
               obtain ⟨ad232, e232, hx232_0⟩ := Kd.at_int HR1.out x26_2 p232 q232
               cases e232
               replace hx232_0 := (HB.out.cell (World.block_lt_of_cell? w _ hx232_0)).trans hx232_0
               replace p232 := eq_true p232
               replace q232 := eq_true q232
               obtain ⟨Ao18, co18, eo18⟩ := Kd.R_slice HO_5.out
               subst eo18
               have p233 : 0 <= ((ji14) : Int) := of_decide_eq_true (by first | (with_reducible assumption) | assumption)
               have q233 : (ji14) < (x5_2.length : Int) := of_decide_eq_true (by first | (with_reducible assumption) | assumption)
               obtain ⟨ad233, e233, hx233_0⟩ := Kd.at_int (Kd.R_reads' HO_5.out).2.2 (ji14) p233 q233
               cases e233
               replace p233 := eq_true p233
               replace q233 := eq_true q233
               have p17 : 0 <= ((ji14) : Int) := of_decide_eq_true (by first | (with_reducible assumption) | assumption)
               have q17 : ((ji14) : Int) < ((x5_2.length : Int) : Int) := of_decide_eq_true (by first | (with_reducible assumption) | assumption)
               obtain ⟨go17, co17, eo17, gb17, gl17, cl17, HG17⟩ := Kd.R_form HO_5.out (by omega)
               (first | cases eo17 | (injection eo17 with ea_ en_ ec_; (first | subst ea_ | (injection ea_ with ea_; subst ea_)); subst ec_; clear en_))
               have GB17 := Zd.mk gb17
               have GG17 := Zd.mk HG17
               clear gb17 gl17 HG17
               (first | simp only [add_plain] at hx233_0 | skip)
               obtain ⟨hx17_0, hf17_0⟩ := Kd.R_celln 0 HO_5.out ((ji14) : Int) p17 q17
               replace p17 := eq_true p17
               replace q17 := eq_true q17
               have HP19 := Kd.R_putg HO_5.out ((ji14) : Int) (Int.tmod (wrap64 (x8_2 + (wrap64 ((rd x5_2 (ji14)) + (wrap64 ((rd l0 x19_1) * (rd l1 x26_2))))))) 65536)
               go_wp2_with (first | ((with_reducible refine gate_store (t := 3) (p := 49) rfl ?_); refine store_event (t := 3) (p := 49) (v := ?vo_w20) (w1 := (wr.setCell ⟨go17, ((ji14) : Int).toNat, none⟩ (.int .i64 (Int.tmod (wrap64 (x8_2 + (wrap64 ((rd x5_2 (ji14)) + (wrap64 ((rd l0 x19_1) * (rd l1 x26_2))))))) 65536)))) ?hg ?ho ?hn ?hr ?_; (case ho => rfl); (case hg => rfl); (case hn => rfl); (case hr => first | (go_simp; done) | (go_simp; rfl)); intro w20 hw; have hg : wr.grownBy w20 (some go17) := (by rw [hw]; exact HP19.2); have hp_ : Kd.R (Kd.int .i64) 3 w20 w.heap.size (fun k_ => (w.heap.size <= k_)) (.slice (some ⟨go17, 0, none⟩) x5_2.length co18) y234 := (by rw [hw, Ny234.out]; exact HP19.1); clear HP19; have n0_ := Zd.mk (hp_); have n1_ := Zd.mk ((by rw [hw]; exact Zk (HB.out) GB17.out : Below w.heap.size w w20)); clear HO_5; clear HB; have HO_5 := n0_; have HB := n1_; clear n0_ n1_; clear hg hw hp_))
               go_roundg k2
               case measure => have := HK1.out; have := HK2.out; omega
               case rel => exact ⟨(y234), (wrap64 (Int.tdiv (wrap64 (x8_2 + (wrap64 ((rd x5_2 (ji14)) + (wrap64 ((rd l0 x19_1) * (rd l1 x26_2))))))) 65536)), (wrap64 (x26_2 + 1)), (by first | rfl | (simp; done) | (simp only [<- hji14] <;> (first | rfl | simp)) | (simp [*]; done)), (by first | rfl | (simp; done) | (simp [*]; done)), H', ⟨by have := HK1.out; have := HK2.out; omega⟩, ⟨by (with_reducible repeat (first | apply Kd.R_alloc | apply Kd.R_drewN | apply Kd.R_drew)); exact HO_5.out⟩, ⟨by repeat (first | (with_reducible first | exact HB.out | apply Zb | apply Za | apply Zc) | exact HB.out)⟩⟩
              .
               rw [if_neg c16] at H
               exact absurd H (by simp)
             .
              rw [if_neg c15] at H
              exact absurd H (by simp)
            .
             rw [if_neg c13] at H
             exact absurd H (by simp)
           .
            rw [if_neg c12] at H
            exact absurd H (by simp)
          .
           rw [if_neg c11] at H
           have c11b0 : decide (x26_2 < (l1.length : Int)) = false := decide_eq_false c11
           clear c11
           obtain ⟨ji21, hji21⟩ : ∃ j_ : Int, (wrap64 (x19_1 + (l1.length : Int))) = j_ := ⟨_, rfl⟩
           replace H : (if 0 <= (ji21) then (if (ji21) < (x5_2.length : Int) then (spec_Mul.l0 k2 l1 (x5_2.set ((ji21) : Int).toNat x8_2) l0 (l0.length : Int) (wrap64 (x19_1 + 1))) else (none)) else (none)) = some r := by first | (rw [hji21] at H; exact H) | (simp only [hji21] at H ⊢; exact H)
           have hji21w : (IntKind.i64.wrap (x19_1 + (l1.length : Int))) = ji21 := (i64_w _).trans hji21
           by_cases c22 : 0 <= (ji21)
           .
            rw [if_pos c22] at H
            have c22b0 : decide (0 <= (ji21)) = true := decide_eq_true c22
            clear c22
            by_cases c23 : (ji21) < (x5_2.length : Int)
            .
             rw [if_pos c23] at H
             have c23b0 : decide ((ji21) < (x5_2.length : Int)) = true := decide_eq_true c23
             clear c23
             obtain ⟨y235, hy235⟩ : ∃ y_ : List Int, y_ = (x5_2.set ((ji21) : Int).toNat x8_2) := ⟨_, rfl⟩
             replace H : (spec_Mul.l0 k2 l1 y235 l0 (l0.length : Int) (wrap64 (x19_1 + 1))) = some r := by first | (rw [hy235]; with_reducible exact H) | (have H2_ := (Option.bind_some _ _).symm.trans H; rw [hy235]; with_reducible exact H2_) | (have H2_ := (Option.bind_some _ _).symm.trans H; with_reducible exact H2_) | with_reducible exact H | (rw [hy235]; exact H) | exact H
             have Ny235 := Zd.mk hy235
             clear hy235
             have H' := Zd.mk H
             clear H
             have p24 : 0 <= ((ji21) : Int) := of_decide_eq_true (by first | (with_reducible assumption) | assumption)
             have q24 : ((ji21) : Int) < ((x5_2.length : Int) : Int) := of_decide_eq_true (by first | (with_reducible assumption) | assumption)
             obtain ⟨go24, co24, eo24, gb24, gl24, cl24, HG24⟩ := Kd.R_form HO_5.out (by omega)
             (first | cases eo24 | (injection eo24 with ea_ en_ ec_; (first | subst ea_ | (injection ea_ with ea_; subst ea_)); subst ec_; clear en_))
             have GB24 := Zd.mk gb24
             have GG24 := Zd.mk HG24
             clear gb24 gl24 HG24
             obtain ⟨hx24_0, hf24_0⟩ := Kd.R_celln 0 HO_5.out ((ji21) : Int) p24 q24
             replace p24 := eq_true p24
             replace q24 := eq_true q24
             have HP25 := Kd.R_putg HO_5.out ((ji21) : Int) x8_2
             go_wp2_with (first | ((with_reducible refine gate_store (t := 3) (p := 59) rfl ?_); refine store_event (t := 3) (p := 59) (v := ?vo_w26) (w1 := (wr.setCell ⟨go24, ((ji21) : Int).toNat, none⟩ (.int .i64 x8_2))) ?hg ?ho ?hn ?hr ?_; (case ho => rfl); (case hg => rfl); (case hn => rfl); (case hr => first | (go_simp; done) | (go_simp; rfl)); intro w26 hw; have hg : wr.grownBy w26 (some go24) := (by rw [hw]; exact HP25.2); have hp_ : Kd.R (Kd.int .i64) 3 w26 w.heap.size (fun k_ => (w.heap.size <= k_)) (.slice (some ⟨go24, 0, none⟩) x5_2.length co24) y235 := (by rw [hw, Ny235.out]; exact HP25.1); clear HP25; have n0_ := Zd.mk (hp_); have n1_ := Zd.mk ((by rw [hw]; exact Zk (HB.out) GB24.out : Below w.heap.size w w26)); clear HO_5; clear HB; have HO_5 := n0_; have HB := n1_; clear n0_ n1_; clear hg hw hp_))
             go_roundg k2
             case measure => have := HK1.out; have := HK2.out; omega
             case rel => exact ⟨(y235), (wrap64 (x19_1 + 1)), (by first | rfl | (simp; done) | (simp [*]; done)), H', ⟨by have := HK1.out; have := HK2.out; omega⟩, ⟨by (with_reducible repeat (first | apply Kd.R_alloc | apply Kd.R_drewN | apply Kd.R_drew)); exact HO_5.out⟩, ⟨by repeat (first | (with_reducible first | exact HB.out | apply Zb | apply Za | apply Zc) | exact HB.out)⟩⟩
            .
             rw [if_neg c23] at H
             exact absurd H (by simp)
           .
            rw [if_neg c22] at H
            exact absurd H (by simp)
       .
        rw [if_neg c10] at H
        exact absurd H (by simp)
      .
       rw [if_neg c9] at H
       exact absurd H (by simp)
     .
      rw [if_neg c8] at H
      have c8b0 : decide (x19_1 < (l0.length : Int)) = false := decide_eq_false c8
      clear c8
      replace H := Option.bind_eq_some_iff.mp H
      obtain ⟨t228, A270, H⟩ := H
      replace H : (some t228) = some r := H
      have A27 := Zd.mk A270
      clear A270
      obtain rfl := Option.some.inj H
      obtain ⟨Ao28, co28, eo28⟩ := Kd.R_slice HO_5.out
      subst eo28
      go_wp2_with (first | ((with_reducible refine Zr (f := 56) rfl ?_); refine goesL_ (some 62) rfl rfl Tryz.func56 (by kernel_rfl) rfl #[.slice Ao28 x5_1.length co28] rfl (by (try simp only [List.map_toArray, List.map_cons, List.map_nil]); first | done | rfl | (simp only [List.length_drop, List.length_take]; rfl)) ?_; (with_reducible refine (spec_cut.calls k1 (fun k_ => some k_ = (.slice Ao28 x5_1.length co28 : Value).ownBlock) _ _ x5_1 t228 _ ?side1 A27.out).mono ?_); (case side1 => exact Kd.R_V (Kd.R_tight rfl (HO_5.out))); rintro e w29 ⟨v229, rfl, ho0, hb⟩; refine ⟨_, rfl, ?_⟩; have n0_ := Zd.mk (Kd.R_below (by (with_reducible repeat (first | apply Kd.R_alloc | apply Kd.R_drewN | apply Kd.R_drew)); exact HO_5.out) hb); have n1_ := Zd.mk (Kd.V_lower (Kd.V_mono (ok' := fun k_ => (w.heap.size <= k_)) ho0 (fun k_ hk_ => Or.elim hk_ (fun hs_ => ((HO_5.out).1 k_ hs_.symm)) (fun hn_ => (Nat.le_trans (Ze (by repeat (first | (with_reducible first | exact HB.out | apply Zb | apply Za | apply Zc) | exact HB.out))) hn_)))) (Ze (by repeat (first | (with_reducible first | exact HB.out | apply Zb | apply Za | apply Zc) | exact HB.out)))); have n2_ := Zd.mk (Zi (by repeat (first | (with_reducible first | exact HB.out | apply Zb | apply Za | apply Zc) | exact HB.out)) hb); clear HO_5; clear HB; have HO_5 := n0_; have HO230 := n1_; have HB := n2_; clear n0_ n1_ n2_; (try clear hb); (try clear hb2); (try clear hk); (try clear hi); (try clear ho0)))
      go_ret
      exact ⟨_, by first | rfl | (simp [errW_none, errW_some] <;> rfl) | (simp only [<- hji3]; first | rfl | (simp [errW_none, errW_some] <;> rfl)) | (simp [*, errW_none, errW_some] <;> rfl), by (with_reducible repeat (first | apply Kd.V_alloc | apply Kd.V_drewN | apply Kd.V_drew)); exact HO230.out, by repeat (first | (with_reducible first | exact HB.out | apply Zb | apply Za | apply Zc) | exact HB.out)⟩
  .
   rw [if_neg c5] at H
   exact absurd H (by simp)
 .
  rw [if_neg c4] at H
  exact absurd H (by simp)
def spec_sign.f (a0 : Bool) (l1 : List Int) : Option (Bool × List Int) := if a0 = true then (some (decide (0 < l1.length), l1)) else (some (false, l1))
theorem spec_sign.calls (a0 : Bool) (P1_ : Nat -> Prop) (u9000_ : Value) (l1 : List Int) (r1 : Bool) (r2 : List Int) (w0 w : World) (hB : Below w0.heap.size w0 w) (ho1 : Kd.R (Kd.int .i64) 3 w w0.heap.size P1_ u9000_ l1) (h : spec_sign.f a0 l1 = some (r1, r2)) :
  Calls Tryz.prog 33 #[.bool a0, u9000_] w fun e w' => ∃ v1_ : Value, e = .returned (.agg #[.bool r1, v1_]) /\ Kd.R (Kd.int .i64) 3 w' w0.heap.size (fun k_ => (P1_ k_ \/ w.heap.size <= k_)) v1_ r2 /\ Below w0.heap.size w0 w' /\ Kept w w' (fun k_ => P1_ k_) := by
 have hu32 := Tryz.underlying32
 have HO1 := Zd.mk (show Kd.R (Kd.int .i64) 3 w w0.heap.size (fun k_ => (P1_ k_ \/ w.heap.size <= k_)) u9000_ l1 from Kd.R_mono ho1 (fun k_ hk => (.inl hk)))
 have HK := Zd.mk (Kept.refl w (fun k_ => P1_ k_))
 have HW0 := Zd.mk hB.size
 have HB := Zd.mk hB
 clear hB
 have H : (if a0 = true then (some (decide (0 < l1.length), l1)) else (some (false, l1))) = some (r1, r2) := h
 clear h
 by_cases c3 : a0 = true
 .
  subst c3
  have H1 : (some (decide (0 < l1.length), l1)) = some (r1, r2) := by rw [if_pos rfl] at H; exact H
  clear H
  have H := H1
  clear H1
  simp only [Option.some.injEq, Prod.mk.injEq] at H
  obtain ⟨rfl, rfl⟩ := H
  go_enter Tryz.func33, Tryz.ntmps33
  go_wp2_with (first | ((with_reducible refine gate_dst (N := 4) rfl ?_); (try (refine gate_guard (by rfl) ?_; dsimp only)); refine box_event ?hg (N := 4) ?hd (cs := #[.bool false, .slice none 0 0]) (t := 32) ?hr ?_; (case hd => rfl); (case hg => rfl); (case hr => first | (go_simp; done) | (go_simp; rfl)); intro gb313 hg w4 hbox hb; have n0_ := Zd.mk (Kd.R_below (by (with_reducible repeat (first | apply Kd.R_alloc | apply Kd.R_drewN | apply Kd.R_drew)); exact HO1.out) hb); have n1_ := Zd.mk (Kept.below (S := (fun k_ => P1_ k_)) (by repeat (first | (with_reducible first | exact HK.out | apply Kept.alloc | apply Kept.drewN | apply Kept.drew) | exact HK.out)) hb); have n2_ := Zd.mk (Zi (by repeat (first | (with_reducible first | exact HB.out | apply Zb | apply Za | apply Zc) | exact HB.out)) hb); have n3_ := Zd.mk (hbox); have n4_ := Zd.mk ((by rw [hg]; exact (by first | exact HK.out.1 | exact (show Kept w _ (fun k_ => P1_ k_) from by repeat (first | (with_reducible first | exact HK.out | apply Kept.alloc | apply Kept.drewN | apply Kept.drew) | exact HK.out)).1) : w.heap.size <= gb313)); have n5_ := Zd.mk ((by rw [hg]; exact (Ze (by repeat (first | (with_reducible first | exact HB.out | apply Zb | apply Za | apply Zc) | exact HB.out))) : w0.heap.size <= gb313)); clear HO1; clear HK; clear HB; have HO1 := n0_; have HK := n1_; have HB := n2_; have BK313 := n3_; have GW313 := n4_; have GE313 := n5_; clear n0_ n1_ n2_ n3_ n4_ n5_; clear hb hbox hg; obtain ⟨Ao5, co5, eo5⟩ := Kd.R_slice HO1.out; subst eo5; have hcz6_0 : w4.cell? ⟨gb313, 0, none⟩ = some (.bool false) := (Zu BK313.out 0).trans rfl; have hcz6_1 : w4.cell? ⟨gb313, 1, none⟩ = some (.slice none 0 0) := (Zu BK313.out 1).trans rfl; have hfz6_0 := Zm BK313.out 0; have hfz6_1 := Zm BK313.out 1))
  refine bodyPost_ret (results_cell_row rfl _ _ gb313 32 #[.bool (decide (0 < l1.length)), .slice Ao5 l1.length co5] (0, 0) _ rfl (by (with_reducible repeat (first | refine Zo ?_ _ | refine Zt ?_ | refine Zp ?_ _)); refine blk_put (cs := #[.bool (decide (0 < l1.length)), .slice none 0 0]) ?_ 1 _ rfl; (with_reducible repeat (first | refine Zo ?_ _ | refine Zt ?_ | refine Zp ?_ _)); refine blk_put (cs := #[.bool false, .slice none 0 0]) ?_ 0 _ rfl; (with_reducible repeat (first | refine Zo ?_ _ | refine Zt ?_ | refine Zp ?_ _)); exact BK313.out) Tryz.underlying32 rfl (by kernel_rfl)) rfl ?_
  exact ⟨_, by first | rfl | (simp [errW_none, errW_some] <;> rfl) | (simp [*, errW_none, errW_some] <;> rfl), by (with_reducible repeat (first | apply Kd.R_alloc | apply Kd.R_drewN | apply Kd.R_drew)); exact Kd.R_mono (Kd.R_far (p := ⟨gb313, 1, none⟩) (Kd.R_far (p := ⟨gb313, 0, none⟩) (Kd.R_types HO1.out BK313.out (by decide)) (fun _ hk => hk.2) (.bool (decide (0 < l1.length)))) (fun _ hk => hk.2) (.slice Ao5 l1.length co5)) (fun _ hk => hk.1), by repeat (first | (with_reducible first | exact HB.out | apply Zb | apply Za | apply Zc | refine Zk ?_ GE313.out) | exact HB.out), by repeat (first | (with_reducible first | exact HK.out | apply Kept.alloc | apply Kept.drewN | apply Kept.drew | refine Kept.setCell ?_ (.inr GW313.out) _) | exact HK.out)⟩
 .
  replace c3 := Bool.eq_false_iff.mpr c3
  subst c3
  have H1 : (some (false, l1)) = some (r1, r2) := by rw [if_neg (show ¬ (false = true) by decide)] at H; exact H
  clear H
  have H := H1
  clear H1
  simp only [Option.some.injEq, Prod.mk.injEq] at H
  obtain ⟨rfl, rfl⟩ := H
  go_enter Tryz.func33, Tryz.ntmps33
  go_wp2_with (first | ((with_reducible refine gate_dst (N := 4) rfl ?_); (try (refine gate_guard (by rfl) ?_; dsimp only)); refine box_event ?hg (N := 4) ?hd (cs := #[.bool false, .slice none 0 0]) (t := 32) ?hr ?_; (case hd => rfl); (case hg => rfl); (case hr => first | (go_simp; done) | (go_simp; rfl)); intro gb313 hg w7 hbox hb; have n0_ := Zd.mk (Kd.R_below (by (with_reducible repeat (first | apply Kd.R_alloc | apply Kd.R_drewN | apply Kd.R_drew)); exact HO1.out) hb); have n1_ := Zd.mk (Kept.below (S := (fun k_ => P1_ k_)) (by repeat (first | (with_reducible first | exact HK.out | apply Kept.alloc | apply Kept.drewN | apply Kept.drew) | exact HK.out)) hb); have n2_ := Zd.mk (Zi (by repeat (first | (with_reducible first | exact HB.out | apply Zb | apply Za | apply Zc) | exact HB.out)) hb); have n3_ := Zd.mk (hbox); have n4_ := Zd.mk ((by rw [hg]; exact (by first | exact HK.out.1 | exact (show Kept w _ (fun k_ => P1_ k_) from by repeat (first | (with_reducible first | exact HK.out | apply Kept.alloc | apply Kept.drewN | apply Kept.drew) | exact HK.out)).1) : w.heap.size <= gb313)); have n5_ := Zd.mk ((by rw [hg]; exact (Ze (by repeat (first | (with_reducible first | exact HB.out | apply Zb | apply Za | apply Zc) | exact HB.out))) : w0.heap.size <= gb313)); clear HO1; clear HK; clear HB; have HO1 := n0_; have HK := n1_; have HB := n2_; have BK313 := n3_; have GW313 := n4_; have GE313 := n5_; clear n0_ n1_ n2_ n3_ n4_ n5_; clear hb hbox hg; obtain ⟨Ao8, co8, eo8⟩ := Kd.R_slice HO1.out; subst eo8; have hcz9_0 : w7.cell? ⟨gb313, 0, none⟩ = some (.bool false) := (Zu BK313.out 0).trans rfl; have hcz9_1 : w7.cell? ⟨gb313, 1, none⟩ = some (.slice none 0 0) := (Zu BK313.out 1).trans rfl; have hfz9_0 := Zm BK313.out 0; have hfz9_1 := Zm BK313.out 1))
  refine bodyPost_ret (results_cell_row rfl _ _ gb313 32 #[.bool false, .slice Ao8 l1.length co8] (0, 0) _ rfl (by (with_reducible repeat (first | refine Zo ?_ _ | refine Zt ?_ | refine Zp ?_ _)); refine blk_put (cs := #[.bool false, .slice none 0 0]) ?_ 1 _ rfl; (with_reducible repeat (first | refine Zo ?_ _ | refine Zt ?_ | refine Zp ?_ _)); refine blk_put (cs := #[.bool false, .slice none 0 0]) ?_ 0 _ rfl; (with_reducible repeat (first | refine Zo ?_ _ | refine Zt ?_ | refine Zp ?_ _)); exact BK313.out) Tryz.underlying32 rfl (by kernel_rfl)) rfl ?_
  exact ⟨_, by first | rfl | (simp [errW_none, errW_some] <;> rfl) | (simp [*, errW_none, errW_some] <;> rfl), by (with_reducible repeat (first | apply Kd.R_alloc | apply Kd.R_drewN | apply Kd.R_drew)); exact Kd.R_mono (Kd.R_far (p := ⟨gb313, 1, none⟩) (Kd.R_far (p := ⟨gb313, 0, none⟩) (Kd.R_types HO1.out BK313.out (by decide)) (fun _ hk => hk.2) (.bool false)) (fun _ hk => hk.2) (.slice Ao8 l1.length co8)) (fun _ hk => hk.1), by repeat (first | (with_reducible first | exact HB.out | apply Zb | apply Za | apply Zc | refine Zk ?_ GE313.out) | exact HB.out), by repeat (first | (with_reducible first | exact HK.out | apply Kept.alloc | apply Kept.drewN | apply Kept.drew | refine Kept.setCell ?_ (.inr GW313.out) _) | exact HK.out)⟩
def spec_In.f (k : Nat) (a0_0 : Bool) (l0_1 : List Int) : Option (Bool × List Int) := (spec_Of.f k l0_1).bind fun t192 => (if a0_0 = true then (some (decide (0 < t192.length), t192)) else (some (false, t192)))
theorem spec_In.calls (k : Nat) (a0_0 : Bool) (A0_1 : Option Addr) (c0_1 : Nat) (l0_1 : List Int) (r1 : Bool) (r2 : List Int) (w : World) (hr0_1 : Kd.C (Kd.int .u64) w A0_1 l0_1.length l0_1) (hc0_1 : l0_1.length <= c0_1) (h : spec_In.f k a0_0 l0_1 = some (r1, r2)) :
  Calls Tryz.prog 11 #[.agg #[.bool a0_0, .slice A0_1 l0_1.length c0_1]] w fun e w' => ∃ v1_ : Value, e = .returned (.agg #[.bool r1, v1_]) /\ Kd.V (Kd.int .i64) 3 w' w.heap.size (fun k_ => (w.heap.size <= k_)) v1_ r2 /\ Below w.heap.size w w' := by
 have hu24 := Tryz.underlying24
 have hu32 := Tryz.underlying32
 have HR0_1 := Zd.mk hr0_1
 have HC0_1 := Zd.mk hc0_1
 clear hr0_1 hc0_1
 have HB := Zd.mk (Below.refl w.heap.size w)
 have H : ((spec_Of.f k l0_1).bind fun t192 => (if a0_0 = true then (some (decide (0 < t192.length), t192)) else (some (false, t192)))) = some (r1, r2) := h
 clear h
 replace H := Option.bind_eq_some_iff.mp H
 obtain ⟨t192, A20, H⟩ := H
 replace H : (if a0_0 = true then (some (decide (0 < t192.length), t192)) else (some (false, t192))) = some (r1, r2) := H
 have A2 := Zd.mk A20
 clear A20
 by_cases c3 : a0_0 = true
 .
  subst c3
  have H1 : (some (decide (0 < t192.length), t192)) = some (r1, r2) := by rw [if_pos rfl] at H; exact H
  clear H
  have H := H1
  clear H1
  simp only [Option.some.injEq, Prod.mk.injEq] at H
  obtain ⟨rfl, rfl⟩ := H
  go_enter Tryz.func11, Tryz.ntmps11
  go_wp2_with (first | ((with_reducible refine gate_dst (N := 1) rfl ?_); (try (refine gate_guard (by rfl) ?_; dsimp only)); refine box_event ?hg (N := 1) ?hd (cs := #[.bool true, .slice A0_1 l0_1.length c0_1]) (t := 24) ?hr ?_; (case hd => rfl); (case hg => rfl); (case hr => first | (go_simp; done) | (go_simp; rfl)); intro gb190 hg w4 hbox hb; have n0_ := Zd.mk (Zi (by repeat (first | (with_reducible first | exact HB.out | apply Zb | apply Za | apply Zc) | exact HB.out)) hb); have n1_ := Zd.mk (hbox); have n2_ := Zd.mk ((by rw [hg]; exact (Ze (by repeat (first | (with_reducible first | exact HB.out | apply Zb | apply Za | apply Zc) | exact HB.out))) : w.heap.size <= gb190)); have n3_ := Zd.mk ((by rw [hg]; exact (Ze (by repeat (first | (with_reducible first | exact HB.out | apply Zb | apply Za | apply Zc) | exact HB.out))) : w.heap.size <= gb190)); clear HB; have HB := n0_; have BK190 := n1_; have GW190 := n2_; have GE190 := n3_; clear n0_ n1_ n2_ n3_; clear hb hbox hg) | ((with_reducible refine gate_dst (N := 2) rfl ?_); (try (refine gate_guard (by rfl) ?_; dsimp only)); refine box_event ?hg (N := 2) ?hd (cs := #[.bool false, .slice none 0 0]) (t := 32) ?hr ?_; (case hd => rfl); (case hg => rfl); (case hr => first | (go_simp; done) | (go_simp; rfl)); intro gb191 hg w5 hbox hb; have n0_ := Zd.mk (blk_below (g := gb190) (o := .cells #[.bool true, .slice A0_1 l0_1.length c0_1] 24 (0, 0)) (by (with_reducible repeat (first | refine Zo ?_ _ | refine Zt ?_ | refine Zp ?_ _)); exact BK190.out) hb); have n1_ := Zd.mk (Zi (by repeat (first | (with_reducible first | exact HB.out | apply Zb | apply Za | apply Zc | refine Zk ?_ GE190.out) | exact HB.out)) hb); have n2_ := Zd.mk (hbox); have n3_ := Zd.mk ((by rw [hg]; exact (Ze (by repeat (first | (with_reducible first | exact HB.out | apply Zb | apply Za | apply Zc | refine Zk ?_ GE190.out) | exact HB.out))) : w.heap.size <= gb191)); have n4_ := Zd.mk ((by rw [hg]; exact (Ze (by repeat (first | (with_reducible first | exact HB.out | apply Zb | apply Za | apply Zc | refine Zk ?_ GE190.out) | exact HB.out))) : w.heap.size <= gb191)); have n5_ := Zd.mk ((by rw [hg]; exact Nat.ne_of_lt (blk_lt (g := gb190) (o := .cells #[.bool true, .slice A0_1 l0_1.length c0_1] 24 (0, 0)) (by (with_reducible repeat (first | refine Zo ?_ _ | refine Zt ?_ | refine Zp ?_ _)); exact BK190.out)) : gb190 ≠ gb191)); have n6_ := Zd.mk ((by rw [hg]; exact Nat.ne_of_gt (blk_lt (g := gb190) (o := .cells #[.bool true, .slice A0_1 l0_1.length c0_1] 24 (0, 0)) (by (with_reducible repeat (first | refine Zo ?_ _ | refine Zt ?_ | refine Zp ?_ _)); exact BK190.out)) : gb191 ≠ gb190)); clear BK190; clear HB; have BK190 := n0_; have HB := n1_; have BK191 := n2_; have GW191 := n3_; have GE191 := n4_; have NB190_191 := n5_; have NB191_190 := n6_; clear n0_ n1_ n2_ n3_ n4_ n5_ n6_; clear hb hbox hg; have hnb6 := NB190_191.out; have hnc6 := NB191_190.out; have hcz7_0 : w5.cell? ⟨gb190, 0, none⟩ = some (.bool true) := (Zu BK190.out 0).trans rfl; have hcz7_1 : w5.cell? ⟨gb190, 1, none⟩ = some (.slice A0_1 l0_1.length c0_1) := (Zu BK190.out 1).trans rfl; have hfz7_0 := Zm BK190.out 0; have hfz7_1 := Zm BK190.out 1) | ((with_reducible refine Zr (f := 32) rfl ?_); refine goesL_ (some 6) rfl rfl Tryz.func32 (by kernel_rfl) rfl #[.slice A0_1 l0_1.length c0_1] rfl (by (try simp only [List.map_toArray, List.map_cons, List.map_nil]); first | done | rfl | (simp only [List.length_drop, List.length_take]; rfl)) ?_; (with_reducible refine (spec_Of.calls k _ _ l0_1 t192 _ ?side1 ?side2 A2.out).mono ?_); (case side1 => repeat (first | exact (Kd.C_below HR0_1.out HB.out) | (with_reducible refine Kd.C_alloc ?_ _) | (with_reducible refine Kd.C_drewN ?_ _) | (with_reducible refine Kd.C_drew ?_))); (case side2 => exact HC0_1.out); rintro e w8 ⟨v193, rfl, ho0, hb⟩; refine ⟨_, rfl, ?_⟩; have n0_ := Zd.mk (Kd.V_lower (Kd.V_mono (ok' := fun k_ => (w.heap.size <= k_) /\ k_ ≠ gb190 /\ k_ ≠ gb191) ho0 (fun k_ hk_ => ⟨(Nat.le_trans (Ze (by repeat (first | (with_reducible first | exact HB.out | apply Zb | apply Za | apply Zc | refine Zk ?_ GE190.out | refine Zk ?_ GE191.out) | exact HB.out))) hk_), (Kd.freshB (g := gb190) (o := .cells #[.bool true, .slice A0_1 l0_1.length c0_1] 24 (0, 0)) (by (with_reducible repeat (first | refine Zo ?_ _ | refine Zt ?_ | refine Zp ?_ _)); exact BK190.out) k_ hk_), (Kd.freshB (g := gb191) (o := .cells #[.bool false, .slice none 0 0] 32 (0, 0)) (by (with_reducible repeat (first | refine Zo ?_ _ | refine Zt ?_ | refine Zp ?_ _)); exact BK191.out) k_ hk_)⟩)) (Ze (by repeat (first | (with_reducible first | exact HB.out | apply Zb | apply Za | apply Zc | refine Zk ?_ GE190.out | refine Zk ?_ GE191.out) | exact HB.out)))); have n1_ := Zd.mk (blk_below (g := gb190) (o := .cells #[.bool true, .slice A0_1 l0_1.length c0_1] 24 (0, 0)) (by (with_reducible repeat (first | refine Zo ?_ _ | refine Zt ?_ | refine Zp ?_ _)); exact BK190.out) hb); have n2_ := Zd.mk (blk_below (g := gb191) (o := .cells #[.bool false, .slice none 0 0] 32 (0, 0)) (by (with_reducible repeat (first | refine Zo ?_ _ | refine Zt ?_ | refine Zp ?_ _)); exact BK191.out) hb); have n3_ := Zd.mk (Zi (by repeat (first | (with_reducible first | exact HB.out | apply Zb | apply Za | apply Zc | refine Zk ?_ GE190.out | refine Zk ?_ GE191.out) | exact HB.out)) hb); clear BK190; clear BK191; clear HB; have HO194 := n0_; have BK190 := n1_; have BK191 := n2_; have HB := n3_; clear n0_ n1_ n2_ n3_; (try clear hb); (try clear hb2); (try clear hk); (try clear hi); (try clear ho0); have hcz9_0 : w8.cell? ⟨gb190, 0, none⟩ = some (.bool true) := (Zu BK190.out 0).trans rfl; have hcz9_1 : w8.cell? ⟨gb190, 1, none⟩ = some (.slice A0_1 l0_1.length c0_1) := (Zu BK190.out 1).trans rfl; have hfz9_0 := Zm BK190.out 0; have hfz9_1 := Zm BK190.out 1; obtain ⟨Ao10, co10, eo10⟩ := Kd.V_slice HO194.out; subst eo10; have hcz11_0 : w8.cell? ⟨gb191, 0, none⟩ = some (.bool false) := (Zu BK191.out 0).trans rfl; have hcz11_1 : w8.cell? ⟨gb191, 1, none⟩ = some (.slice none 0 0) := (Zu BK191.out 1).trans rfl; have hfz11_0 := Zm BK191.out 0; have hfz11_1 := Zm BK191.out 1))
  refine bodyPost_ret (results_cell_row rfl _ _ gb191 32 #[.bool (decide (0 < t192.length)), .slice Ao10 t192.length co10] (0, 0) _ rfl (by (with_reducible repeat (first | refine Zo ?_ _ | refine Zt ?_ | refine Zp ?_ _)); refine blk_put (cs := #[.bool (decide (0 < t192.length)), .slice none 0 0]) ?_ 1 _ rfl; (with_reducible repeat (first | refine Zo ?_ _ | refine Zt ?_ | refine Zp ?_ _)); refine blk_put (cs := #[.bool false, .slice none 0 0]) ?_ 0 _ rfl; (with_reducible repeat (first | refine Zo ?_ _ | refine Zt ?_ | refine Zp ?_ _)); exact BK191.out) Tryz.underlying32 rfl (by kernel_rfl)) rfl ?_
  exact ⟨_, by first | rfl | (simp [errW_none, errW_some] <;> rfl) | (simp [*, errW_none, errW_some] <;> rfl), by (with_reducible repeat (first | apply Kd.V_alloc | apply Kd.V_drewN | apply Kd.V_drew)); exact Kd.V_mono (Kd.V_far (p := ⟨gb191, 1, none⟩) (Kd.V_far (p := ⟨gb191, 0, none⟩) (Kd.V_mono HO194.out (fun k_ hk => (⟨hk, hk.2.2⟩ : _ /\ k_ ≠ gb191))) (fun _ hk => hk.2) (.bool (decide (0 < t192.length)))) (fun _ hk => hk.2) (.slice Ao10 t192.length co10)) (fun _ hk => hk.1.1), by repeat (first | (with_reducible first | exact HB.out | apply Zb | apply Za | apply Zc | refine Zk ?_ GE190.out | refine Zk ?_ GE191.out) | exact HB.out)⟩
 .
  replace c3 := Bool.eq_false_iff.mpr c3
  subst c3
  have H1 : (some (false, t192)) = some (r1, r2) := by rw [if_neg (show ¬ (false = true) by decide)] at H; exact H
  clear H
  have H := H1
  clear H1
  simp only [Option.some.injEq, Prod.mk.injEq] at H
  obtain ⟨rfl, rfl⟩ := H
  go_enter Tryz.func11, Tryz.ntmps11
  go_wp2_with (first | ((with_reducible refine gate_dst (N := 1) rfl ?_); (try (refine gate_guard (by rfl) ?_; dsimp only)); refine box_event ?hg (N := 1) ?hd (cs := #[.bool false, .slice A0_1 l0_1.length c0_1]) (t := 24) ?hr ?_; (case hd => rfl); (case hg => rfl); (case hr => first | (go_simp; done) | (go_simp; rfl)); intro gb190 hg w12 hbox hb; have n0_ := Zd.mk (Zi (by repeat (first | (with_reducible first | exact HB.out | apply Zb | apply Za | apply Zc) | exact HB.out)) hb); have n1_ := Zd.mk (hbox); have n2_ := Zd.mk ((by rw [hg]; exact (Ze (by repeat (first | (with_reducible first | exact HB.out | apply Zb | apply Za | apply Zc) | exact HB.out))) : w.heap.size <= gb190)); have n3_ := Zd.mk ((by rw [hg]; exact (Ze (by repeat (first | (with_reducible first | exact HB.out | apply Zb | apply Za | apply Zc) | exact HB.out))) : w.heap.size <= gb190)); clear HB; have HB := n0_; have BK190 := n1_; have GW190 := n2_; have GE190 := n3_; clear n0_ n1_ n2_ n3_; clear hb hbox hg) | ((with_reducible refine gate_dst (N := 2) rfl ?_); (try (refine gate_guard (by rfl) ?_; dsimp only)); refine box_event ?hg (N := 2) ?hd (cs := #[.bool false, .slice none 0 0]) (t := 32) ?hr ?_; (case hd => rfl); (case hg => rfl); (case hr => first | (go_simp; done) | (go_simp; rfl)); intro gb191 hg w13 hbox hb; have n0_ := Zd.mk (blk_below (g := gb190) (o := .cells #[.bool false, .slice A0_1 l0_1.length c0_1] 24 (0, 0)) (by (with_reducible repeat (first | refine Zo ?_ _ | refine Zt ?_ | refine Zp ?_ _)); exact BK190.out) hb); have n1_ := Zd.mk (Zi (by repeat (first | (with_reducible first | exact HB.out | apply Zb | apply Za | apply Zc | refine Zk ?_ GE190.out) | exact HB.out)) hb); have n2_ := Zd.mk (hbox); have n3_ := Zd.mk ((by rw [hg]; exact (Ze (by repeat (first | (with_reducible first | exact HB.out | apply Zb | apply Za | apply Zc | refine Zk ?_ GE190.out) | exact HB.out))) : w.heap.size <= gb191)); have n4_ := Zd.mk ((by rw [hg]; exact (Ze (by repeat (first | (with_reducible first | exact HB.out | apply Zb | apply Za | apply Zc | refine Zk ?_ GE190.out) | exact HB.out))) : w.heap.size <= gb191)); have n5_ := Zd.mk ((by rw [hg]; exact Nat.ne_of_lt (blk_lt (g := gb190) (o := .cells #[.bool false, .slice A0_1 l0_1.length c0_1] 24 (0, 0)) (by (with_reducible repeat (first | refine Zo ?_ _ | refine Zt ?_ | refine Zp ?_ _)); exact BK190.out)) : gb190 ≠ gb191)); have n6_ := Zd.mk ((by rw [hg]; exact Nat.ne_of_gt (blk_lt (g := gb190) (o := .cells #[.bool false, .slice A0_1 l0_1.length c0_1] 24 (0, 0)) (by (with_reducible repeat (first | refine Zo ?_ _ | refine Zt ?_ | refine Zp ?_ _)); exact BK190.out)) : gb191 ≠ gb190)); clear BK190; clear HB; have BK190 := n0_; have HB := n1_; have BK191 := n2_; have GW191 := n3_; have GE191 := n4_; have NB190_191 := n5_; have NB191_190 := n6_; clear n0_ n1_ n2_ n3_ n4_ n5_ n6_; clear hb hbox hg; have hnb14 := NB190_191.out; have hnc14 := NB191_190.out; have hcz15_0 : w13.cell? ⟨gb190, 0, none⟩ = some (.bool false) := (Zu BK190.out 0).trans rfl; have hcz15_1 : w13.cell? ⟨gb190, 1, none⟩ = some (.slice A0_1 l0_1.length c0_1) := (Zu BK190.out 1).trans rfl; have hfz15_0 := Zm BK190.out 0; have hfz15_1 := Zm BK190.out 1) | ((with_reducible refine Zr (f := 32) rfl ?_); refine goesL_ (some 6) rfl rfl Tryz.func32 (by kernel_rfl) rfl #[.slice A0_1 l0_1.length c0_1] rfl (by (try simp only [List.map_toArray, List.map_cons, List.map_nil]); first | done | rfl | (simp only [List.length_drop, List.length_take]; rfl)) ?_; (with_reducible refine (spec_Of.calls k _ _ l0_1 t192 _ ?side1 ?side2 A2.out).mono ?_); (case side1 => repeat (first | exact (Kd.C_below HR0_1.out HB.out) | (with_reducible refine Kd.C_alloc ?_ _) | (with_reducible refine Kd.C_drewN ?_ _) | (with_reducible refine Kd.C_drew ?_))); (case side2 => exact HC0_1.out); rintro e w16 ⟨v193, rfl, ho0, hb⟩; refine ⟨_, rfl, ?_⟩; have n0_ := Zd.mk (Kd.V_lower (Kd.V_mono (ok' := fun k_ => (w.heap.size <= k_) /\ k_ ≠ gb190 /\ k_ ≠ gb191) ho0 (fun k_ hk_ => ⟨(Nat.le_trans (Ze (by repeat (first | (with_reducible first | exact HB.out | apply Zb | apply Za | apply Zc | refine Zk ?_ GE190.out | refine Zk ?_ GE191.out) | exact HB.out))) hk_), (Kd.freshB (g := gb190) (o := .cells #[.bool false, .slice A0_1 l0_1.length c0_1] 24 (0, 0)) (by (with_reducible repeat (first | refine Zo ?_ _ | refine Zt ?_ | refine Zp ?_ _)); exact BK190.out) k_ hk_), (Kd.freshB (g := gb191) (o := .cells #[.bool false, .slice none 0 0] 32 (0, 0)) (by (with_reducible repeat (first | refine Zo ?_ _ | refine Zt ?_ | refine Zp ?_ _)); exact BK191.out) k_ hk_)⟩)) (Ze (by repeat (first | (with_reducible first | exact HB.out | apply Zb | apply Za | apply Zc | refine Zk ?_ GE190.out | refine Zk ?_ GE191.out) | exact HB.out)))); have n1_ := Zd.mk (blk_below (g := gb190) (o := .cells #[.bool false, .slice A0_1 l0_1.length c0_1] 24 (0, 0)) (by (with_reducible repeat (first | refine Zo ?_ _ | refine Zt ?_ | refine Zp ?_ _)); exact BK190.out) hb); have n2_ := Zd.mk (blk_below (g := gb191) (o := .cells #[.bool false, .slice none 0 0] 32 (0, 0)) (by (with_reducible repeat (first | refine Zo ?_ _ | refine Zt ?_ | refine Zp ?_ _)); exact BK191.out) hb); have n3_ := Zd.mk (Zi (by repeat (first | (with_reducible first | exact HB.out | apply Zb | apply Za | apply Zc | refine Zk ?_ GE190.out | refine Zk ?_ GE191.out) | exact HB.out)) hb); clear BK190; clear BK191; clear HB; have HO194 := n0_; have BK190 := n1_; have BK191 := n2_; have HB := n3_; clear n0_ n1_ n2_ n3_; (try clear hb); (try clear hb2); (try clear hk); (try clear hi); (try clear ho0); have hcz17_0 : w16.cell? ⟨gb190, 0, none⟩ = some (.bool false) := (Zu BK190.out 0).trans rfl; have hcz17_1 : w16.cell? ⟨gb190, 1, none⟩ = some (.slice A0_1 l0_1.length c0_1) := (Zu BK190.out 1).trans rfl; have hfz17_0 := Zm BK190.out 0; have hfz17_1 := Zm BK190.out 1; obtain ⟨Ao18, co18, eo18⟩ := Kd.V_slice HO194.out; subst eo18; have hcz19_0 : w16.cell? ⟨gb191, 0, none⟩ = some (.bool false) := (Zu BK191.out 0).trans rfl; have hcz19_1 : w16.cell? ⟨gb191, 1, none⟩ = some (.slice none 0 0) := (Zu BK191.out 1).trans rfl; have hfz19_0 := Zm BK191.out 0; have hfz19_1 := Zm BK191.out 1))
  refine bodyPost_ret (results_cell_row rfl _ _ gb191 32 #[.bool false, .slice Ao18 t192.length co18] (0, 0) _ rfl (by (with_reducible repeat (first | refine Zo ?_ _ | refine Zt ?_ | refine Zp ?_ _)); refine blk_put (cs := #[.bool false, .slice none 0 0]) ?_ 1 _ rfl; (with_reducible repeat (first | refine Zo ?_ _ | refine Zt ?_ | refine Zp ?_ _)); refine blk_put (cs := #[.bool false, .slice none 0 0]) ?_ 0 _ rfl; (with_reducible repeat (first | refine Zo ?_ _ | refine Zt ?_ | refine Zp ?_ _)); exact BK191.out) Tryz.underlying32 rfl (by kernel_rfl)) rfl ?_
  exact ⟨_, by first | rfl | (simp [errW_none, errW_some] <;> rfl) | (simp [*, errW_none, errW_some] <;> rfl), by (with_reducible repeat (first | apply Kd.V_alloc | apply Kd.V_drewN | apply Kd.V_drew)); exact Kd.V_mono (Kd.V_far (p := ⟨gb191, 1, none⟩) (Kd.V_far (p := ⟨gb191, 0, none⟩) (Kd.V_mono HO194.out (fun k_ hk => (⟨hk, hk.2.2⟩ : _ /\ k_ ≠ gb191))) (fun _ hk => hk.2) (.bool false)) (fun _ hk => hk.2) (.slice Ao18 t192.length co18)) (fun _ hk => hk.1.1), by repeat (first | (with_reducible first | exact HB.out | apply Zb | apply Za | apply Zc | refine Zk ?_ GE190.out | refine Zk ?_ GE191.out) | exact HB.out)⟩
def spec_One.f (l0 : List Int) : Option (Bool) := if (l0.length : Int) = 1 then (if 0 < (l0.length : Int) then (some ((rd l0 0) == 1)) else (none)) else (some false)
theorem spec_One.calls (A0 : Option Addr) (c0 : Nat) (l0 : List Int) (r : Bool) (w : World) (hr0 : Kd.C (Kd.int .i64) w A0 l0.length l0) (hc0 : l0.length <= c0) (h : spec_One.f l0 = some r) :
  Calls Tryz.prog 23 #[.slice A0 l0.length c0] w fun e w' => e = .returned (.bool r) /\ Drawn0 w w' := by
 have HR0 := Zd.mk hr0
 have HC0 := Zd.mk hc0
 clear hr0 hc0
 have H : (if (l0.length : Int) = 1 then (if 0 < (l0.length : Int) then (some ((rd l0 0) == 1)) else (none)) else (some false)) = some r := h
 clear h
 by_cases c2 : (l0.length : Int) = 1
 .
  rw [if_pos c2] at H
  have c2b0 : ((l0.length : Int) == 1) = true := beq_iff_eq.mpr c2
  have c2b1 : ((l0.length : Int) != 1) = false := bne_eq_false_iff_eq.mpr c2
  clear c2
  by_cases c3 : 0 < (l0.length : Int)
  .
   rw [if_pos c3] at H
   have c3b0 : decide (0 < (l0.length : Int)) = true := decide_eq_true c3
   have c3b1 : decide (0 < l0.length) = true := decide_eq_true (by omega)
   clear c3
   obtain rfl := Option.some.inj H
   have p252 : 0 <= (0 : Int) := (by omega)
   have q252 : 0 < (l0.length : Int) := of_decide_eq_true (by first | (with_reducible assumption) | assumption)
   obtain ⟨ad252, e252, hx252_0⟩ := Kd.at_int HR0.out 0 p252 q252
   cases e252
   have qi252 : (0 < l0.length) = True := eq_true (by omega)
   (try rw [show ((0 : Int)).toNat = 0 from rfl] at hx252_0)
   (try rw [Addr.add_zero'] at hx252_0)
   replace p252 := eq_true p252
   replace q252 := eq_true q252
   go_enter Tryz.func23, Tryz.ntmps23
   go_wp2
   go_ret
   exact ⟨by first | rfl | (simp; done) | (simp [*]; done), by repeat (first | exact Drawn0.refl _ | apply Drawn0.step)⟩
  .
   rw [if_neg c3] at H
   exact absurd H (by simp)
 .
  rw [if_neg c2] at H
  have c2b0 : ((l0.length : Int) == 1) = false := beq_eq_false_iff_ne.mpr c2
  have c2b1 : ((l0.length : Int) != 1) = true := bne_iff_ne.mpr c2
  obtain rfl := Option.some.inj H
  go_enter Tryz.func23, Tryz.ntmps23
  go_wp2
  go_ret
  exact ⟨by first | rfl | (simp; done) | (simp [*]; done), by repeat (first | exact Drawn0.refl _ | apply Drawn0.step)⟩
def laws_zzFits1.f (a0_0 : Bool) (l0_1 : List Int) : Option (Bool) := if (l0_1.length : Int) > 2147483647 then (some false) else (some true)
theorem laws_zzFits1.calls (a0_0 : Bool) (A0_1 : Option Addr) (c0_1 : Nat) (l0_1 : List Int) (r : Bool) (w : World) (hr0_1 : Kd.C (Kd.int .u64) w A0_1 l0_1.length l0_1) (hc0_1 : l0_1.length <= c0_1) (h : laws_zzFits1.f a0_0 l0_1 = some r) :
  Calls Tryz.prog 8 #[.agg #[.bool a0_0, .slice A0_1 l0_1.length c0_1]] w fun e w' => e = .returned (.bool r) /\ Below w.heap.size w w' := by
 have hu24 := Tryz.underlying24
 have HR0_1 := Zd.mk hr0_1
 have HC0_1 := Zd.mk hc0_1
 clear hr0_1 hc0_1
 have HB := Zd.mk (Below.refl w.heap.size w)
 have H : (if (l0_1.length : Int) > 2147483647 then (some false) else (some true)) = some r := h
 clear h
 by_cases c2 : (l0_1.length : Int) > 2147483647
 .
  rw [if_pos c2] at H
  have c2b0 : decide (2147483647 < (l0_1.length : Int)) = true := decide_eq_true c2
  have c2b1 : decide (2147483647 < l0_1.length) = true := decide_eq_true (by omega)
  clear c2
  obtain rfl := Option.some.inj H
  go_enter Tryz.func8, Tryz.ntmps8
  go_wp2_with (first | ((with_reducible refine gate_dst (N := 1) rfl ?_); refine box_event ?hg (N := 1) ?hd (cs := #[.bool a0_0, .slice A0_1 l0_1.length c0_1]) (t := 24) ?hr ?_; (case hd => rfl); (case hg => rfl); (case hr => first | (go_simp; done) | (go_simp; rfl)); intro gb101 hg w3 hbox hb; have n0_ := Zd.mk (Zi (by repeat (first | (with_reducible first | exact HB.out | apply Zb | apply Za | apply Zc) | exact HB.out)) hb); have n1_ := Zd.mk (hbox); have n2_ := Zd.mk ((by rw [hg]; exact (Ze (by repeat (first | (with_reducible first | exact HB.out | apply Zb | apply Za | apply Zc) | exact HB.out))) : w.heap.size <= gb101)); have n3_ := Zd.mk ((by rw [hg]; exact (Ze (by repeat (first | (with_reducible first | exact HB.out | apply Zb | apply Za | apply Zc) | exact HB.out))) : w.heap.size <= gb101)); clear HB; have HB := n0_; have BK101 := n1_; have GW101 := n2_; have GE101 := n3_; clear n0_ n1_ n2_ n3_; clear hb hbox hg; have hcz4_0 : w3.cell? ⟨gb101, 0, none⟩ = some (.bool a0_0) := (Zu BK101.out 0).trans rfl; have hcz4_1 : w3.cell? ⟨gb101, 1, none⟩ = some (.slice A0_1 l0_1.length c0_1) := (Zu BK101.out 1).trans rfl; have hfz4_0 := Zm BK101.out 0; have hfz4_1 := Zm BK101.out 1))
  go_ret
  exact ⟨by first | rfl | (simp [errW_none, errW_some] <;> rfl) | (simp [*, errW_none, errW_some] <;> rfl), by repeat (first | (with_reducible first | exact HB.out | apply Zb | apply Za | apply Zc | refine Zk ?_ GE101.out) | exact HB.out)⟩
 .
  rw [if_neg c2] at H
  have c2b0 : decide (2147483647 < (l0_1.length : Int)) = false := decide_eq_false c2
  have c2b1 : decide (2147483647 < l0_1.length) = false := decide_eq_false (by omega)
  clear c2
  obtain rfl := Option.some.inj H
  go_enter Tryz.func8, Tryz.ntmps8
  go_wp2_with (first | ((with_reducible refine gate_dst (N := 1) rfl ?_); refine box_event ?hg (N := 1) ?hd (cs := #[.bool a0_0, .slice A0_1 l0_1.length c0_1]) (t := 24) ?hr ?_; (case hd => rfl); (case hg => rfl); (case hr => first | (go_simp; done) | (go_simp; rfl)); intro gb101 hg w5 hbox hb; have n0_ := Zd.mk (Zi (by repeat (first | (with_reducible first | exact HB.out | apply Zb | apply Za | apply Zc) | exact HB.out)) hb); have n1_ := Zd.mk (hbox); have n2_ := Zd.mk ((by rw [hg]; exact (Ze (by repeat (first | (with_reducible first | exact HB.out | apply Zb | apply Za | apply Zc) | exact HB.out))) : w.heap.size <= gb101)); have n3_ := Zd.mk ((by rw [hg]; exact (Ze (by repeat (first | (with_reducible first | exact HB.out | apply Zb | apply Za | apply Zc) | exact HB.out))) : w.heap.size <= gb101)); clear HB; have HB := n0_; have BK101 := n1_; have GW101 := n2_; have GE101 := n3_; clear n0_ n1_ n2_ n3_; clear hb hbox hg; have hcz6_0 : w5.cell? ⟨gb101, 0, none⟩ = some (.bool a0_0) := (Zu BK101.out 0).trans rfl; have hcz6_1 : w5.cell? ⟨gb101, 1, none⟩ = some (.slice A0_1 l0_1.length c0_1) := (Zu BK101.out 1).trans rfl; have hfz6_0 := Zm BK101.out 0; have hfz6_1 := Zm BK101.out 1))
  go_ret
  exact ⟨by first | rfl | (simp [errW_none, errW_some] <;> rfl) | (simp [*, errW_none, errW_some] <;> rfl), by repeat (first | (with_reducible first | exact HB.out | apply Zb | apply Za | apply Zc | refine Zk ?_ GE101.out) | exact HB.out)⟩
def laws_big.f (a0_0 : Bool) (l0_1 : List Int) (a1 : Int) : Option (Bool) := some (decide ((l0_1.length : Int) > a1))
theorem laws_big.calls (a0_0 : Bool) (A0_1 : Option Addr) (c0_1 : Nat) (l0_1 : List Int) (a1 : Int) (r : Bool) (w : World) (hr0_1 : Kd.C (Kd.int .u64) w A0_1 l0_1.length l0_1) (hc0_1 : l0_1.length <= c0_1) (h : laws_big.f a0_0 l0_1 a1 = some r) :
  Calls Tryz.prog 9 #[.agg #[.bool a0_0, .slice A0_1 l0_1.length c0_1], .int .i64 a1] w fun e w' => e = .returned (.bool r) /\ Below w.heap.size w w' := by
 have hu24 := Tryz.underlying24
 have HR0_1 := Zd.mk hr0_1
 have HC0_1 := Zd.mk hc0_1
 clear hr0_1 hc0_1
 have HB := Zd.mk (Below.refl w.heap.size w)
 have H : (some (decide ((l0_1.length : Int) > a1))) = some r := h
 clear h
 obtain rfl := Option.some.inj H
 go_enter Tryz.func9, Tryz.ntmps9
 go_wp2_with (first | ((with_reducible refine gate_dst (N := 2) rfl ?_); refine box_event ?hg (N := 2) ?hd (cs := #[.bool a0_0, .slice A0_1 l0_1.length c0_1]) (t := 24) ?hr ?_; (case hd => rfl); (case hg => rfl); (case hr => first | (go_simp; done) | (go_simp; rfl)); intro gb102 hg w3 hbox hb; have n0_ := Zd.mk (Zi (by repeat (first | (with_reducible first | exact HB.out | apply Zb | apply Za | apply Zc) | exact HB.out)) hb); have n1_ := Zd.mk (hbox); have n2_ := Zd.mk ((by rw [hg]; exact (Ze (by repeat (first | (with_reducible first | exact HB.out | apply Zb | apply Za | apply Zc) | exact HB.out))) : w.heap.size <= gb102)); have n3_ := Zd.mk ((by rw [hg]; exact (Ze (by repeat (first | (with_reducible first | exact HB.out | apply Zb | apply Za | apply Zc) | exact HB.out))) : w.heap.size <= gb102)); clear HB; have HB := n0_; have BK102 := n1_; have GW102 := n2_; have GE102 := n3_; clear n0_ n1_ n2_ n3_; clear hb hbox hg; have hcz4_0 : w3.cell? ⟨gb102, 0, none⟩ = some (.bool a0_0) := (Zu BK102.out 0).trans rfl; have hcz4_1 : w3.cell? ⟨gb102, 1, none⟩ = some (.slice A0_1 l0_1.length c0_1) := (Zu BK102.out 1).trans rfl; have hfz4_0 := Zm BK102.out 0; have hfz4_1 := Zm BK102.out 1))
 go_ret
 exact ⟨by first | rfl | (simp [errW_none, errW_some] <;> rfl) | (simp [*, errW_none, errW_some] <;> rfl), by repeat (first | (with_reducible first | exact HB.out | apply Zb | apply Za | apply Zc | refine Zk ?_ GE102.out) | exact HB.out)⟩
end Go.Proofs.YthkklkjldpcbkaaGreatDoor.PSpec
