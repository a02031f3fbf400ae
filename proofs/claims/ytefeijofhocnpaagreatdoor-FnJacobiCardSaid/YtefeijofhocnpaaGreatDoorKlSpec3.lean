/- The reference's functions spec_Has, spec_Len, spec_Bit, spec_Root as Lean functions, each with the proof that Go comes to its answer: written for this claim by the kit's print program; these pieces of its texts stand here together. -/
import Derived.Test.YtefeijofhocnpaaGreatDoorKlSpec1
import Derived.Test.YtefeijofhocnpaaGreatDoorProg
import Derived.Below
import Derived.Deep.Draws
import Derived.Deep.AppendLies
import Derived.Maps.AppendAt
import Derived.OwnWalk
import Derived.Laws.BytesArg
import Derived.Laws.MakeOwn
import Derived.Laws.OwnMore
import Derived.Deep.OwnRows
import Derived.Tactics
import Derived.Lib.ConvBytes
import Derived.Laws.Slices
import Derived.WalkKit
import Derived.KernelRfl
import Derived.RowKit3
import Derived.Deep.LoopGhost
import Derived.Deep.QuietTactic
import Derived.BigQuiet
import Derived.WideLaws
import Derived.Deep.DeepCutAuto
import Derived.Deep.CutBlock
import Derived.Deep.RegionHeld3
import Derived.Laws.Rows
import Derived.Lib.AppendStr
import Derived.ArgAppend
import Derived.Laws.IdiomCopy
import Derived.OrdersHeld
import Derived.Laws.BitsLemmas
import Derived.RowKit
import Derived.Test.YtefeijofhocnpaaGreatDoorKlWWords
import Derived.Test.YtefeijofhocnpaaGreatDoorKlWLast
import Derived.Test.YtefeijofhocnpaaGreatDoorKlWTab
import Derived.Test.YtefeijofhocnpaaGreatDoorKlWFour
import Derived.Test.YtefeijofhocnpaaGreatDoorKlWQPut
import Derived.Test.YtefeijofhocnpaaGreatDoorKlWApart
import Derived.Test.YtefeijofhocnpaaGreatDoorKlWArr
import Derived.Test.YtefeijofhocnpaaGreatDoorKlWZeros
import Derived.Test.YtefeijofhocnpaaGreatDoorKlWFoot
import Derived.Test.YtefeijofhocnpaaGreatDoorKlWKept
import Derived.Test.YtefeijofhocnpaaGreatDoorKlWShare
import Derived.Test.YtefeijofhocnpaaGreatDoorKlWN
import Derived.Test.YtefeijofhocnpaaGreatDoorKlWFootNe
import Derived.Test.YtefeijofhocnpaaGreatDoorKlWAt
import Derived.Test.YtefeijofhocnpaaGreatDoorKlWEqStruct
import Derived.Test.YtefeijofhocnpaaGreatDoorKlWRepsOne
import Derived.Test.YtefeijofhocnpaaGreatDoorKlWInv
import Derived.Test.YtefeijofhocnpaaGreatDoorKlWInvWords
import Derived.Test.YtefeijofhocnpaaGreatDoorKlWGuard
import Derived.Test.YtefeijofhocnpaaGreatDoorKlWNEv
import Derived.Test.YtefeijofhocnpaaGreatDoorKlWMore
namespace Go.Proofs.YtefeijofhocnpaaGreatDoor.PSpec
open Go.RowKit Go.Proofs.YtefeijofhocnpaaGreatDoorW.PrintWords Go.Proofs.YtefeijofhocnpaaGreatDoorW.PrintLast Go.Proofs.YtefeijofhocnpaaGreatDoorW.PrintMore
attribute [local go_sem] max2_int min2_int max_two min_two max_three min_three max_four min_four   -- for this text's walks alone
set_option linter.unusedVariables false
set_option linter.unusedSimpArgs false
def spec_Has.f (l0 : List Int) (a1 : Int) : Option (Bool) := if (wrap64 (Int.tdiv a1 16)) < (l0.length : Int) then (if 0 ≤ (wrap64 (Int.tdiv a1 16)) then (if 0 ≤ (Int.tmod a1 16) then (some ((Go.bits .and .i64 (shr .i64 (rd l0 (wrap64 (Int.tdiv a1 16))) (Int.tmod a1 16)) 1) == 1)) else (none)) else (none)) else (some false)
set_option maxHeartbeats 8000000 in
set_option maxRecDepth 100000 in
theorem spec_Has.calls (A0 : Option Addr) (c0 : Nat) (l0 : List Int) (a1 : Int) (r : Bool) (w : World) (hr0 : Kd.C (Kd.int .i64) w A0 l0.length l0) (hc0 : l0.length ≤ c0) (h : spec_Has.f l0 a1 = some r) :
    Calls Tryz.prog 62 #[.slice A0 l0.length c0, .int .i64 a1] w fun e w' => e = .returned (.bool r) ∧ Drawn0 w w' := by
  have HR0 := Aside0.mk hr0
  have HC0 := Aside0.mk hc0
  clear hr0 hc0
  have H : (if (wrap64 (Int.tdiv a1 16)) < (l0.length : Int) then (if 0 ≤ (wrap64 (Int.tdiv a1 16)) then (if 0 ≤ (Int.tmod a1 16) then (some ((Go.bits .and .i64 (shr .i64 (rd l0 (wrap64 (Int.tdiv a1 16))) (Int.tmod a1 16)) 1) == 1)) else (none)) else (none)) else (some false)) = some r := h
  clear h
  by_cases c3 : (wrap64 (Int.tdiv a1 16)) < (l0.length : Int)
  · rw [if_pos c3] at H
    have c3b0 : decide ((wrap64 (Int.tdiv a1 16)) < (l0.length : Int)) = true := decide_eq_true c3
    clear c3
    obtain ⟨ji4, hji4⟩ : ∃ j_ : Int, (wrap64 (Int.tdiv a1 16)) = j_ := ⟨_, rfl⟩
    replace H : (if 0 ≤ (ji4) then (if 0 ≤ (Int.tmod a1 16) then (some ((Go.bits .and .i64 (shr .i64 (rd l0 (ji4)) (Int.tmod a1 16)) 1) == 1)) else (none)) else (none)) = some r := by first | (rw [hji4] at H; exact H) | (simp only [hji4] at H ⊢; exact H)
    (try rw [hji4] at c3b0)
    have hji4w : (IntKind.i64.wrap (Int.tdiv a1 16)) = ji4 := (i64_w _).trans hji4
    by_cases c5 : 0 ≤ (ji4)
    · rw [if_pos c5] at H
      have c5b0 : decide (0 ≤ (ji4)) = true := decide_eq_true c5
      clear c5
      obtain ⟨ji6, hji6⟩ : ∃ j_ : Int, (Int.tmod a1 16) = j_ := ⟨_, rfl⟩
      replace H : (if 0 ≤ (ji6) then (some ((Go.bits .and .i64 (shr .i64 (rd l0 (ji4)) (ji6)) 1) == 1)) else (none)) = some r := by first | (rw [hji6] at H; exact H) | (simp only [hji6] at H ⊢; exact H)
      by_cases c7 : 0 ≤ (ji6)
      · rw [if_pos c7] at H
        have c7b0 := eq_true c7
        have c7b1 : decide (0 ≤ (ji6)) = true := decide_eq_true c7
        clear c7
        obtain ⟨ji8, hji8⟩ : ∃ j_ : Int, (shr .i64 (rd l0 (ji4)) (ji6)) = j_ := ⟨_, rfl⟩
        replace H : (some ((Go.bits .and .i64 (ji8) 1) == 1)) = some r := by first | (rw [hji8] at H; exact H) | (simp only [hji8] at H ⊢; exact H)
        have hji8_ : ((rd l0 (ji4)) / 2 ^ min (ji6).toNat 64) = ji8 := hji8
        have hji8z : (ji6) ≤ 64 → ((rd l0 (ji4)) / 2 ^ (ji6).toNat) = ji8 := shr_small hji8
        obtain rfl := Option.some.inj H
        have p249 : 0 ≤ ((ji4) : Int) := of_decide_eq_true (by first | (with_reducible assumption) | assumption)
        have q249 : (ji4) < (l0.length : Int) := of_decide_eq_true (by first | (with_reducible assumption) | assumption)
        obtain ⟨ad249, e249, hx249_0⟩ := Kd.at_int HR0.out (ji4) p249 q249
        cases e249
        replace p249 := eq_true p249
        replace q249 := eq_true q249
        go_enter Tryz.func62, Tryz.ntmps62
        go_wp2
        go_ret
        exact ⟨by first | rfl | (simp; done) | (simp only [← hji4, ← hji6, ← hji8] <;> (first | rfl | simp)) | (simp [*]; done), by repeat (first | exact Drawn0.refl _ | apply Drawn0.step)⟩
      · rw [if_neg c7] at H
        exact absurd H (by simp)
    · rw [if_neg c5] at H
      exact absurd H (by simp)
  · rw [if_neg c3] at H
    have c3b0 : decide ((wrap64 (Int.tdiv a1 16)) < (l0.length : Int)) = false := decide_eq_false c3
    clear c3
    obtain rfl := Option.some.inj H
    go_enter Tryz.func62, Tryz.ntmps62
    go_wp2
    go_ret
    exact ⟨by first | rfl | (simp; done) | (simp [*]; done), by repeat (first | exact Drawn0.refl _ | apply Drawn0.step)⟩
def spec_Len.l0 : Nat → List Int → Int → Option (Int)
  | 0, _, _ => none
  | k + 1, x0, x3 => if x3 > 0 then ((spec_Has.f x0 (wrap64 (x3 - 1))).bind fun t250 => (if t250 = true then (some x3) else (spec_Len.l0 k x0 (wrap64 (x3 - 1))))) else (some x3)
def spec_Len.f (k : Nat) (l0 : List Int) : Option (Int) := spec_Len.l0 k l0 (wrap64 (16 * (l0.length : Int)))
theorem spec_Len.mono_l : ∀ k, (∀ y0 y1, LeO (spec_Len.l0 k y0 y1) (spec_Len.l0 (k + 1) y0 y1))
  | 0 => fun _ _ r h => by simp [spec_Len.l0] at h
  | k + 1 => by
    have ih0 := spec_Len.mono_l k
    · intro y0 y1
      unfold spec_Len.l0
      repeat' first
      | (with_reducible exact ih0 _ _)
      | (with_reducible exact LeO.refl _)
      | (with_reducible exact LeO.none _)
      | (with_reducible refine LeO.ite ?_ ?_)
      | (with_reducible refine LeO.bind ?_ (fun _ => ?_))
      | exact ih0 _ _
      | exact LeO.none _
      | refine LeO.ite ?_ ?_
      | refine LeO.bind ?_ (fun _ => ?_)
theorem spec_Len.mono : ∀ a0 k, LeO (spec_Len.f k a0) (spec_Len.f (k + 1) a0) := by
  intro a0 k
  have ih0 := spec_Len.mono_l k
  unfold spec_Len.f
  repeat' first
      | (with_reducible exact ih0 _ _)
      | (with_reducible exact LeO.refl _)
      | (with_reducible exact LeO.none _)
      | (with_reducible refine LeO.ite ?_ ?_)
      | (with_reducible refine LeO.bind ?_ (fun _ => ?_))
      | exact ih0 _ _
      | exact LeO.none _
      | refine LeO.ite ?_ ?_
      | refine LeO.bind ?_ (fun _ => ?_)
set_option maxHeartbeats 8000000 in
set_option maxRecDepth 100000 in
theorem spec_Len.calls (k : Nat) (A0 : Option Addr) (c0 : Nat) (l0 : List Int) (r : Int) (w : World) (hr0 : Kd.C (Kd.int .i64) w A0 l0.length l0) (hc0 : l0.length ≤ c0) (h : spec_Len.f k l0 = some r) :
    Calls Tryz.prog 66 #[.slice A0 l0.length c0] w fun e w' => e = .returned (.int .i64 r) ∧ Drawn0 w w' := by
  have HR0 := Aside0.mk hr0
  have HC0 := Aside0.mk hc0
  clear hr0 hc0
  have H : (spec_Len.l0 k l0 (wrap64 (16 * (l0.length : Int)))) = some r := h
  clear h
  have H' := Aside0.mk H
  clear H
  go_enter Tryz.func66, Tryz.ntmps66
  go_wp2
  go_loopg [3] k (fun kq v3 w' => ∃ (x3_1 : Int), v3 = .int .i64 x3_1 ∧ Aside0 (spec_Len.l0 kq l0 x3_1 = some r) ∧ Aside0 (kq ≤ k) ∧ Drawn0 w w')
  case atStart => exact ⟨(wrap64 (16 * (l0.length : Int))), (by first | rfl | (simp; done) | (simp [*]; done)), H', ⟨Nat.le_refl _⟩, by repeat (first | exact Drawn0.refl _ | apply Drawn0.step)⟩
  case round =>
    clear H'
    obtain ⟨x3_1, rfl, HA, HK1, ⟨m1, rfl⟩⟩ := hrel
    cases gk with
    | zero => exact absurd HA.out (by simp [spec_Len.l0])
    | succ k1 =>
      have H := HA.out
      clear HA
      simp only [spec_Len.l0] at H
      by_cases c2 : x3_1 > 0
      · rw [if_pos c2] at H
        have c2b0 : decide (0 < x3_1) = true := decide_eq_true c2
        clear c2
        replace H := Option.bind_eq_some_iff.mp H
        obtain ⟨t250, A30, H⟩ := H
        replace H : (if t250 = true then (some x3_1) else (spec_Len.l0 k1 l0 (wrap64 (x3_1 - 1)))) = some r := H
        have A3 := Aside0.mk A30
        clear A30
        by_cases c4 : t250 = true
        · subst c4
          have H1 : (some x3_1) = some r := by rw [if_pos rfl] at H; exact H
          clear H
          have H := H1
          clear H1
          obtain rfl := Option.some.inj H
          go_wp2_with (first | (go_at_call 62; (with_reducible refine (spec_Has.calls _ _ l0 (wrap64 (x3_1 - 1)) true _ ?side1 ?side2 A3.out).mono ?_); (case side1 => repeat (first | exact HR0.out | (with_reducible refine Kd.C_alloc ?_ _) | (with_reducible refine Kd.C_drewN ?_ _) | (with_reducible refine Kd.C_drew ?_))); (case side2 => exact HC0.out); rintro e w' ⟨rfl, ⟨nd, rfl⟩⟩))
          go_ret
          exact ⟨by first | rfl | (simp; done) | (simp [*]; done), by repeat (first | exact Drawn0.refl _ | apply Drawn0.step)⟩
        · replace c4 := Bool.eq_false_iff.mpr c4
          subst c4
          have H1 : (spec_Len.l0 k1 l0 (wrap64 (x3_1 - 1))) = some r := by rw [if_neg (show ¬ (false = true) by decide)] at H; exact H
          clear H
          have H := H1
          clear H1
          have H' := Aside0.mk H
          clear H
          go_wp2_with (first | (go_at_call 62; (with_reducible refine (spec_Has.calls _ _ l0 (wrap64 (x3_1 - 1)) false _ ?side1 ?side2 A3.out).mono ?_); (case side1 => repeat (first | exact HR0.out | (with_reducible refine Kd.C_alloc ?_ _) | (with_reducible refine Kd.C_drewN ?_ _) | (with_reducible refine Kd.C_drew ?_))); (case side2 => exact HC0.out); rintro e w' ⟨rfl, ⟨nd, rfl⟩⟩))
          go_roundg k1
          case measure => have := HK1.out; omega
          case rel => exact ⟨(wrap64 (x3_1 - 1)), (by first | rfl | (simp; done) | (simp [*]; done)), H', ⟨by have := HK1.out; omega⟩, by repeat (first | exact Drawn0.refl _ | apply Drawn0.step)⟩
      · rw [if_neg c2] at H
        have c2b0 : decide (0 < x3_1) = false := decide_eq_false c2
        clear c2
        obtain rfl := Option.some.inj H
        go_wp2
        go_ret
        exact ⟨by first | rfl | (simp; done) | (simp [*]; done), by repeat (first | exact Drawn0.refl _ | apply Drawn0.step)⟩
def spec_Bit.f (a0 : Int) : Option (List Int) := if 0 ≤ (wrap64 ((wrap64 (Int.tdiv a0 16)) + 1)) then (if (wrap64 ((wrap64 (Int.tdiv a0 16)) + 1) : Int).toNat ≤ 35184372088832 then ((some (List.replicate (wrap64 ((wrap64 (Int.tdiv a0 16)) + 1) : Int).toNat 0 : List Int)).bind fun y187 => (if 0 ≤ (Int.tmod a0 16) then (if 0 ≤ (wrap64 (Int.tdiv a0 16)) then (if (wrap64 (Int.tdiv a0 16)) < (y187.length : Int) then (some (y187.set ((wrap64 (Int.tdiv a0 16)) : Int).toNat (shl .i64 1 (Int.tmod a0 16)))) else (none)) else (none)) else (none))) else (none)) else (none)
set_option maxHeartbeats 8000000 in
set_option maxRecDepth 100000 in
theorem spec_Bit.calls (a0 : Int) (r : List Int) (w : World) (h : spec_Bit.f a0 = some r) :
    Calls Tryz.prog 67 #[.int .i64 a0] w fun e w' => ∃ v0_ : Value, e = .returned (v0_) ∧ Kd.R (Kd.int .i64) 3 w' w.heap.size (fun _ => True) v0_ r ∧ Below w.heap.size w w' := by
  have HB := Aside0.mk (Below.refl w.heap.size w)
  have H : (if 0 ≤ (wrap64 ((wrap64 (Int.tdiv a0 16)) + 1)) then (if (wrap64 ((wrap64 (Int.tdiv a0 16)) + 1) : Int).toNat ≤ 35184372088832 then ((some (List.replicate (wrap64 ((wrap64 (Int.tdiv a0 16)) + 1) : Int).toNat 0 : List Int)).bind fun y187 => (if 0 ≤ (Int.tmod a0 16) then (if 0 ≤ (wrap64 (Int.tdiv a0 16)) then (if (wrap64 (Int.tdiv a0 16)) < (y187.length : Int) then (some (y187.set ((wrap64 (Int.tdiv a0 16)) : Int).toNat (shl .i64 1 (Int.tmod a0 16)))) else (none)) else (none)) else (none))) else (none)) else (none)) = some r := h
  clear h
  obtain ⟨ji2, hji2⟩ : ∃ j_ : Int, (wrap64 ((wrap64 (Int.tdiv a0 16)) + 1)) = j_ := ⟨_, rfl⟩
  replace H : (if 0 ≤ (ji2) then (if (ji2 : Int).toNat ≤ 35184372088832 then ((some (List.replicate (ji2 : Int).toNat 0 : List Int)).bind fun y187 => (if 0 ≤ (Int.tmod a0 16) then (if 0 ≤ (wrap64 (Int.tdiv a0 16)) then (if (wrap64 (Int.tdiv a0 16)) < (y187.length : Int) then (some (y187.set ((wrap64 (Int.tdiv a0 16)) : Int).toNat (shl .i64 1 (Int.tmod a0 16)))) else (none)) else (none)) else (none))) else (none)) else (none)) = some r := by first | (rw [hji2] at H; exact H) | (simp only [hji2] at H ⊢; exact H)
  have hji2w : (IntKind.i64.wrap ((wrap64 (Int.tdiv a0 16)) + 1)) = ji2 := (i64_w _).trans hji2
  by_cases c3 : 0 ≤ (ji2)
  · rw [if_pos c3] at H
    have c3b0 := eq_true c3
    have c3b1 : decide (0 ≤ (ji2)) = true := decide_eq_true c3
    clear c3
    by_cases c4 : (ji2 : Int).toNat ≤ 35184372088832
    · rw [if_pos c4] at H
      have c4b0 := eq_true c4
      have c4b1 : decide ((ji2 : Int).toNat ≤ 35184372088832) = true := decide_eq_true c4
      clear c4
      obtain ⟨y187, hy187⟩ : ∃ y_ : List Int, y_ = (List.replicate (ji2 : Int).toNat 0) := ⟨_, rfl⟩
      replace H : (if 0 ≤ (Int.tmod a0 16) then (if 0 ≤ (wrap64 (Int.tdiv a0 16)) then (if (wrap64 (Int.tdiv a0 16)) < (y187.length : Int) then (some (y187.set ((wrap64 (Int.tdiv a0 16)) : Int).toNat (shl .i64 1 (Int.tmod a0 16)))) else (none)) else (none)) else (none)) = some r := by first | (rw [hy187]; with_reducible exact H) | (have H2_ := (Option.bind_some _ _).symm.trans H; rw [hy187]; with_reducible exact H2_) | (have H2_ := (Option.bind_some _ _).symm.trans H; with_reducible exact H2_) | with_reducible exact H | (rw [hy187]; exact H) | exact H
      have Ny187 := Aside0.mk hy187
      clear hy187
      obtain ⟨ji5, hji5⟩ : ∃ j_ : Int, (Int.tmod a0 16) = j_ := ⟨_, rfl⟩
      replace H : (if 0 ≤ (ji5) then (if 0 ≤ (wrap64 (Int.tdiv a0 16)) then (if (wrap64 (Int.tdiv a0 16)) < (y187.length : Int) then (some (y187.set ((wrap64 (Int.tdiv a0 16)) : Int).toNat (shl .i64 1 (ji5)))) else (none)) else (none)) else (none)) = some r := by first | (rw [hji5] at H; exact H) | (simp only [hji5] at H ⊢; exact H)
      by_cases c6 : 0 ≤ (ji5)
      · rw [if_pos c6] at H
        have c6b0 := eq_true c6
        have c6b1 : decide (0 ≤ (ji5)) = true := decide_eq_true c6
        clear c6
        obtain ⟨ji7, hji7⟩ : ∃ j_ : Int, (shl .i64 1 (ji5)) = j_ := ⟨_, rfl⟩
        replace H : (if 0 ≤ (wrap64 (Int.tdiv a0 16)) then (if (wrap64 (Int.tdiv a0 16)) < (y187.length : Int) then (some (y187.set ((wrap64 (Int.tdiv a0 16)) : Int).toNat (ji7))) else (none)) else (none)) = some r := by first | (rw [hji7] at H; exact H) | (simp only [hji7] at H ⊢; exact H)
        have hji7_ : (IntKind.i64.wrap (1 * 2 ^ min (ji5).toNat 64)) = ji7 := hji7
        have hji7z : (ji5) ≤ 64 → (IntKind.i64.wrap (1 * 2 ^ (ji5).toNat)) = ji7 := shl_small hji7
        have hji7u : (IntKind.i64.wrap (2 ^ min (ji5).toNat 64)) = ji7 := by have h_ := hji7_; rw [Int.one_mul] at h_; exact h_
        have hji7v : (ji5) ≤ 64 → (IntKind.i64.wrap (2 ^ (ji5).toNat)) = ji7 := fun hle_ => by have h_ := hji7z hle_; rw [Int.one_mul] at h_; exact h_
        have hji7y : (wrap64 (1 * 2 ^ min (ji5).toNat 64)) = ji7 := (i64_w _).symm.trans hji7_
        have hji7x : (ji5) ≤ 64 → (wrap64 (1 * 2 ^ (ji5).toNat)) = ji7 := fun h_ => (i64_w _).symm.trans (hji7z h_)
        obtain ⟨ji8, hji8⟩ : ∃ j_ : Int, (wrap64 (Int.tdiv a0 16)) = j_ := ⟨_, rfl⟩
        replace H : (if 0 ≤ (ji8) then (if (ji8) < (y187.length : Int) then (some (y187.set ((ji8) : Int).toNat (ji7))) else (none)) else (none)) = some r := by first | (rw [hji8] at H; exact H) | (simp only [hji8] at H ⊢; exact H)
        have hji8w : (IntKind.i64.wrap (Int.tdiv a0 16)) = ji8 := (i64_w _).trans hji8
        by_cases c9 : 0 ≤ (ji8)
        · rw [if_pos c9] at H
          have c9b0 : decide (0 ≤ (ji8)) = true := decide_eq_true c9
          clear c9
          by_cases c10 : (ji8) < (y187.length : Int)
          · rw [if_pos c10] at H
            have c10b0 : decide ((ji8) < (y187.length : Int)) = true := decide_eq_true c10
            clear c10
            obtain ⟨y190, hy190⟩ : ∃ y_ : List Int, y_ = (y187.set ((ji8) : Int).toNat (ji7)) := ⟨_, rfl⟩
            replace H : (some y190) = some r := by first | (rw [hy190]; with_reducible exact H) | (have H2_ := (Option.bind_some _ _).symm.trans H; rw [hy190]; with_reducible exact H2_) | (have H2_ := (Option.bind_some _ _).symm.trans H; with_reducible exact H2_) | with_reducible exact H | (rw [hy190]; exact H) | exact H
            have Ny190 := Aside0.mk hy190
            clear hy190
            obtain rfl := Option.some.inj H
            have hjx : (wrap64 (ji8 + 1)) = ji2 := by rw [← hji8]; exact hji2
            go_enter Tryz.func67, Tryz.ntmps67
            go_wp2_with (first | ((with_reducible refine gate_dst (N := 7) rfl ?_); refine Kd.R_make (Kd.int .i64) _ 3 rfl (N := 7) rfl 24 _ _ rfl ji2 (congrArg (Value.int .i64) hjx) (congrArg (Value.int .i64) hjx) Tryz.underlying24 (.int .i64 0) 8 info3 rfl (by decide) (by omega) 0 (ok := fun _ => True) (okp := fun _ => True) rfl (fun _ hk => hk) trivial (of_eq_true (by assumption)) (Nat.le_trans (Nat.mul_le_mul_right _ (of_eq_true (by assumption) : ji2.toNat ≤ 35184372088832)) (by omega)) (Below.refl _ _) (Nat.le_refl _) ?_; intro v188 w12 ho13 hb hg_ hnew_; clear hg_ hnew_; (first | rw [← Ny187.out] at ho13 | (simp only [Int.reduceToNat] at ho13; rw [← Ny187.out] at ho13)); have n0_ := Aside0.mk (Kd.R_lower ho13 (below_size (by repeat (first | (with_reducible first | exact HB.out | apply below_alloc | apply pw_below_drewN | apply below_drew1) | exact HB.out)))); have n1_ := Aside0.mk (below_step (by repeat (first | (with_reducible first | exact HB.out | apply below_alloc | apply pw_below_drewN | apply below_drew1) | exact HB.out)) hb); clear HB; have HO189 := n0_; have HB := n1_; clear n0_ n1_; clear hb ho13; have p11 : 0 ≤ ((ji8) : Int) := of_decide_eq_true (by first | (with_reducible assumption) | assumption); have q11 : ((ji8) : Int) < ((y187.length : Int) : Int) := of_decide_eq_true (by first | (with_reducible assumption) | assumption); obtain ⟨go11, co11, eo11, gb11, gl11, cl11, HG11⟩ := Kd.R_form HO189.out (by omega); (first | cases eo11 | (injection eo11 with ea_ en_ ec_; (first | subst ea_ | (injection ea_ with ea_; subst ea_)); subst ec_; clear en_)); have GB11 := Aside0.mk gb11; have GG11 := Aside0.mk HG11; clear gb11 gl11 HG11; obtain ⟨hx11_0, hf11_0⟩ := Kd.R_celln 0 HO189.out ((ji8) : Int) p11 q11; replace p11 := eq_true p11; replace q11 := eq_true q11; obtain ⟨hy14_, hz14_⟩ := Kd.R_celln 0 HO189.out ((ji8) : Int) (of_decide_eq_true (by first | (with_reducible assumption) | assumption)) (of_decide_eq_true (by first | (with_reducible assumption) | assumption)); have HP14 := Kd.R_putg HO189.out ((ji8) : Int) ji7) | ((with_reducible refine gate_store (t := 3) (p := 14) rfl ?_); refine store_event (t := 3) (p := 14) (v := ?vo_w15) (w1 := (w12.setCell ⟨go11, ((ji8) : Int).toNat, none⟩ (.int .i64 ji7))) ?hg ?ho ?hn ?hr ?_; (case ho => rfl); (case hg => rfl); (case hn => rfl); (case hr => first | (go_simp; done) | (go_simp; rfl)); intro w15 hw; have hg : w12.grownBy w15 (some go11) := (by rw [hw]; exact HP14.2); have hp_ : Kd.R (Kd.int .i64) 3 w15 w.heap.size (fun _ => True) (.slice (some ⟨go11, 0, none⟩) y187.length co11) y190 := (by rw [hw, Ny190.out]; exact HP14.1); clear HP14; have n0_ := Aside0.mk (hp_); have n1_ := Aside0.mk ((by rw [hw]; exact below_set (HB.out) GB11.out : Below w.heap.size w w15)); clear HO189; clear HB; have HO189 := n0_; have HB := n1_; clear n0_ n1_; clear hg hw hp_))
            go_ret
            exact ⟨_, by first | rfl | (simp [errW_none, errW_some] <;> rfl) | (simp only [← hji2, ← hji5, ← hji7, ← hji8]; first | rfl | (simp [errW_none, errW_some] <;> rfl)) | (simp [*, errW_none, errW_some] <;> rfl), by (with_reducible repeat (first | apply Kd.R_alloc | apply Kd.R_drewN | apply Kd.R_drew)); exact HO189.out, by repeat (first | (with_reducible first | exact HB.out | apply below_alloc | apply pw_below_drewN | apply below_drew1) | exact HB.out)⟩
          · rw [if_neg c10] at H
            exact absurd H (by simp)
        · rw [if_neg c9] at H
          exact absurd H (by simp)
      · rw [if_neg c6] at H
        exact absurd H (by simp)
    · rw [if_neg c4] at H
      exact absurd H (by simp)
  · rw [if_neg c3] at H
    exact absurd H (by simp)
def spec_Root.l0 : Nat → List Int → List Int → Int → Option (List Int)
  | 0, _, _, _ => none
  | k + 1, x0, x3, x4 => if x4 ≥ 0 then ((spec_Bit.f x4).bind fun t195 => ((spec_Add.f k x3 t195).bind fun t198 => ((spec_Mul.f k t198 t198).bind fun t201 => ((spec_Cmp.f k t201 x0).bind fun t204 => (if t204 ≤ 0 then (spec_Root.l0 k x0 t198 (wrap64 (x4 - 1))) else (spec_Root.l0 k x0 x3 (wrap64 (x4 - 1)))))))) else (some x3)
def spec_Root.f (k : Nat) (l0 : List Int) : Option (List Int) := (spec_Len.f k l0).bind fun t194 => (spec_Root.l0 k l0 (([] : List Int)) (wrap64 (Int.tdiv (wrap64 (t194 + 1)) 2)))
theorem spec_Root.mono_l : ∀ k, (∀ y0 y1 y2, LeO (spec_Root.l0 k y0 y1 y2) (spec_Root.l0 (k + 1) y0 y1 y2))
  | 0 => fun _ _ _ r h => by simp [spec_Root.l0] at h
  | k + 1 => by
    have ih0 := spec_Root.mono_l k
    · intro y0 y1 y2
      unfold spec_Root.l0
      repeat' first
      | (with_reducible exact ih0 _ _ _)
      | (with_reducible exact spec_Add.mono _ _ _)
      | (with_reducible exact spec_Cmp.mono _ _ _)
      | (with_reducible exact spec_Len.mono _ _)
      | (with_reducible exact spec_Mul.mono _ _ _)
      | (with_reducible exact LeO.refl _)
      | (with_reducible exact LeO.none _)
      | (with_reducible refine LeO.ite ?_ ?_)
      | (with_reducible refine LeO.bind ?_ (fun _ => ?_))
      | exact ih0 _ _ _
      | exact spec_Add.mono _ _ _
      | exact spec_Cmp.mono _ _ _
      | exact spec_Len.mono _ _
      | exact spec_Mul.mono _ _ _
      | exact LeO.none _
      | refine LeO.ite ?_ ?_
      | refine LeO.bind ?_ (fun _ => ?_)
theorem spec_Root.mono : ∀ a0 k, LeO (spec_Root.f k a0) (spec_Root.f (k + 1) a0) := by
  intro a0 k
  have ih0 := spec_Root.mono_l k
  unfold spec_Root.f
  repeat' first
      | (with_reducible exact ih0 _ _ _)
      | (with_reducible exact spec_Add.mono _ _ _)
      | (with_reducible exact spec_Cmp.mono _ _ _)
      | (with_reducible exact spec_Len.mono _ _)
      | (with_reducible exact spec_Mul.mono _ _ _)
      | (with_reducible exact LeO.refl _)
      | (with_reducible exact LeO.none _)
      | (with_reducible refine LeO.ite ?_ ?_)
      | (with_reducible refine LeO.bind ?_ (fun _ => ?_))
      | exact ih0 _ _ _
      | exact spec_Add.mono _ _ _
      | exact spec_Cmp.mono _ _ _
      | exact spec_Len.mono _ _
      | exact spec_Mul.mono _ _ _
      | exact LeO.none _
      | refine LeO.ite ?_ ?_
      | refine LeO.bind ?_ (fun _ => ?_)
set_option maxHeartbeats 8000000 in
set_option maxRecDepth 100000 in
theorem spec_Root.calls (k : Nat) (A0 : Option Addr) (c0 : Nat) (l0 : List Int) (r : List Int) (w : World) (hr0 : Kd.C (Kd.int .i64) w A0 l0.length l0) (hc0 : l0.length ≤ c0) (h : spec_Root.f k l0 = some r) :
    Calls Tryz.prog 34 #[.slice A0 l0.length c0] w fun e w' => ∃ v0_ : Value, e = .returned (v0_) ∧ Kd.V (Kd.int .i64) 3 w' w.heap.size (fun k_ => (w.heap.size ≤ k_)) v0_ r ∧ Below w.heap.size w w' := by
  have HR0 := Aside0.mk hr0
  have HC0 := Aside0.mk hc0
  clear hr0 hc0
  have HB := Aside0.mk (Below.refl w.heap.size w)
  have H : ((spec_Len.f k l0).bind fun t194 => (spec_Root.l0 k l0 (([] : List Int)) (wrap64 (Int.tdiv (wrap64 (t194 + 1)) 2)))) = some r := h
  clear h
  obtain ⟨y191, hy191⟩ : ∃ y_ : List Int, y_ = (([] : List Int)) := ⟨_, rfl⟩
  replace H : ((spec_Len.f k l0).bind fun t194 => (spec_Root.l0 k l0 y191 (wrap64 (Int.tdiv (wrap64 (t194 + 1)) 2)))) = some r := by first | (rw [hy191]; with_reducible exact H) | (have H2_ := (Option.bind_some _ _).symm.trans H; rw [hy191]; with_reducible exact H2_) | (have H2_ := (Option.bind_some _ _).symm.trans H; with_reducible exact H2_) | with_reducible exact H | (rw [hy191]; exact H) | exact H
  have Ny191 := Aside0.mk hy191
  clear hy191
  replace H := Option.bind_eq_some_iff.mp H
  obtain ⟨t194, A20, H⟩ := H
  replace H : (spec_Root.l0 k l0 y191 (wrap64 (Int.tdiv (wrap64 (t194 + 1)) 2))) = some r := H
  have A2 := Aside0.mk A20
  clear A20
  have H' := Aside0.mk H
  clear H
  go_enter Tryz.func34, Tryz.ntmps34
  go_wp2_with (first | ((with_reducible refine gate_dst (N := 6) rfl ?_); refine Kd.R_lit (Kd.int .i64) _ 3 ?hg (N := 6) ?hd (xs := ([] : List Int)) (inner := []) (ok := fun _ => True) (okp := fun _ => True) ?hr ?hp (fun _ hk => hk) trivial (Below.refl _ _) (Nat.le_refl _) (by simp) ?_; (case hd => rfl); (case hg => rfl); (case hr => first | (go_simp; done) | (go_simp; rfl)); (case hp => exact (Reps.none _ _)); intro v192 w3 ho4 hb hg_ hnew_; clear hg_ hnew_; (first | rw [← Ny191.out] at ho4 | (simp only [Int.reduceToNat] at ho4; rw [← Ny191.out] at ho4)); have n0_ := Aside0.mk (Kd.R_lower (Kd.R_newM (M := fun k_ => (w.heap.size ≤ k_)) ho4 (below_size (by repeat (first | (with_reducible first | exact HB.out | apply below_alloc | apply pw_below_drewN | apply below_drew1) | exact HB.out))) (fun k_ h_ => h_)) (below_size (by repeat (first | (with_reducible first | exact HB.out | apply below_alloc | apply pw_below_drewN | apply below_drew1) | exact HB.out)))); have n1_ := Aside0.mk (below_step (by repeat (first | (with_reducible first | exact HB.out | apply below_alloc | apply pw_below_drewN | apply below_drew1) | exact HB.out)) hb); clear HB; have HO193 := n0_; have HB := n1_; clear n0_ n1_; clear hb ho4) | ((with_reducible refine gate_callee (f := 66) rfl ?_); refine goesL_ (some 8) rfl rfl Tryz.func66 (by kernel_rfl) rfl #[.slice A0 l0.length c0] rfl (by (try simp only [List.map_toArray, List.map_cons, List.map_nil]); first | done | rfl | (simp only [List.length_drop, List.length_take]; rfl)) ?_; (with_reducible refine (spec_Len.calls k _ _ l0 t194 _ ?side1 ?side2 A2.out).mono ?_); (case side1 => repeat (first | exact (Kd.C_below HR0.out HB.out) | (with_reducible refine Kd.C_alloc ?_ _) | (with_reducible refine Kd.C_drewN ?_ _) | (with_reducible refine Kd.C_drew ?_))); (case side2 => exact HC0.out); rintro e w' ⟨rfl, ⟨nd, rfl⟩⟩; refine ⟨_, rfl, ?_⟩))
  go_loopg [3, 4] k (fun kq v3 v4 w' => ∃ (x3_1 : List Int) (x4_1 : Int), v4 = .int .i64 x4_1 ∧ Aside0 (spec_Root.l0 kq l0 x3_1 x4_1 = some r) ∧ Aside0 (kq ≤ k) ∧ Aside0 (Kd.V (Kd.int .i64) 3 w' w.heap.size (fun k_ => (w.heap.size ≤ k_)) v3 x3_1) ∧ Aside0 (Below w.heap.size w w'))
  case atStart => exact ⟨(y191), (wrap64 (Int.tdiv (wrap64 (t194 + 1)) 2)), (by first | rfl | (simp; done) | (simp [*]; done)), H', ⟨Nat.le_refl _⟩, ⟨Kd.R_V (by (with_reducible repeat (first | apply Kd.R_alloc | apply Kd.R_drewN | apply Kd.R_drew)); exact Kd.R_mono HO193.out (fun _ hk => hk.1))⟩, ⟨by repeat (first | (with_reducible first | exact HB.out | apply below_alloc | apply pw_below_drewN | apply below_drew1) | exact HB.out)⟩⟩
  case round =>
    clear H'
    try clear p2
    try clear c3
    obtain ⟨x3_1, x4_1, rfl, HA, HK1, HO_3, HB⟩ := hrel
    cases gk with
    | zero => exact absurd HA.out (by simp [spec_Root.l0])
    | succ k1 =>
      have H := HA.out
      clear HA
      simp only [spec_Root.l0] at H
      by_cases c5 : x4_1 ≥ 0
      · rw [if_pos c5] at H
        have c5b0 : decide (0 ≤ x4_1) = true := decide_eq_true c5
        clear c5
        replace H := Option.bind_eq_some_iff.mp H
        obtain ⟨t195, A60, H⟩ := H
        replace H : ((spec_Add.f k1 x3_1 t195).bind fun t198 => ((spec_Mul.f k1 t198 t198).bind fun t201 => ((spec_Cmp.f k1 t201 l0).bind fun t204 => (if t204 ≤ 0 then (spec_Root.l0 k1 l0 t198 (wrap64 (x4_1 - 1))) else (spec_Root.l0 k1 l0 x3_1 (wrap64 (x4_1 - 1))))))) = some r := H
        have A6 := Aside0.mk A60
        clear A60
        replace H := Option.bind_eq_some_iff.mp H
        obtain ⟨t198, A70, H⟩ := H
        replace H : ((spec_Mul.f k1 t198 t198).bind fun t201 => ((spec_Cmp.f k1 t201 l0).bind fun t204 => (if t204 ≤ 0 then (spec_Root.l0 k1 l0 t198 (wrap64 (x4_1 - 1))) else (spec_Root.l0 k1 l0 x3_1 (wrap64 (x4_1 - 1)))))) = some r := H
        have A7 := Aside0.mk A70
        clear A70
        replace H := Option.bind_eq_some_iff.mp H
        obtain ⟨t201, A80, H⟩ := H
        replace H : ((spec_Cmp.f k1 t201 l0).bind fun t204 => (if t204 ≤ 0 then (spec_Root.l0 k1 l0 t198 (wrap64 (x4_1 - 1))) else (spec_Root.l0 k1 l0 x3_1 (wrap64 (x4_1 - 1))))) = some r := H
        have A8 := Aside0.mk A80
        clear A80
        replace H := Option.bind_eq_some_iff.mp H
        obtain ⟨t204, A90, H⟩ := H
        replace H : (if t204 ≤ 0 then (spec_Root.l0 k1 l0 t198 (wrap64 (x4_1 - 1))) else (spec_Root.l0 k1 l0 x3_1 (wrap64 (x4_1 - 1)))) = some r := H
        have A9 := Aside0.mk A90
        clear A90
        by_cases c10 : t204 ≤ 0
        · rw [if_pos c10] at H
          have c10b0 : decide (t204 ≤ 0) = true := decide_eq_true c10
          clear c10
          have H' := Aside0.mk H
          clear H
          go_wp2_with (first | ((with_reducible refine gate_callee (f := 67) rfl ?_); refine goesL_ (some 17) rfl rfl Tryz.func67 (by kernel_rfl) rfl #[.int .i64 x4_1] rfl (by (try simp only [List.map_toArray, List.map_cons, List.map_nil]); first | done | rfl | (simp only [List.length_drop, List.length_take]; rfl)) ?_; (with_reducible refine (spec_Bit.calls x4_1 t195 _ A6.out).mono ?_); rintro e w11 ⟨v196, rfl, ho0, hb⟩; refine ⟨_, rfl, ?_⟩; have n0_ := Aside0.mk (Kd.V_elder' (by (with_reducible repeat (first | apply Kd.V_alloc | apply Kd.V_drewN | apply Kd.V_drew)); exact HO_3.out) (Kd.R_base ho0) hb); have n1_ := Aside0.mk (Kd.R_lower (Kd.R_newM (M := fun k_ => (w.heap.size ≤ k_)) ho0 (below_size (by repeat (first | (with_reducible first | exact HB.out | apply below_alloc | apply pw_below_drewN | apply below_drew1) | exact HB.out))) (fun k_ h_ => h_)) (below_size (by repeat (first | (with_reducible first | exact HB.out | apply below_alloc | apply pw_below_drewN | apply below_drew1) | exact HB.out)))); have n2_ := Aside0.mk (below_step (by repeat (first | (with_reducible first | exact HB.out | apply below_alloc | apply pw_below_drewN | apply below_drew1) | exact HB.out)) hb); clear HO_3; clear HB; have HO_3 := n0_; have HO197 := n1_; have HB := n2_; clear n0_ n1_ n2_; (try clear hb); (try clear hb2); (try clear hk); (try clear hi); (try clear ho0); obtain ⟨Ao12, co12, eo12⟩ := Kd.V_slice HO_3.out; subst eo12; obtain ⟨Ao13, co13, eo13⟩ := Kd.R_slice HO197.out; subst eo13) | ((with_reducible refine gate_callee (f := 55) rfl ?_); refine goesL_ (some 18) rfl rfl Tryz.func55 (by kernel_rfl) rfl #[.slice Ao12 x3_1.length co12, .slice Ao13 t195.length co13] rfl (by (try simp only [List.map_toArray, List.map_cons, List.map_nil]); first | done | rfl | (simp only [List.length_drop, List.length_take]; rfl)) ?_; (with_reducible refine (spec_Add.calls k1 _ _ x3_1 _ _ t195 t198 _ ?side1 ?side2 ?side3 ?side4 A7.out).mono ?_); (case side1 => repeat (first | exact (Kd.V_reads' HO_3.out).2.2 | (with_reducible refine Kd.C_alloc ?_ _) | (with_reducible refine Kd.C_drewN ?_ _) | (with_reducible refine Kd.C_drew ?_))); (case side2 => exact (Kd.V_reads' HO_3.out).2.1); (case side3 => repeat (first | exact (Kd.R_reads' HO197.out).2.2 | (with_reducible refine Kd.C_alloc ?_ _) | (with_reducible refine Kd.C_drewN ?_ _) | (with_reducible refine Kd.C_drew ?_))); (case side4 => exact (Kd.R_reads' HO197.out).2.1); rintro e w14 ⟨v199, rfl, ho0, hb⟩; refine ⟨_, rfl, ?_⟩; have n0_ := Aside0.mk (Kd.V_below (by (with_reducible repeat (first | apply Kd.V_alloc | apply Kd.V_drewN | apply Kd.V_drew)); exact HO_3.out) hb); have n1_ := Aside0.mk (Kd.R_below (by (with_reducible repeat (first | apply Kd.R_alloc | apply Kd.R_drewN | apply Kd.R_drew)); exact HO197.out) hb); have n2_ := Aside0.mk (Kd.V_lower (Kd.V_mono (ok' := fun k_ => (w.heap.size ≤ k_) ∧ some k_ ≠ (.slice Ao13 t195.length co13 : Value).ownBlock) ho0 (fun k_ hk_ => ⟨(Nat.le_trans (below_size (by repeat (first | (with_reducible first | exact HB.out | apply below_alloc | apply pw_below_drewN | apply below_drew1) | exact HB.out))) hk_), (Kd.fresh' (Kd.R_lt (by (with_reducible repeat (first | apply Kd.R_alloc | apply Kd.R_drewN | apply Kd.R_drew)); exact HO197.out)) k_ hk_)⟩)) (below_size (by repeat (first | (with_reducible first | exact HB.out | apply below_alloc | apply pw_below_drewN | apply below_drew1) | exact HB.out)))); have n3_ := Aside0.mk (below_step (by repeat (first | (with_reducible first | exact HB.out | apply below_alloc | apply pw_below_drewN | apply below_drew1) | exact HB.out)) hb); clear HO_3; clear HO197; clear HB; have HO_3 := n0_; have HO197 := n1_; have HO200 := n2_; have HB := n3_; clear n0_ n1_ n2_ n3_; (try clear hb); (try clear hb2); (try clear hk); (try clear hi); (try clear ho0); obtain ⟨Ao15, co15, eo15⟩ := Kd.V_slice HO200.out; subst eo15) | ((with_reducible refine gate_callee (f := 24) rfl ?_); refine goesL_ (some 21) rfl rfl Tryz.func24 (by kernel_rfl) rfl #[.slice Ao15 t198.length co15, .slice Ao15 t198.length co15] rfl (by (try simp only [List.map_toArray, List.map_cons, List.map_nil]); first | done | rfl | (simp only [List.length_drop, List.length_take]; rfl)) ?_; (with_reducible refine (spec_Mul.calls k1 _ _ t198 _ _ t198 t201 _ ?side1 ?side2 ?side3 ?side4 A8.out).mono ?_); (case side1 => repeat (first | exact (Kd.V_reads' HO200.out).2.2 | (with_reducible refine Kd.C_alloc ?_ _) | (with_reducible refine Kd.C_drewN ?_ _) | (with_reducible refine Kd.C_drew ?_))); (case side2 => exact (Kd.V_reads' HO200.out).2.1); (case side3 => repeat (first | exact (Kd.V_reads' HO200.out).2.2 | (with_reducible refine Kd.C_alloc ?_ _) | (with_reducible refine Kd.C_drewN ?_ _) | (with_reducible refine Kd.C_drew ?_))); (case side4 => exact (Kd.V_reads' HO200.out).2.1); rintro e w16 ⟨v202, rfl, ho0, hb⟩; refine ⟨_, rfl, ?_⟩; have n0_ := Aside0.mk (Kd.V_below (by (with_reducible repeat (first | apply Kd.V_alloc | apply Kd.V_drewN | apply Kd.V_drew)); exact HO_3.out) hb); have n1_ := Aside0.mk (Kd.R_below (by (with_reducible repeat (first | apply Kd.R_alloc | apply Kd.R_drewN | apply Kd.R_drew)); exact HO197.out) hb); have n2_ := Aside0.mk (Kd.V_below (by (with_reducible repeat (first | apply Kd.V_alloc | apply Kd.V_drewN | apply Kd.V_drew)); exact HO200.out) hb); have n3_ := Aside0.mk (Kd.V_lower (Kd.V_mono (ok' := fun k_ => (w.heap.size ≤ k_) ∧ some k_ ≠ (.slice Ao13 t195.length co13 : Value).ownBlock) ho0 (fun k_ hk_ => ⟨(Nat.le_trans (below_size (by repeat (first | (with_reducible first | exact HB.out | apply below_alloc | apply pw_below_drewN | apply below_drew1) | exact HB.out))) hk_), (Kd.fresh' (Kd.R_lt (by (with_reducible repeat (first | apply Kd.R_alloc | apply Kd.R_drewN | apply Kd.R_drew)); exact HO197.out)) k_ hk_)⟩)) (below_size (by repeat (first | (with_reducible first | exact HB.out | apply below_alloc | apply pw_below_drewN | apply below_drew1) | exact HB.out)))); have n4_ := Aside0.mk (below_step (by repeat (first | (with_reducible first | exact HB.out | apply below_alloc | apply pw_below_drewN | apply below_drew1) | exact HB.out)) hb); clear HO_3; clear HO197; clear HO200; clear HB; have HO_3 := n0_; have HO197 := n1_; have HO200 := n2_; have HO203 := n3_; have HB := n4_; clear n0_ n1_ n2_ n3_ n4_; (try clear hb); (try clear hb2); (try clear hk); (try clear hi); (try clear ho0); obtain ⟨Ao17, co17, eo17⟩ := Kd.V_slice HO203.out; subst eo17) | ((with_reducible refine gate_callee (f := 43) rfl ?_); refine goesL_ (some 23) rfl rfl Tryz.func43 (by kernel_rfl) rfl #[.slice Ao17 t201.length co17, .slice A0 l0.length c0] rfl (by (try simp only [List.map_toArray, List.map_cons, List.map_nil]); first | done | rfl | (simp only [List.length_drop, List.length_take]; rfl)) ?_; (with_reducible refine (spec_Cmp.calls k1 _ _ t201 _ _ l0 t204 _ ?side1 ?side2 ?side3 ?side4 A9.out).mono ?_); (case side1 => repeat (first | exact (Kd.V_reads' HO203.out).2.2 | (with_reducible refine Kd.C_alloc ?_ _) | (with_reducible refine Kd.C_drewN ?_ _) | (with_reducible refine Kd.C_drew ?_))); (case side2 => exact (Kd.V_reads' HO203.out).2.1); (case side3 => repeat (first | exact (Kd.C_below HR0.out HB.out) | (with_reducible refine Kd.C_alloc ?_ _) | (with_reducible refine Kd.C_drewN ?_ _) | (with_reducible refine Kd.C_drew ?_))); (case side4 => exact HC0.out); rintro e w' ⟨rfl, ⟨nd, rfl⟩⟩; refine ⟨_, rfl, ?_⟩))
          go_roundg k1
          case measure => have := HK1.out; omega
          case rel => exact ⟨(t198), (wrap64 (x4_1 - 1)), (by first | rfl | (simp; done) | (simp [*]; done)), H', ⟨by have := HK1.out; omega⟩, ⟨by (with_reducible repeat (first | apply Kd.V_alloc | apply Kd.V_drewN | apply Kd.V_drew)); exact Kd.V_mono HO200.out (fun _ hk => hk.1)⟩, ⟨by repeat (first | (with_reducible first | exact HB.out | apply below_alloc | apply pw_below_drewN | apply below_drew1) | exact HB.out)⟩⟩
        · rw [if_neg c10] at H
          have c10b0 : decide (t204 ≤ 0) = false := decide_eq_false c10
          clear c10
          have H' := Aside0.mk H
          clear H
          go_wp2_with (first | ((with_reducible refine gate_callee (f := 67) rfl ?_); refine goesL_ (some 17) rfl rfl Tryz.func67 (by kernel_rfl) rfl #[.int .i64 x4_1] rfl (by (try simp only [List.map_toArray, List.map_cons, List.map_nil]); first | done | rfl | (simp only [List.length_drop, List.length_take]; rfl)) ?_; (with_reducible refine (spec_Bit.calls x4_1 t195 _ A6.out).mono ?_); rintro e w18 ⟨v196, rfl, ho0, hb⟩; refine ⟨_, rfl, ?_⟩; have n0_ := Aside0.mk (Kd.V_elder' (by (with_reducible repeat (first | apply Kd.V_alloc | apply Kd.V_drewN | apply Kd.V_drew)); exact HO_3.out) (Kd.R_base ho0) hb); have n1_ := Aside0.mk (Kd.R_lower (Kd.R_newM (M := fun k_ => (w.heap.size ≤ k_)) ho0 (below_size (by repeat (first | (with_reducible first | exact HB.out | apply below_alloc | apply pw_below_drewN | apply below_drew1) | exact HB.out))) (fun k_ h_ => h_)) (below_size (by repeat (first | (with_reducible first | exact HB.out | apply below_alloc | apply pw_below_drewN | apply below_drew1) | exact HB.out)))); have n2_ := Aside0.mk (below_step (by repeat (first | (with_reducible first | exact HB.out | apply below_alloc | apply pw_below_drewN | apply below_drew1) | exact HB.out)) hb); clear HO_3; clear HB; have HO_3 := n0_; have HO197 := n1_; have HB := n2_; clear n0_ n1_ n2_; (try clear hb); (try clear hb2); (try clear hk); (try clear hi); (try clear ho0); obtain ⟨Ao19, co19, eo19⟩ := Kd.V_slice HO_3.out; subst eo19; obtain ⟨Ao20, co20, eo20⟩ := Kd.R_slice HO197.out; subst eo20) | ((with_reducible refine gate_callee (f := 55) rfl ?_); refine goesL_ (some 18) rfl rfl Tryz.func55 (by kernel_rfl) rfl #[.slice Ao19 x3_1.length co19, .slice Ao20 t195.length co20] rfl (by (try simp only [List.map_toArray, List.map_cons, List.map_nil]); first | done | rfl | (simp only [List.length_drop, List.length_take]; rfl)) ?_; (with_reducible refine (spec_Add.calls k1 _ _ x3_1 _ _ t195 t198 _ ?side1 ?side2 ?side3 ?side4 A7.out).mono ?_); (case side1 => repeat (first | exact (Kd.V_reads' HO_3.out).2.2 | (with_reducible refine Kd.C_alloc ?_ _) | (with_reducible refine Kd.C_drewN ?_ _) | (with_reducible refine Kd.C_drew ?_))); (case side2 => exact (Kd.V_reads' HO_3.out).2.1); (case side3 => repeat (first | exact (Kd.R_reads' HO197.out).2.2 | (with_reducible refine Kd.C_alloc ?_ _) | (with_reducible refine Kd.C_drewN ?_ _) | (with_reducible refine Kd.C_drew ?_))); (case side4 => exact (Kd.R_reads' HO197.out).2.1); rintro e w21 ⟨v199, rfl, ho0, hb⟩; refine ⟨_, rfl, ?_⟩; have n0_ := Aside0.mk (Kd.V_below (by (with_reducible repeat (first | apply Kd.V_alloc | apply Kd.V_drewN | apply Kd.V_drew)); exact HO_3.out) hb); have n1_ := Aside0.mk (Kd.R_below (by (with_reducible repeat (first | apply Kd.R_alloc | apply Kd.R_drewN | apply Kd.R_drew)); exact HO197.out) hb); have n2_ := Aside0.mk (Kd.V_lower (Kd.V_mono (ok' := fun k_ => (w.heap.size ≤ k_) ∧ some k_ ≠ (.slice Ao20 t195.length co20 : Value).ownBlock) ho0 (fun k_ hk_ => ⟨(Nat.le_trans (below_size (by repeat (first | (with_reducible first | exact HB.out | apply below_alloc | apply pw_below_drewN | apply below_drew1) | exact HB.out))) hk_), (Kd.fresh' (Kd.R_lt (by (with_reducible repeat (first | apply Kd.R_alloc | apply Kd.R_drewN | apply Kd.R_drew)); exact HO197.out)) k_ hk_)⟩)) (below_size (by repeat (first | (with_reducible first | exact HB.out | apply below_alloc | apply pw_below_drewN | apply below_drew1) | exact HB.out)))); have n3_ := Aside0.mk (below_step (by repeat (first | (with_reducible first | exact HB.out | apply below_alloc | apply pw_below_drewN | apply below_drew1) | exact HB.out)) hb); clear HO_3; clear HO197; clear HB; have HO_3 := n0_; have HO197 := n1_; have HO200 := n2_; have HB := n3_; clear n0_ n1_ n2_ n3_; (try clear hb); (try clear hb2); (try clear hk); (try clear hi); (try clear ho0); obtain ⟨Ao22, co22, eo22⟩ := Kd.V_slice HO200.out; subst eo22) | ((with_reducible refine gate_callee (f := 24) rfl ?_); refine goesL_ (some 21) rfl rfl Tryz.func24 (by kernel_rfl) rfl #[.slice Ao22 t198.length co22, .slice Ao22 t198.length co22] rfl (by (try simp only [List.map_toArray, List.map_cons, List.map_nil]); first | done | rfl | (simp only [List.length_drop, List.length_take]; rfl)) ?_; (with_reducible refine (spec_Mul.calls k1 _ _ t198 _ _ t198 t201 _ ?side1 ?side2 ?side3 ?side4 A8.out).mono ?_); (case side1 => repeat (first | exact (Kd.V_reads' HO200.out).2.2 | (with_reducible refine Kd.C_alloc ?_ _) | (with_reducible refine Kd.C_drewN ?_ _) | (with_reducible refine Kd.C_drew ?_))); (case side2 => exact (Kd.V_reads' HO200.out).2.1); (case side3 => repeat (first | exact (Kd.V_reads' HO200.out).2.2 | (with_reducible refine Kd.C_alloc ?_ _) | (with_reducible refine Kd.C_drewN ?_ _) | (with_reducible refine Kd.C_drew ?_))); (case side4 => exact (Kd.V_reads' HO200.out).2.1); rintro e w23 ⟨v202, rfl, ho0, hb⟩; refine ⟨_, rfl, ?_⟩; have n0_ := Aside0.mk (Kd.V_below (by (with_reducible repeat (first | apply Kd.V_alloc | apply Kd.V_drewN | apply Kd.V_drew)); exact HO_3.out) hb); have n1_ := Aside0.mk (Kd.R_below (by (with_reducible repeat (first | apply Kd.R_alloc | apply Kd.R_drewN | apply Kd.R_drew)); exact HO197.out) hb); have n2_ := Aside0.mk (Kd.V_below (by (with_reducible repeat (first | apply Kd.V_alloc | apply Kd.V_drewN | apply Kd.V_drew)); exact HO200.out) hb); have n3_ := Aside0.mk (Kd.V_lower (Kd.V_mono (ok' := fun k_ => (w.heap.size ≤ k_) ∧ some k_ ≠ (.slice Ao20 t195.length co20 : Value).ownBlock) ho0 (fun k_ hk_ => ⟨(Nat.le_trans (below_size (by repeat (first | (with_reducible first | exact HB.out | apply below_alloc | apply pw_below_drewN | apply below_drew1) | exact HB.out))) hk_), (Kd.fresh' (Kd.R_lt (by (with_reducible repeat (first | apply Kd.R_alloc | apply Kd.R_drewN | apply Kd.R_drew)); exact HO197.out)) k_ hk_)⟩)) (below_size (by repeat (first | (with_reducible first | exact HB.out | apply below_alloc | apply pw_below_drewN | apply below_drew1) | exact HB.out)))); have n4_ := Aside0.mk (below_step (by repeat (first | (with_reducible first | exact HB.out | apply below_alloc | apply pw_below_drewN | apply below_drew1) | exact HB.out)) hb); clear HO_3; clear HO197; clear HO200; clear HB; have HO_3 := n0_; have HO197 := n1_; have HO200 := n2_; have HO203 := n3_; have HB := n4_; clear n0_ n1_ n2_ n3_ n4_; (try clear hb); (try clear hb2); (try clear hk); (try clear hi); (try clear ho0); obtain ⟨Ao24, co24, eo24⟩ := Kd.V_slice HO203.out; subst eo24) | ((with_reducible refine gate_callee (f := 43) rfl ?_); refine goesL_ (some 23) rfl rfl Tryz.func43 (by kernel_rfl) rfl #[.slice Ao24 t201.length co24, .slice A0 l0.length c0] rfl (by (try simp only [List.map_toArray, List.map_cons, List.map_nil]); first | done | rfl | (simp only [List.length_drop, List.length_take]; rfl)) ?_; (with_reducible refine (spec_Cmp.calls k1 _ _ t201 _ _ l0 t204 _ ?side1 ?side2 ?side3 ?side4 A9.out).mono ?_); (case side1 => repeat (first | exact (Kd.V_reads' HO203.out).2.2 | (with_reducible refine Kd.C_alloc ?_ _) | (with_reducible refine Kd.C_drewN ?_ _) | (with_reducible refine Kd.C_drew ?_))); (case side2 => exact (Kd.V_reads' HO203.out).2.1); (case side3 => repeat (first | exact (Kd.C_below HR0.out HB.out) | (with_reducible refine Kd.C_alloc ?_ _) | (with_reducible refine Kd.C_drewN ?_ _) | (with_reducible refine Kd.C_drew ?_))); (case side4 => exact HC0.out); rintro e w' ⟨rfl, ⟨nd, rfl⟩⟩; refine ⟨_, rfl, ?_⟩))
          go_roundg k1
          case measure => have := HK1.out; omega
          case rel => exact ⟨(x3_1), (wrap64 (x4_1 - 1)), (by first | rfl | (simp; done) | (simp [*]; done)), H', ⟨by have := HK1.out; omega⟩, ⟨by (with_reducible repeat (first | apply Kd.V_alloc | apply Kd.V_drewN | apply Kd.V_drew)); exact Kd.V_mono HO_3.out (fun _ hk => hk.1)⟩, ⟨by repeat (first | (with_reducible first | exact HB.out | apply below_alloc | apply pw_below_drewN | apply below_drew1) | exact HB.out)⟩⟩
      · rw [if_neg c5] at H
        have c5b0 : decide (0 ≤ x4_1) = false := decide_eq_false c5
        clear c5
        obtain rfl := Option.some.inj H
        go_wp2
        go_ret
        exact ⟨_, by first | rfl | (simp [errW_none, errW_some] <;> rfl) | (simp [*, errW_none, errW_some] <;> rfl), by (with_reducible repeat (first | apply Kd.V_alloc | apply Kd.V_drewN | apply Kd.V_drew)); exact HO_3.out, by repeat (first | (with_reducible first | exact HB.out | apply below_alloc | apply pw_below_drewN | apply below_drew1) | exact HB.out)⟩
end Go.Proofs.YtefeijofhocnpaaGreatDoor.PSpec
