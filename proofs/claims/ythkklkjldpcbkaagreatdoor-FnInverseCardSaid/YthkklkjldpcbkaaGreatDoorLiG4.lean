/- For the claim of laws.FnInverse: SpecP. -/
import Derived.Test.YthkklkjldpcbkaaGreatDoorLiL1
import Derived.Test.YthkklkjldpcbkaaGreatDoorLiD5
import Derived.Deep.DeepCutAuto
set_option linter.unusedVariables false
set_option linter.unusedSimpArgs false
namespace Go.Proofs.YthkklkjldpcbkaaGreatDoor
open Go.RowKit Go.Proofs.YthkklkjldpcbkaaGreatDoor.PSpec Go.Proofs.YthkklkjldpcbkaaGreatDoorW.PrintWords Go.Proofs.YthkklkjldpcbkaaGreatDoorW.PrintLast Go.Proofs.YthkklkjldpcbkaaGreatDoorW.PrintMore
theorem one_sp (v : Value) (X : Nat) (w : World) (h : SpN w v X) (hb : (ds X).length <= 1000000) : Calls Tryz.prog 23 #[v] w fun e w' => e = .returned (.bool (decide (X = 1))) /\ Upd NoF w w' := by
 obtain ⟨A, c, rfl, a1, a2⟩ := h
 have hk : spec_One.f (ints (ds X)) = some (decide (X = 1)) := by
  unfold spec_One.f
  rw [Zf]
  have hv := val_ds X
  match hds : ds X with
  | [] =>
   rw [hds] at hv
   have : X = 0 := by rw [<- hv]; rfl
   rw [if_neg (by simp), decide_eq_false (by omega)]
  | [x] =>
   rw [hds] at hv
   have hx : x = X := by rw [<- hv]; simp [val]
   rw [if_pos (by simp), if_pos (by simp)]
   congr 1
   subst hx
   by_cases h1 : x = 1
   . rw [decide_eq_true h1]; subst h1; rfl
   . rw [decide_eq_false h1]; exact beq_eq_false_iff_ne.2 (by show (x : Int) ≠ 1; omega)
  | x :: y :: r =>
   have hl : (ds X).length = r.length + 1 + 1 := by rw [hds]; rfl
   have h1 := le_of_ds_len hl
   have h2 : B16 ^ 1 <= B16 ^ (r.length + 1) := Nat.pow_le_pow_right B16_pos (by omega)
   have h3 : B16 ^ 1 = 65536 := rfl
   rw [if_neg (by simp only [List.length_cons]; omega), decide_eq_false (by omega)]
 have h := spec_One.calls A c (ints (ds X)) _ w (by rw [Zf]; exact a2) (by rw [Zf]; exact a1) hk
 rw [Zf] at h
 exact h.mono (fun e w' h => ⟨h.1, by first | exact Upd.ofBelow h.2 | (obtain ⟨n, hn⟩ := h.2; exact hn ▸ (Upd.refl NoF w).drewN n)⟩)
theorem emod_digit (X : Int) (d : Nat) (h0 : 0 < d) : X % (d : Int) = if X < 0 /\ X.natAbs % d ≠ 0 then ((d - X.natAbs % d : Nat) : Int) else ((X.natAbs % d : Nat) : Int) := by
 have hlt := Nat.mod_lt X.natAbs h0
 have hd := Nat.div_add_mod X.natAbs d
 generalize X.natAbs % d = r at *
 by_cases hX : X < 0
 .
  have e : X = -((d : Int) * ((X.natAbs / d : Nat) : Int) + (r : Int)) := by rw [<- Int.natCast_mul, <- Int.natCast_add, hd]; omega
  generalize X.natAbs / d = k at *
  by_cases hr : r = 0
  .
   rw [if_neg (fun h => h.2 hr), e, hr]
   simp
  .
   rw [if_pos ⟨hX, hr⟩, e]
   rw [show -((d : Int) * (k : Int) + (r : Int)) = ((d : Int) - (r : Int)) + (d : Int) * (-(k : Int) - 1) by grind, Int.add_mul_emod_self_left, Int.emod_eq_of_lt (by omega) (by omega)]
   omega
 .
  rw [if_neg (fun h => hX h.1)]
  have e : X = (d : Int) * ((X.natAbs / d : Nat) : Int) + (r : Int) := by rw [<- Int.natCast_mul, <- Int.natCast_add, hd]; omega
  generalize X.natAbs / d = k at *
  rw [e, Int.add_comm, Int.add_mul_emod_self_left, Int.emod_eq_of_lt (by omega) (by omega)]
end Go.Proofs.YthkklkjldpcbkaaGreatDoor
