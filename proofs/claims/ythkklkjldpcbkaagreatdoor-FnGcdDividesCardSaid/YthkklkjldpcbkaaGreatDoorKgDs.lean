/- For the claim of laws.FnGcdDivides: Ds. -/
import Derived.Test.YthkklkjldpcbkaaGreatDoorKgA1
set_option linter.unusedVariables false
set_option linter.unusedSimpArgs false
namespace Go.Proofs.YthkklkjldpcbkaaGreatDoor
def B16 : Nat := 65536
theorem B16_pos : 0 < B16 := by decide
theorem B16_one : 1 < B16 := by decide
def ds (n : Nat) : List Nat := if _h : n = 0 then [] else n % B16 :: ds (n / B16)
termination_by n
decreasing_by exact Nat.div_lt_self (by omega) B16_one
theorem ds_zero : ds 0 = [] := by rw [ds]; simp
theorem ds_pos {n : Nat} (h : n ≠ 0) : ds n = n % B16 :: ds (n / B16) := by rw [ds]; simp [h]
theorem val_ds (n : Nat) : val B16 (ds n) = n := by
 induction n using Nat.strongRecOn with
 | ind n ih =>
  by_cases h : n = 0
  · subst h; rw [ds_zero]; rfl
  ·
   rw [ds_pos h, val_cons, ih (n / B16) (Nat.div_lt_self (by omega) B16_one)]
   exact Nat.mod_add_div n B16
theorem ds_ds (n : Nat) : Digs B16 (ds n) := by
 induction n using Nat.strongRecOn with
 | ind n ih =>
  by_cases h : n = 0
  · subst h; rw [ds_zero]; exact Digs.nil
  ·
   rw [ds_pos h]
   exact Digs.cons (Nat.mod_lt _ B16_pos) (ih (n / B16) (Nat.div_lt_self (by omega) B16_one))
theorem norm16_cons_ne {x : Nat} {xs : List Nat} (h : Norm (x :: xs)) : x + B16 * val B16 xs ≠ 0 := by
 induction xs generalizing x with
 | nil =>
  intro e
  have : x = 0 := by simpa using e
  subst this
  exact h rfl
 | cons y ys ih =>
  have h1 : Norm (y :: ys) := by unfold Norm at h ⊢; rwa [List.getLast?_cons_cons] at h
  have := ih h1
  intro e
  apply this
  rw [val_cons] at e
  have hb := B16_pos
  have h2 : B16 * (y + B16 * val B16 ys) = 0 := by omega
  rcases Nat.mul_eq_zero.1 h2 with h3 | h3
  · omega
  · exact h3
theorem ds_val {xs : List Nat} (hd : Digs B16 xs) (hn : Norm xs) : ds (val B16 xs) = xs := by
 induction xs with
 | nil => rw [val_nil, ds_zero]
 | cons x xs ih =>
  have hne := norm16_cons_ne hn
  rw [val_cons, ds_pos hne]
  have h1 : (x + B16 * val B16 xs) % B16 = x := by rw [Nat.add_mul_mod_self_left]; exact Nat.mod_eq_of_lt hd.head
  have h2 : (x + B16 * val B16 xs) / B16 = val B16 xs := by rw [Nat.add_mul_div_left _ _ B16_pos, Nat.div_eq_of_lt hd.head, Nat.zero_add]
  rw [h1, h2]
  congr 1
  refine ih hd.tail ?_
  cases xs with
  | nil => exact Norm.nil
  | cons y ys => unfold Norm at hn ⊢; rwa [List.getLast?_cons_cons] at hn
theorem ds_len_eq_zero {n : Nat} : (ds n).length = 0 ↔ n = 0 := by
 constructor
 ·
  intro h
  have h1 := val_ds n
  rw [List.eq_nil_of_length_eq_zero h] at h1
  exact h1.symm
 · intro h; subst h; rw [ds_zero]; rfl
theorem ds_len_of_lt {n k : Nat} (h : n < B16 ^ k) : (ds n).length ≤ k := by
 induction k generalizing n with
 | zero =>
  have : n = 0 := by simpa using h
  subst this; rw [ds_zero]; simp
 | succ k ih =>
  by_cases h0 : n = 0
  · subst h0; rw [ds_zero]; simp
  ·
   rw [ds_pos h0]
   have : n / B16 < B16 ^ k := by
    rw [Nat.div_lt_iff_lt_mul B16_pos, ← Nat.pow_succ]; exact h
   have := ih this
   simp; omega
theorem le_of_ds_len {n k : Nat} (h : (ds n).length = k + 1) : B16 ^ k ≤ n := by
 rcases Nat.lt_or_ge n (B16 ^ k) with h1 | h1
 · have := ds_len_of_lt h1; omega
 · exact h1
end Go.Proofs.YthkklkjldpcbkaaGreatDoor
