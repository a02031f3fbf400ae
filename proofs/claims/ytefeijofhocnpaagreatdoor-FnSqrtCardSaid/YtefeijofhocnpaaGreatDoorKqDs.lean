/- For the claim of laws.The greatest number whose square is at most x (FnSqrt).: Ds. -/
import Derived.Test.YtefeijofhocnpaaGreatDoorKqA1
set_option linter.unusedVariables false
set_option linter.unusedSimpArgs false
namespace Go.Proofs.YtefeijofhocnpaaGreatDoor
def B16 : Nat := 65536
theorem B16_eq : B16 = 65536 := rfl
theorem B16_pos : 0 < B16 := by decide
theorem B16_one : 1 < B16 := by decide
def ds (n : Nat) : List Nat := if _h : n = 0 then [] else n % B16 :: ds (n / B16)
termination_by n
decreasing_by exact Nat.div_lt_self (by omega) B16_one
theorem ds_zero : ds 0 = [] := by rw [ds]; simp
theorem ds_pos {n : Nat} (h : n ≠ 0) : ds n = n % B16 :: ds (n / B16) := by rw [ds]; simp [h]
theorem val_ds (n : Nat) : val B16 (ds n) = n := by
  induction n using Nat.strongRecOn with
  | ind n ih =>
    by_cases h : n = 0
    · subst h; rw [ds_zero]; rfl
    · rw [ds_pos h, val_cons, ih (n / B16) (Nat.div_lt_self (by omega) B16_one)]
      exact Nat.mod_add_div n B16
theorem ds_ds (n : Nat) : Digs B16 (ds n) := by
  induction n using Nat.strongRecOn with
  | ind n ih =>
    by_cases h : n = 0
    · subst h; rw [ds_zero]; exact Digs.nil
    · rw [ds_pos h]
      exact Digs.cons (Nat.mod_lt _ B16_pos) (ih (n / B16) (Nat.div_lt_self (by omega) B16_one))
theorem norm16_cons_ne {x : Nat} {xs : List Nat} (h : Norm (x :: xs)) : x + B16 * val B16 xs ≠ 0 := by
  induction xs generalizing x with
  | nil =>
    intro e
    have : x = 0 := by simpa using e
    subst this
    exact h rfl
  | cons y ys ih =>
    have h1 : Norm (y :: ys) := by unfold Norm at h ⊢; rwa [List.getLast?_cons_cons] at h
    have := ih h1
    intro e
    apply this
    rw [val_cons] at e
    have hb := B16_pos
    have h2 : B16 * (y + B16 * val B16 ys) = 0 := by omega
    rcases Nat.mul_eq_zero.1 h2 with h3 | h3
    · omega
    · exact h3
theorem ds_val {xs : List Nat} (hd : Digs B16 xs) (hn : Norm xs) : ds (val B16 xs) = xs := by
  induction xs with
  | nil => rw [val_nil, ds_zero]
  | cons x xs ih =>
    have hne := norm16_cons_ne hn
    rw [val_cons, ds_pos hne]
    have h1 : (x + B16 * val B16 xs) % B16 = x := by rw [Nat.add_mul_mod_self_left]; exact Nat.mod_eq_of_lt hd.head
    have h2 : (x + B16 * val B16 xs) / B16 = val B16 xs := by rw [Nat.add_mul_div_left _ _ B16_pos, Nat.div_eq_of_lt hd.head, Nat.zero_add]
    rw [h1, h2]
    congr 1
    refine ih hd.tail ?_
    cases xs with
    | nil => exact Norm.nil
    | cons y ys => unfold Norm at hn ⊢; rwa [List.getLast?_cons_cons] at hn
theorem ds_len_of_lt {n k : Nat} (h : n < B16 ^ k) : (ds n).length ≤ k := by
  induction k generalizing n with
  | zero =>
    have : n = 0 := by simpa using h
    subst this; rw [ds_zero]; simp
  | succ k ih =>
    by_cases h0 : n = 0
    · subst h0; rw [ds_zero]; simp
    · rw [ds_pos h0]
      have : n / B16 < B16 ^ k := by
        rw [Nat.div_lt_iff_lt_mul B16_pos, ← Nat.pow_succ]; exact h
      have := ih this
      simp; omega
theorem lt_of_ds_len (n : Nat) : n < B16 ^ (ds n).length := by
  have := val_lt (ds n) (ds_ds n)
  rwa [val_ds] at this
theorem le_of_ds_len {n k : Nat} (h : (ds n).length = k + 1) : B16 ^ k ≤ n := by
  rcases Nat.lt_or_ge n (B16 ^ k) with h1 | h1
  · have := ds_len_of_lt h1; omega
  · exact h1
theorem ds_len_mono {m n : Nat} (h : m ≤ n) : (ds m).length ≤ (ds n).length :=
  ds_len_of_lt (Nat.lt_of_le_of_lt h (lt_of_ds_len n))
end Go.Proofs.YtefeijofhocnpaaGreatDoor
