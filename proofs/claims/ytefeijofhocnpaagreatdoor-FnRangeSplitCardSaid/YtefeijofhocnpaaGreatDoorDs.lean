/- For the claim of laws.FnRange: Ds. -/
import Derived.Test.YtefeijofhocnpaaGreatDoorA1
set_option linter.unusedVariables false
set_option linter.unusedSimpArgs false
/- The same in base 2^16. -/
namespace Go.Proofs.YtefeijofhocnpaaGreatDoor

def B16 : Nat := 65536
theorem B16_eq : B16 = 65536 := rfl
theorem B16_pos : 0 < B16 := by decide
theorem B16_one : 1 < B16 := by decide

/-- the digits of n in base 2^16, the lowest first, without zeros at the end -/
def ds (n : Nat) : List Nat := if _h : n = 0 then [] else n % B16 :: ds (n / B16)
termination_by n
decreasing_by exact Nat.div_lt_self (by omega) B16_one

theorem ds_zero : ds 0 = [] := by rw [ds]; simp
theorem ds_pos {n : Nat} (h : n ≠ 0) : ds n = n % B16 :: ds (n / B16) := by rw [ds]; simp [h]

theorem val_ds (n : Nat) : val B16 (ds n) = n := by
  induction n using Nat.strongRecOn with
  | ind n ih =>
    by_cases h : n = 0
    · subst h; rw [ds_zero]; rfl
    · rw [ds_pos h, val_cons, ih (n / B16) (Nat.div_lt_self (by omega) B16_one)]
      exact Nat.mod_add_div n B16

theorem ds_ds (n : Nat) : Digs B16 (ds n) := by
  induction n using Nat.strongRecOn with
  | ind n ih =>
    by_cases h : n = 0
    · subst h; rw [ds_zero]; exact Digs.nil
    · rw [ds_pos h]
      exact Digs.cons (Nat.mod_lt _ B16_pos) (ih (n / B16) (Nat.div_lt_self (by omega) B16_one))

theorem norm16_cons_ne {x : Nat} {xs : List Nat} (h : Norm (x :: xs)) : x + B16 * val B16 xs ≠ 0 := by
  induction xs generalizing x with
  | nil =>
    intro e
    have : x = 0 := by simpa using e
    subst this
    exact h rfl
  | cons y ys ih =>
    have h1 : Norm (y :: ys) := by unfold Norm at h ⊢; rwa [List.getLast?_cons_cons] at h
    have := ih h1
    intro e
    apply this
    rw [val_cons] at e
    have hb := B16_pos
    have h2 : B16 * (y + B16 * val B16 ys) = 0 := by omega
    rcases Nat.mul_eq_zero.1 h2 with h3 | h3
    · omega
    · exact h3

theorem ds_val {xs : List Nat} (hd : Digs B16 xs) (hn : Norm xs) : ds (val B16 xs) = xs := by
  induction xs with
  | nil => rw [val_nil, ds_zero]
  | cons x xs ih =>
    have hne := norm16_cons_ne hn
    rw [val_cons, ds_pos hne]
    have h1 : (x + B16 * val B16 xs) % B16 = x := by rw [Nat.add_mul_mod_self_left]; exact Nat.mod_eq_of_lt hd.head
    have h2 : (x + B16 * val B16 xs) / B16 = val B16 xs := by rw [Nat.add_mul_div_left _ _ B16_pos, Nat.div_eq_of_lt hd.head, Nat.zero_add]
    rw [h1, h2]
    congr 1
    refine ih hd.tail ?_
    cases xs with
    | nil => exact Norm.nil
    | cons y ys => unfold Norm at hn ⊢; rwa [List.getLast?_cons_cons] at hn

theorem norm_ds16 (n : Nat) : Norm (ds n) := by
  induction n using Nat.strongRecOn with
  | ind n ih =>
    by_cases h : n = 0
    · subst h; rw [ds_zero]; exact Norm.nil
    · rw [ds_pos h]
      have h1 := ih (n / B16) (Nat.div_lt_self (by omega) B16_one)
      cases hq : ds (n / B16) with
      | nil =>
        have h2 := val_ds (n / B16)
        rw [hq] at h2
        have h3 := Nat.mod_add_div n B16
        rw [← h2] at h3
        have : n % B16 ≠ 0 := by intro e; rw [e] at h3; simp at h3; omega
        unfold Norm; simp [this]
      | cons y ys =>
        rw [hq] at h1
        unfold Norm at h1 ⊢; rwa [List.getLast?_cons_cons]

/-- a list with its zeros at the end struck -/
theorem ds_take {xs : List Nat} (hd : Digs B16 xs) (k : Nat) (hv : val B16 (xs.take k) = val B16 xs) (hn : Norm (xs.take k)) : ds (val B16 xs) = xs.take k := by
  rw [← hv]; exact ds_val (hd.take k) hn

theorem ds_prefix {xs : List Nat} (hd : Digs B16 xs) : ∃ k, k ≤ xs.length ∧ ds (val B16 xs) = xs.take k ∧ val B16 (xs.take k) = val B16 xs := by
  induction xs with
  | nil => exact ⟨0, Nat.le_refl _, by rw [val_nil, ds_zero]; rfl, rfl⟩
  | cons x xs ih =>
    obtain ⟨k, h1, h2, h3⟩ := ih hd.tail
    by_cases h0 : x + B16 * val B16 xs = 0
    · refine ⟨0, Nat.zero_le _, by rw [val_cons, h0, ds_zero]; rfl, by rw [val_cons, h0]; rfl⟩
    · refine ⟨k + 1, by simp; omega, ?_, by rw [List.take_succ_cons, val_cons, val_cons, h3]⟩
      rw [val_cons, ds_pos h0, List.take_succ_cons]
      have e1 : (x + B16 * val B16 xs) % B16 = x := by rw [Nat.add_mul_mod_self_left]; exact Nat.mod_eq_of_lt hd.head
      have e2 : (x + B16 * val B16 xs) / B16 = val B16 xs := by rw [Nat.add_mul_div_left _ _ B16_pos, Nat.div_eq_of_lt hd.head, Nat.zero_add]
      rw [e1, e2, h2]

theorem ds_len_le {xs : List Nat} (hd : Digs B16 xs) : (ds (val B16 xs)).length ≤ xs.length := by
  obtain ⟨k, h1, h2, _⟩ := ds_prefix hd
  rw [h2, List.length_take]; omega
theorem ds_eq_take {xs : List Nat} (hd : Digs B16 xs) : ds (val B16 xs) = xs.take (ds (val B16 xs)).length := by
  obtain ⟨k, h1, h2, _⟩ := ds_prefix hd
  conv => lhs; rw [h2]
  congr 1
  rw [h2, List.length_take]; omega

theorem ds_len_eq_zero {n : Nat} : (ds n).length = 0 ↔ n = 0 := by
  constructor
  · intro h
    have h1 := val_ds n
    rw [List.eq_nil_of_length_eq_zero h] at h1
    exact h1.symm
  · intro h; subst h; rw [ds_zero]; rfl

/-- what is below the power has at most so many digits -/
theorem ds_len_of_lt {n k : Nat} (h : n < B16 ^ k) : (ds n).length ≤ k := by
  induction k generalizing n with
  | zero =>
    have : n = 0 := by simpa using h
    subst this; rw [ds_zero]; simp
  | succ k ih =>
    by_cases h0 : n = 0
    · subst h0; rw [ds_zero]; simp
    · rw [ds_pos h0]
      have : n / B16 < B16 ^ k := by
        rw [Nat.div_lt_iff_lt_mul B16_pos, ← Nat.pow_succ]; exact h
      have := ih this
      simp; omega
theorem lt_of_ds_len (n : Nat) : n < B16 ^ (ds n).length := by
  have := val_lt (ds n) (ds_ds n)
  rwa [val_ds] at this
/-- a number of k digits is not below the power k - 1 -/
theorem le_of_ds_len {n k : Nat} (h : (ds n).length = k + 1) : B16 ^ k ≤ n := by
  rcases Nat.lt_or_ge n (B16 ^ k) with h1 | h1
  · have := ds_len_of_lt h1; omega
  · exact h1
theorem ds_len_mono {m n : Nat} (h : m ≤ n) : (ds m).length ≤ (ds n).length :=
  ds_len_of_lt (Nat.lt_of_le_of_lt h (lt_of_ds_len n))
theorem ds_small {n : Nat} (h : n < B16) (h0 : n ≠ 0) : ds n = [n] := by
  rw [ds_pos h0, Nat.mod_eq_of_lt h, Nat.div_eq_of_lt h, ds_zero]

/-- digits with zeros behind them, to a length -/
def pad16 (k n : Nat) : List Nat := ds n ++ List.replicate (k - (ds n).length) 0
end Go.Proofs.YtefeijofhocnpaaGreatDoor
