/- For the claim of laws.FnInverse: Ds, DmM. -/
import Derived.Test.YthkklkjldpcbkaaGreatDoorLiA1
set_option linter.unusedVariables false
set_option linter.unusedSimpArgs false
namespace Go.Proofs.YthkklkjldpcbkaaGreatDoor
def B16 : Nat := 65536
theorem B16_eq : B16 = 65536 := rfl
theorem B16_pos : 0 < B16 := by decide
theorem B16_one : 1 < B16 := by decide
def ds (n : Nat) : List Nat := if _h : n = 0 then [] else n % B16 :: ds (n / B16)
termination_by n
decreasing_by exact Nat.div_lt_self (by omega) B16_one
theorem ds_zero : ds 0 = [] := by rw [ds]; simp
theorem ds_pos {n : Nat} (h : n ≠ 0) : ds n = n % B16 :: ds (n / B16) := by rw [ds]; simp [h]
theorem val_ds (n : Nat) : val B16 (ds n) = n := by
 induction n using Nat.strongRecOn with
 | ind n ih =>
  by_cases h : n = 0
  . subst h; rw [ds_zero]; rfl
  .
   rw [ds_pos h, Ye, ih (n / B16) (Nat.div_lt_self (by omega) B16_one)]
   exact Nat.mod_add_div n B16
theorem ds_ds (n : Nat) : Digs B16 (ds n) := by
 induction n using Nat.strongRecOn with
 | ind n ih =>
  by_cases h : n = 0
  . subst h; rw [ds_zero]; exact Digs.nil
  .
   rw [ds_pos h]
   exact Digs.cons (Nat.mod_lt _ B16_pos) (ih (n / B16) (Nat.div_lt_self (by omega) B16_one))
theorem norm16_cons_ne {x : Nat} {xs : List Nat} (h : Norm (x :: xs)) : x + B16 * val B16 xs ≠ 0 := by
 induction xs generalizing x with
 | nil =>
  intro e
  have : x = 0 := by simpa using e
  subst this
  exact h rfl
 | cons y ys ih =>
  have h1 : Norm (y :: ys) := by unfold Norm at h ⊢; rwa [List.getLast?_cons_cons] at h
  have := ih h1
  intro e
  apply this
  rw [Ye] at e
  have hb := B16_pos
  have h2 : B16 * (y + B16 * val B16 ys) = 0 := by omega
  rcases Nat.mul_eq_zero.1 h2 with h3 | h3
  . omega
  . exact h3
theorem ds_val {xs : List Nat} (hd : Digs B16 xs) (hn : Norm xs) : ds (val B16 xs) = xs := by
 induction xs with
 | nil => rw [val_nil, ds_zero]
 | cons x xs ih =>
  have hne := norm16_cons_ne hn
  rw [Ye, ds_pos hne]
  have h1 : (x + B16 * val B16 xs) % B16 = x := by rw [Nat.add_mul_mod_self_left]; exact Nat.mod_eq_of_lt hd.head
  have h2 : (x + B16 * val B16 xs) / B16 = val B16 xs := by rw [Nat.add_mul_div_left _ _ B16_pos, Nat.div_eq_of_lt hd.head, Nat.zero_add]
  rw [h1, h2]
  congr 1
  refine ih hd.tail ?_
  cases xs with
  | nil => exact Norm.nil
  | cons y ys => unfold Norm at hn ⊢; rwa [List.getLast?_cons_cons] at hn
theorem ds_len_eq_zero {n : Nat} : (ds n).length = 0 ↔ n = 0 := by
 constructor
 .
  intro h
  have h1 := val_ds n
  rw [List.eq_nil_of_length_eq_zero h] at h1
  exact h1.symm
 . intro h; subst h; rw [ds_zero]; rfl
theorem ds_len_of_lt {n k : Nat} (h : n < B16 ^ k) : (ds n).length <= k := by
 induction k generalizing n with
 | zero =>
  have : n = 0 := by simpa using h
  subst this; rw [ds_zero]; simp
 | succ k ih =>
  by_cases h0 : n = 0
  . subst h0; rw [ds_zero]; simp
  .
   rw [ds_pos h0]
   have : n / B16 < B16 ^ k := by
    rw [Nat.div_lt_iff_lt_mul B16_pos, <- Nat.pow_succ]; exact h
   have := ih this
   simp; omega
theorem lt_of_ds_len (n : Nat) : n < B16 ^ (ds n).length := by
 have := val_lt (ds n) (ds_ds n)
 rwa [val_ds] at this
theorem le_of_ds_len {n k : Nat} (h : (ds n).length = k + 1) : B16 ^ k <= n := by
 rcases Nat.lt_or_ge n (B16 ^ k) with h1 | h1
 . have := ds_len_of_lt h1; omega
 . exact h1
theorem ds_len_mono {m n : Nat} (h : m <= n) : (ds m).length <= (ds n).length :=
 ds_len_of_lt (Nat.lt_of_le_of_lt h (lt_of_ds_len n))
theorem ds_small {n : Nat} (h : n < B16) (h0 : n ≠ 0) : ds n = [n] := by
 rw [ds_pos h0, Nat.mod_eq_of_lt h, Nat.div_eq_of_lt h, ds_zero]
theorem dm_guess {R V S : Nat} (hS : 0 < S) (hv : 0 < V / S) (h : R < V * 65536) : R / V <= min (R / S / (V / S)) 65535 := by
 have hV : 0 < V := by
  rcases Nat.eq_zero_or_pos V with h0 | h0
  . subst h0; simp at hv
  . exact h0
 have h1 : R / V < 65536 := by rw [Nat.div_lt_iff_lt_mul hV, Nat.mul_comm]; exact h
 have h2 : R / V <= R / S / (V / S) := by
  rw [Nat.le_div_iff_mul_le hv, Nat.le_div_iff_mul_le hS]
  have a1 := Nat.div_mul_le_self R V
  have a2 := Nat.div_mul_le_self V S
  have a3 := Nat.mul_le_mul_left (R / V) a2
  rw [Nat.mul_assoc]
  omega
 omega
theorem dm_dec {R V n : Nat} (hV : 0 < V) (h : R / V <= n) (hgt : R < V * n) : 0 < n /\ R / V <= n - 1 := by
 have : R / V < n := by rw [Nat.div_lt_iff_lt_mul hV, Nat.mul_comm]; exact hgt
 generalize R / V = q at *
 omega
theorem dm_eq {R V n : Nat} (hV : 0 < V) (h : R / V <= n) (hle : V * n <= R) : R / V = n /\ R - V * n = R % V := by
 have h1 : n <= R / V := by rw [Nat.le_div_iff_mul_le hV, Nat.mul_comm]; exact hle
 have h2 : R / V = n := by omega
 have h3 := Nat.div_add_mod R V
 rw [h2] at h3
 exact ⟨h2, by omega⟩
theorem getD_ds (i : Nat) : ∀ n, (ds n).getD i 0 = n / B16 ^ i % B16 := by
 induction i with
 | zero =>
  intro n
  by_cases h : n = 0
  . subst h; rw [ds_zero]; simp
  . rw [ds_pos h]; simp
 | succ i ih =>
  intro n
  by_cases h : n = 0
  . subst h; rw [ds_zero]; simp
  . rw [ds_pos h, List.getD_cons_succ, ih, Nat.div_div_eq_div_mul, Nat.pow_succ, Nat.mul_comm B16]
theorem dm_top {R L : Nat} (h : R < B16 ^ (L + 2)) : (ds R).getD L 0 + 65536 * (ds R).getD (L + 1) 0 = R / B16 ^ L := by
 rw [getD_ds, getD_ds]
 have e : R / B16 ^ (L + 1) = R / B16 ^ L / B16 := by rw [Nat.pow_succ, Nat.div_div_eq_div_mul]
 have h2 : R / B16 ^ L / B16 < B16 := by
  rw [Nat.div_lt_iff_lt_mul B16_pos, Nat.div_lt_iff_lt_mul (Nat.pow_pos B16_pos)]
  have : B16 * B16 * B16 ^ L = B16 ^ (L + 2) := by rw [Nat.pow_succ, Nat.pow_succ, Nat.mul_comm, Nat.mul_assoc]
  rw [this]; exact h
 rw [e, Nat.mod_eq_of_lt h2]
 exact Nat.mod_add_div _ B16
theorem dm_vtop {V L : Nat} (h : (ds V).length = L + 1) : (ds V).getD L 0 = V / B16 ^ L /\ 0 < V / B16 ^ L := by
 have h1 := lt_of_ds_len V
 rw [h] at h1
 have h2 := le_of_ds_len h
 have h3 : V / B16 ^ L < B16 := by
  rw [Nat.div_lt_iff_lt_mul (Nat.pow_pos B16_pos), Nat.mul_comm, <- Nat.pow_succ]; exact h1
 refine ⟨by rw [getD_ds, Nat.mod_eq_of_lt h3], ?_⟩
 exact Nat.div_pos h2 (Nat.pow_pos B16_pos)
theorem dm_short {R V : Nat} (h : (ds R).length < (ds V).length) : R / V = 0 := by
 refine Nat.div_eq_of_lt ?_
 rcases Nat.lt_or_ge R V with h1 | h1
 . exact h1
 . have := ds_len_mono h1; omega
theorem dm_undo {A B m : Nat} (hm : 0 < m) : A * m / (B * m) = A / B /\ A * m % (B * m) / m = A % B /\ A * m % (B * m) % m = 0 := by
 refine ⟨Nat.mul_div_mul_right A B hm, ?_, ?_⟩
 . rw [Nat.mul_mod_mul_right, Nat.mul_div_cancel _ hm]
 . rw [Nat.mul_mod_mul_right, Nat.mul_mod_left]
theorem dm_more {v : Nat} (h : v < 65536) : 0 < 65536 / (v + 1) /\ (0 < v -> 65536 / (v + 1) < 65536) := by
 refine ⟨Nat.div_pos (by omega) (by omega), fun h0 => ?_⟩
 exact Nat.div_lt_self (by omega) (by omega)
end Go.Proofs.YthkklkjldpcbkaaGreatDoor
