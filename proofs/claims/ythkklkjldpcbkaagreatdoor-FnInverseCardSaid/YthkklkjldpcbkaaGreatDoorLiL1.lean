/- For the claim of laws.FnInverse: SpecQ. -/
import Derived.Test.YthkklkjldpcbkaaGreatDoorLiD5
import Derived.Test.YthkklkjldpcbkaaGreatDoorLiF1
import Derived.Test.YthkklkjldpcbkaaGreatDoorLiSpec3
set_option linter.unusedVariables false
set_option linter.unusedSimpArgs false
namespace Go.Proofs.YthkklkjldpcbkaaGreatDoor
open Go.RowKit Go.Proofs.YthkklkjldpcbkaaGreatDoor.PSpec Go.Proofs.YthkklkjldpcbkaaGreatDoorW.PrintWords Go.Proofs.YthkklkjldpcbkaaGreatDoorW.PrintLast Go.Proofs.YthkklkjldpcbkaaGreatDoorW.PrintMore
theorem cmp_top {xs ys : List Nat} {i x y : Nat} (dx : Digs B16 xs) (ht : xs.drop (i + 1) = ys.drop (i + 1)) (hx : i < xs.length) (hy : i < ys.length) (ex : xs[i] = x) (ey : ys[i] = y) (h : x < y) : val B16 xs < val B16 ys := by
 have h1 := Zq (b := B16) xs i (by omega)
 have h2 := Zq (b := B16) ys i (by omega)
 rw [List.drop_eq_getElem_cons hx, ex] at h1
 rw [List.drop_eq_getElem_cons hy, ey, <- ht] at h2
 have h3 := val_lt _ (dx.take i)
 rw [List.length_take, Nat.min_eq_left (by omega)] at h3
 simp only [val] at h1 h2
 generalize val B16 (xs.drop (i + 1)) = T at h1 h2
 have h4 := Nat.mul_le_mul (Nat.le_refl (B16 ^ i)) (show x + 1 + B16 * T <= y + B16 * T by omega)
 have h5 : B16 ^ i * (x + 1 + B16 * T) = B16 ^ i * (x + B16 * T) + B16 ^ i := by grind
 omega
theorem spec_Cmp_l0 (xs ys : List Nat) (hl : xs.length = ys.length) (dx : Digs B16 xs) (dy : Digs B16 ys) (hb : xs.length <= 1099511627776) : ∀ (i k : Nat), i <= xs.length -> i < k -> xs.drop i = ys.drop i →
  ∃ r, spec_Cmp.l0 k (ints xs) (ints ys) ((i : Int) - 1) = some r /\ (r <= 0 ↔ val B16 xs <= val B16 ys) /\ (0 <= r ↔ val B16 ys <= val B16 xs) := by
 intro i
 induction i with
 | zero =>
  intro k _ hk hd
  obtain ⟨k, rfl⟩ : ∃ k', k = k' + 1 := ⟨k - 1, by omega⟩
  simp only [List.drop_zero] at hd
  subst hd
  refine ⟨0, ?_, by simp, by simp⟩
  simp only [spec_Cmp.l0]
  rw [if_neg (by omega)]
 | succ i ih =>
  intro k hi hk hd
  obtain ⟨k, rfl⟩ : ∃ k', k = k' + 1 := ⟨k - 1, by omega⟩
  have hx : i < xs.length := by omega
  have hy : i < ys.length := by omega
  obtain ⟨x, ex⟩ : ∃ x, xs[i] = x := ⟨_, rfl⟩
  obtain ⟨y, ey⟩ : ∃ y, ys[i] = y := ⟨_, rfl⟩
  have hxB : x < 65536 := ex ▸ dx.get i hx
  have hyB : y < 65536 := ey ▸ dy.get i hy
  have hrx : rd (ints xs) (i : Int) = (x : Int) := by rw [rd_getD, List.getD_eq_getElem?_getD, List.getElem?_eq_getElem hx, ex]; rfl
  have hry : rd (ints ys) (i : Int) = (y : Int) := by rw [rd_getD, List.getD_eq_getElem?_getD, List.getElem?_eq_getElem hy, ey]; rfl
  have e0 : ((i + 1 : Nat) : Int) - 1 = (i : Int) := by omega
  rw [e0]
  have I1 : (i : Int) >= 0 := by omega
  have I2 : (i : Int) < ((ints xs).length : Int) := by rw [Zf]; omega
  have I3 : (i : Int) < ((ints ys).length : Int) := by rw [Zf]; omega
  have W1 := Qq (wr64 (z := (i : Int) - 1) (by omega) (by omega))
  have W2 := Qq (wr64 (z := (x : Int) - (y : Int)) (by omega) (by omega))
  simp only [spec_Cmp.l0]
  rw [if_pos I1, if_pos I1, if_pos I2, if_pos I3, hrx, hry, W1.out, W2.out]
  by_cases hxy : x = y
  .
   rw [if_pos (by omega)]
   exact ih k (by omega) (by omega) (by rw [List.drop_eq_getElem_cons hx, List.drop_eq_getElem_cons hy, ex, ey, hxy, hd])
  .
   rw [if_neg (by omega)]
   refine ⟨_, rfl, ?_⟩
   rcases Nat.lt_or_ge x y with h | h
   .
    have := cmp_top dx hd hx hy ex ey h
    omega
   .
    have := cmp_top dy hd.symm hy hx ey ex (by omega)
    omega
theorem spec_Cmp_both (X Y : Nat) (hx : (ds X).length <= 1099511627776) (hy : (ds Y).length <= 1099511627776) : ∀ k, (ds X).length < k -> ∃ r, spec_Cmp.f k (ints (ds X)) (ints (ds Y)) = some r /\ (r <= 0 ↔ X <= Y) /\ (0 <= r ↔ Y <= X) := by
 intro k hk
 unfold spec_Cmp.f
 by_cases hl : (ds X).length = (ds Y).length
 .
  rw [if_pos (by rw [Zf, Zf]; omega), Zf]
  have W1 := Qq (wr64 (z := ((ds X).length : Int) - 1) (by omega) (by omega))
  rw [W1.out]
  have h := spec_Cmp_l0 (ds X) (ds Y) hl (ds_ds _) (ds_ds _) hx (ds X).length k (Nat.le_refl _) hk (by rw [List.drop_eq_nil_of_le (Nat.le_refl _), List.drop_eq_nil_of_le (by omega)])
  rw [val_ds, val_ds] at h
  exact h
 .
  rw [if_neg (by rw [Zf, Zf]; omega), Zf, Zf]
  have W1 := Qq (wr64 (z := ((ds X).length : Int) - ((ds Y).length : Int)) (by omega) (by omega))
  rw [W1.out]
  refine ⟨_, rfl, ?_⟩
  rcases Nat.lt_or_ge Y X with h | h
  . have := ds_len_mono (Nat.le_of_lt h); omega
  .
   have := ds_len_mono h
   have h2 : ¬ Y = X := fun e => hl (by rw [e])
   omega
theorem spec_Cmp_any (X Y : Nat) (hx : (ds X).length <= 1099511627776) (hy : (ds Y).length <= 1099511627776) : ∀ k, (ds X).length < k -> ∃ r, spec_Cmp.f k (ints (ds X)) (ints (ds Y)) = some r /\ (r <= 0 ↔ X <= Y) :=
 fun k hk => let ⟨r, h1, h2, _⟩ := spec_Cmp_both X Y hx hy k hk; ⟨r, h1, h2⟩
theorem leO_up {α : Type} {f : Nat -> Option α} (h : ∀ k, LeO (f k) (f (k + 1))) {k : Nat} {r : α} (hk : f k = some r) : ∀ j, k <= j -> f j = some r := by
 intro j hj
 induction j with
 | zero => rwa [show k = 0 by omega] at hk
 | succ j ih =>
  rcases Nat.lt_or_ge j k with h1 | h1
  . rwa [show k = j + 1 by omega] at hk
  . exact h j r (ih h1)
theorem ds_mul_len (a b : Nat) : (ds (a * b)).length <= (ds a).length + (ds b).length := by
 have h1 := val_lt _ (ds_ds a)
 have h2 := val_lt _ (ds_ds b)
 rw [val_ds] at h1 h2
 refine ds_len_of_lt ?_
 rw [Nat.pow_add]
 exact Nat.mul_lt_mul'' h1 h2
end Go.Proofs.YthkklkjldpcbkaaGreatDoor
