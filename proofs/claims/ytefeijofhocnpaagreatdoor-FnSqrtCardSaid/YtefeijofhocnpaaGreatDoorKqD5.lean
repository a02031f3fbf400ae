/- For the claim of laws.The greatest number whose square is at most x (FnSqrt).: SpecD, Plus, SpE, SpecS. -/
import Derived.Test.YtefeijofhocnpaaGreatDoorKqB3
import Derived.Test.YtefeijofhocnpaaGreatDoorKqSpec1
import Derived.Test.YtefeijofhocnpaaGreatDoorKqD2
import Derived.Test.YtefeijofhocnpaaGreatDoorKqB4
import Derived.Test.YtefeijofhocnpaaGreatDoorKqB5
set_option linter.unusedVariables false
set_option linter.unusedSimpArgs false
namespace Go.Proofs.YtefeijofhocnpaaGreatDoor
open Go.RowKit Go.Proofs.YtefeijofhocnpaaGreatDoor.PSpec Go.Proofs.YtefeijofhocnpaaGreatDoorW.PrintWords Go.Proofs.YtefeijofhocnpaaGreatDoorW.PrintLast Go.Proofs.YtefeijofhocnpaaGreatDoorW.PrintMore
theorem val_take_getD (b : Nat) : ∀ (xs : List Nat) (i : Nat), val b (xs.take (i + 1)) = val b (xs.take i) + xs.getD i 0 * b ^ i
  | [], i => by simp
  | x :: xs, 0 => by simp
  | x :: xs, i + 1 => by
    rw [List.take_succ_cons, List.take_succ_cons, val_cons, val_cons, val_take_getD b xs i, List.getD_cons_succ, Nat.pow_succ]
    grind
theorem getD_lt {xs : List Nat} (h : Digs B16 xs) (i : Nat) : xs.getD i 0 < 65536 := by
  rcases Nat.lt_or_ge i xs.length with hi | hi
  · rw [List.getD_eq_getElem?_getD, List.getElem?_eq_getElem hi]; exact h.get i hi
  · rw [List.getD_eq_getElem?_getD, List.getElem?_eq_none hi]; show 0 < 65536; omega
theorem rd_getD (xs : List Nat) (i : Nat) : rd (ints xs) (i : Int) = ((xs.getD i 0 : Nat) : Int) := by
  unfold rd ints
  rw [Int.toNat_natCast, List.getD_eq_getElem?_getD, List.getD_eq_getElem?_getD, List.getElem?_map]
  cases xs[i]? <;> rfl
theorem add_dig_step {O X Y c x y t p i : Nat} (hcd : t % 65536 + 65536 * (t / 65536) = t) (ht : c + x + y = t) (hv : O + c * B16 ^ i = X + Y) (_hp : p = 0 := by rfl) :
    O + B16 ^ i * (t % 65536) + t / 65536 * B16 ^ (i + 1) = X + x * B16 ^ i + (Y + y * B16 ^ i) := by
  rw [Nat.pow_succ, B16_eq]
  rw [B16_eq] at hv
  generalize 65536 ^ i = P at hv ⊢
  generalize t % 65536 = a at hcd ⊢
  generalize t / 65536 = b at hcd ⊢
  subst ht
  have h1 : P * a + b * (P * 65536) = (c + x + y) * P := by rw [← hcd]; grind
  rw [Nat.add_mul, Nat.add_mul] at h1
  omega
theorem spec_Add_l0 (xs ys : List Nat) (n : Nat) (hn : max xs.length ys.length = n) (dx : Digs B16 xs) (dy : Digs B16 ys) (hb : n ≤ 1099511627776) : ∀ (d i k c : Nat) (out : List Nat), d = n - i → i ≤ n → out.length = i → c < 2 → Digs B16 out →
    val B16 out + c * B16 ^ i = val B16 (xs.take i) + val B16 (ys.take i) →
    spec_Add.l0 (k + n + 2 * d + 5) (ints xs) (ints ys) (ints out) (c : Int) (i : Int) = some (ints (ds (val B16 xs + val B16 ys))) := by
  intro d
  induction d with
  | zero =>
    intro i k c out hd hi ho hc hD hv
    have h1 : xs.length ≤ i := by omega
    have h2 : ys.length ≤ i := by omega
    rw [show k + n + 2 * 0 + 5 = (k + n + 3) + 1 + 1 by omega]
    simp only [spec_Add.l0, spec_Add.j1, ints_length]
    rw [if_neg (by omega), decide_eq_false (by omega), if_neg (by simp), if_pos (by omega)]
    have e : ints out ++ [(c : Int)] = ints (out ++ [c]) := by rw [ints_append]; rfl
    rw [e, spec_cut_f (by rw [List.length_append, List.length_singleton]; omega) (by rw [List.length_append, List.length_singleton]; omega) (hD.snoc (by show c < 65536; omega))]
    rw [List.take_of_length_le h1, List.take_of_length_le h2] at hv
    have : val B16 (out ++ [c]) = val B16 xs + val B16 ys := by rw [val_snoc, ho, ← hv, Nat.mul_comm c]
    rw [this]; rfl
  | succ d ih =>
    intro i k c out hd hi ho hc hD hv
    obtain ⟨x, hx⟩ : ∃ x, xs.getD i 0 = x := ⟨_, rfl⟩
    obtain ⟨y, hy⟩ : ∃ y, ys.getD i 0 = y := ⟨_, rfl⟩
    have hxB : x < 65536 := hx ▸ getD_lt dx i
    have hyB : y < 65536 := hy ▸ getD_lt dy i
    have hrx : rd (ints xs) (i : Int) = (x : Int) := by rw [rd_getD, hx]
    have hry : rd (ints ys) (i : Int) = (y : Int) := by rw [rd_getD, hy]
    obtain ⟨t, ht⟩ : ∃ t, c + x + y = t := ⟨_, rfl⟩
    have HVV := Lib.hid hv
    clear hv
    have ht2 : t < 200000 := by omega
    have hv2 : val B16 (out ++ [t % 65536]) + (t / 65536) * B16 ^ (i + 1) = val B16 (xs.take (i + 1)) + val B16 (ys.take (i + 1)) := by
      rw [val_snoc, val_take_getD, val_take_getD, hx, hy, ho]
      exact add_dig_step (Nat.mod_add_div t 65536) ht HVV.out
    have hD2 : Digs B16 (out ++ [t % 65536]) := hD.snoc (Nat.mod_lt _ B16_pos)
    have g1 : d = n - (i + 1) := by clear hv2; omega
    have g2 : i + 1 ≤ n := by clear hv2; omega
    have g4 : t / 65536 < 2 := by clear hv2; omega
    have h2 := ih (i + 1) k (t / 65536) (out ++ [t % 65536]) g1 g2 (by rw [List.length_append, List.length_singleton, ho]) g4 hD2 hv2
    clear hv2 ih HVV
    have e1 : Int.tmod (t : Int) 65536 = ((t % 65536 : Nat) : Int) := tmod16 t
    have e2 : wrap64 (Int.tdiv (t : Int) 65536) = ((t / 65536 : Nat) : Int) := by rw [tdiv16, wrap64_in _ (by omega) (by omega)]
    have e3 : wrap64 ((i : Int) + 1) = ((i + 1 : Nat) : Int) := by rw [wrap64_in _ (by omega) (by omega)]; omega
    have e4 : ints out ++ [((t % 65536 : Nat) : Int)] = ints (out ++ [t % 65536]) := by rw [ints_append]; rfl
    rw [show k + n + 2 * (d + 1) + 5 = (k + n + 2 * d + 5) + 1 + 1 by omega]
    obtain ⟨K, hK⟩ : ∃ K, k + n + 2 * d + 5 = K := ⟨_, rfl⟩
    rw [hK] at h2 ⊢
    have E := Lib.hid (And.intro h2 (And.intro e1 (And.intro e2 (And.intro e3 e4))))
    clear h2 e1 e2 e3 e4 hD2 g1 g2 g4 hD
    have hin : (if (i : Int) < (xs.length : Int) then (spec_Add.j1 (K + 1) (ints xs) (ints ys) (ints out) (c : Int) (i : Int) true) else (spec_Add.j1 (K + 1) (ints xs) (ints ys) (ints out) (c : Int) (i : Int) (decide ((i : Int) < (ys.length : Int))))) = spec_Add.j1 (K + 1) (ints xs) (ints ys) (ints out) (c : Int) (i : Int) true := by
      by_cases h : (i : Int) < (xs.length : Int)
      · rw [if_pos h]
      · rw [if_neg h, decide_eq_true (by omega)]
    have hu : spec_Add.l0 (K + 1 + 1) (ints xs) (ints ys) (ints out) (c : Int) (i : Int) = spec_Add.j1 (K + 1) (ints xs) (ints ys) (ints out) (c : Int) (i : Int) true := by
      rw [← hin]; simp only [spec_Add.l0, ints_length]
    rw [hu]
    simp only [spec_Add.j1, ints_length]
    rw [if_pos (by simp)]
    by_cases h1 : (i : Int) < (xs.length : Int)
    · rw [if_pos h1, if_pos (by omega)]
      by_cases h3 : (i : Int) < (ys.length : Int)
      · rw [if_pos h3, if_pos (by omega), hrx, hry, wrap64_in ((c : Int) + (x : Int)) (by omega) (by omega), wrap64_in _ (by omega) (by omega)]
        rw [show (c : Int) + (x : Int) + (y : Int) = (t : Int) by omega, E.out.2.1, E.out.2.2.1, E.out.2.2.2.1, E.out.2.2.2.2]
        exact E.out.1
      · have hy0 : y = 0 := by rw [← hy, List.getD_eq_getElem?_getD, List.getElem?_eq_none (by omega)]; rfl
        rw [if_neg h3, if_pos (by omega), hrx, wrap64_in ((c : Int) + (x : Int)) (by omega) (by omega)]
        rw [show (c : Int) + (x : Int) = (t : Int) by omega, E.out.2.1, E.out.2.2.1, E.out.2.2.2.1, E.out.2.2.2.2]
        exact E.out.1
    · have hx0 : x = 0 := by rw [← hx, List.getD_eq_getElem?_getD, List.getElem?_eq_none (by omega)]; rfl
      rw [if_neg h1, if_pos (by omega), if_pos (by omega), if_pos (by omega), hry, wrap64_in ((c : Int) + (y : Int)) (by omega) (by omega)]
      rw [show (c : Int) + (y : Int) = (t : Int) by omega, E.out.2.1, E.out.2.2.1, E.out.2.2.2.1, E.out.2.2.2.2]
      exact E.out.1
theorem spec_Add_any (xs ys : List Nat) (dx : Digs B16 xs) (dy : Digs B16 ys) (hx : xs.length ≤ 1099511627776) (hy : ys.length ≤ 1099511627776) : ∃ k, spec_Add.f k (ints xs) (ints ys) = some (ints (ds (val B16 xs + val B16 ys))) := by
  refine ⟨0 + max xs.length ys.length + 2 * max xs.length ys.length + 5, ?_⟩
  have h := spec_Add_l0 xs ys _ rfl dx dy (by omega) (max xs.length ys.length) 0 0 0 [] (by omega) (Nat.zero_le _) rfl (by omega) Digs.nil (by simp)
  exact h
end Go.Proofs.YtefeijofhocnpaaGreatDoor
namespace Go.Proofs.YtefeijofhocnpaaGreatDoor
open Go.RowKit Go.Proofs.YtefeijofhocnpaaGreatDoor.PSpec Go.Proofs.YtefeijofhocnpaaGreatDoorW.PrintWords Go.Proofs.YtefeijofhocnpaaGreatDoorW.PrintLast Go.Proofs.YtefeijofhocnpaaGreatDoorW.PrintMore
theorem SpN.zero (w : World) : SpN w (.slice none 0 0) 0 := by
  refine ⟨none, 0, by rw [ds_zero]; rfl, by rw [ds_zero]; exact Nat.le_refl _, ?_⟩
  rw [ds_zero]
  exact ⟨rfl, by simp, fun h => absurd h (Nat.lt_irrefl 0)⟩
end Go.Proofs.YtefeijofhocnpaaGreatDoor
namespace Go.Proofs.YtefeijofhocnpaaGreatDoor
open Go.RowKit Go.Proofs.YtefeijofhocnpaaGreatDoor.PSpec Go.Proofs.YtefeijofhocnpaaGreatDoorW.PrintWords Go.Proofs.YtefeijofhocnpaaGreatDoorW.PrintLast Go.Proofs.YtefeijofhocnpaaGreatDoorW.PrintMore
theorem wr64 {z : Int} (h1 : -9223372036854775808 ≤ z) (h2 : z < 9223372036854775808) : wrap64 z = z := wrap64_in _ (by omega) (by omega)
end Go.Proofs.YtefeijofhocnpaaGreatDoor
