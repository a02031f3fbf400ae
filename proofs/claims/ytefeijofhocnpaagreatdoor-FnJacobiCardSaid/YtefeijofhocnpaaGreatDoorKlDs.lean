/- For the claim of laws.The program's symbol is Jacobi's (FnJacobi).: Ds, Jac, JacL, TzM. -/
import Derived.Test.YtefeijofhocnpaaGreatDoorKlA1
import Derived.Lib.TrailingZeros
set_option linter.unusedVariables false
set_option linter.unusedSimpArgs false
namespace Go.Proofs.YtefeijofhocnpaaGreatDoor
def B16 : Nat := 65536
theorem B16_eq : B16 = 65536 := rfl
theorem B16_pos : 0 < B16 := by decide
theorem B16_one : 1 < B16 := by decide
def ds (n : Nat) : List Nat := if _h : n = 0 then [] else n % B16 :: ds (n / B16)
termination_by n
decreasing_by exact Nat.div_lt_self (by omega) B16_one
theorem ds_zero : ds 0 = [] := by rw [ds]; simp
theorem ds_pos {n : Nat} (h : n ≠ 0) : ds n = n % B16 :: ds (n / B16) := by rw [ds]; simp [h]
theorem val_ds (n : Nat) : val B16 (ds n) = n := by
  induction n using Nat.strongRecOn with
  | ind n ih =>
    by_cases h : n = 0
    · subst h; rw [ds_zero]; rfl
    · rw [ds_pos h, val_cons, ih (n / B16) (Nat.div_lt_self (by omega) B16_one)]
      exact Nat.mod_add_div n B16
theorem ds_ds (n : Nat) : Digs B16 (ds n) := by
  induction n using Nat.strongRecOn with
  | ind n ih =>
    by_cases h : n = 0
    · subst h; rw [ds_zero]; exact Digs.nil
    · rw [ds_pos h]
      exact Digs.cons (Nat.mod_lt _ B16_pos) (ih (n / B16) (Nat.div_lt_self (by omega) B16_one))
theorem norm16_cons_ne {x : Nat} {xs : List Nat} (h : Norm (x :: xs)) : x + B16 * val B16 xs ≠ 0 := by
  induction xs generalizing x with
  | nil =>
    intro e
    have : x = 0 := by simpa using e
    subst this
    exact h rfl
  | cons y ys ih =>
    have h1 : Norm (y :: ys) := by unfold Norm at h ⊢; rwa [List.getLast?_cons_cons] at h
    have := ih h1
    intro e
    apply this
    rw [val_cons] at e
    have hb := B16_pos
    have h2 : B16 * (y + B16 * val B16 ys) = 0 := by omega
    rcases Nat.mul_eq_zero.1 h2 with h3 | h3
    · omega
    · exact h3
theorem ds_val {xs : List Nat} (hd : Digs B16 xs) (hn : Norm xs) : ds (val B16 xs) = xs := by
  induction xs with
  | nil => rw [val_nil, ds_zero]
  | cons x xs ih =>
    have hne := norm16_cons_ne hn
    rw [val_cons, ds_pos hne]
    have h1 : (x + B16 * val B16 xs) % B16 = x := by rw [Nat.add_mul_mod_self_left]; exact Nat.mod_eq_of_lt hd.head
    have h2 : (x + B16 * val B16 xs) / B16 = val B16 xs := by rw [Nat.add_mul_div_left _ _ B16_pos, Nat.div_eq_of_lt hd.head, Nat.zero_add]
    rw [h1, h2]
    congr 1
    refine ih hd.tail ?_
    cases xs with
    | nil => exact Norm.nil
    | cons y ys => unfold Norm at hn ⊢; rwa [List.getLast?_cons_cons] at hn
theorem ds_len_eq_zero {n : Nat} : (ds n).length = 0 ↔ n = 0 := by
  constructor
  · intro h
    have h1 := val_ds n
    rw [List.eq_nil_of_length_eq_zero h] at h1
    exact h1.symm
  · intro h; subst h; rw [ds_zero]; rfl
theorem ds_len_of_lt {n k : Nat} (h : n < B16 ^ k) : (ds n).length ≤ k := by
  induction k generalizing n with
  | zero =>
    have : n = 0 := by simpa using h
    subst this; rw [ds_zero]; simp
  | succ k ih =>
    by_cases h0 : n = 0
    · subst h0; rw [ds_zero]; simp
    · rw [ds_pos h0]
      have : n / B16 < B16 ^ k := by
        rw [Nat.div_lt_iff_lt_mul B16_pos, ← Nat.pow_succ]; exact h
      have := ih this
      simp; omega
theorem lt_of_ds_len (n : Nat) : n < B16 ^ (ds n).length := by
  have := val_lt (ds n) (ds_ds n)
  rwa [val_ds] at this
theorem le_of_ds_len {n k : Nat} (h : (ds n).length = k + 1) : B16 ^ k ≤ n := by
  rcases Nat.lt_or_ge n (B16 ^ k) with h1 | h1
  · have := ds_len_of_lt h1; omega
  · exact h1
theorem ds_len_mono {m n : Nat} (h : m ≤ n) : (ds m).length ≤ (ds n).length :=
  ds_len_of_lt (Nat.lt_of_le_of_lt h (lt_of_ds_len n))
end Go.Proofs.YtefeijofhocnpaaGreatDoor
namespace Go.Proofs.YtefeijofhocnpaaGreatDoor
namespace Jac
def sumN (f : Nat → Nat) : Nat → Nat
  | 0 => 0
  | n + 1 => sumN f n + f n
def prodN (f : Nat → Nat) : Nat → Nat
  | 0 => 1
  | n + 1 => prodN f n * f n
theorem sumN_congr {f g : Nat → Nat} : ∀ {n : Nat}, (∀ k, k < n → f k = g k) → sumN f n = sumN g n
  | 0, _ => rfl
  | n + 1, h => by
    show sumN f n + f n = sumN g n + g n
    rw [sumN_congr (fun k hk => h k (by omega)), h n (by omega)]
theorem prodN_congr {f g : Nat → Nat} : ∀ {n : Nat}, (∀ k, k < n → f k = g k) → prodN f n = prodN g n
  | 0, _ => rfl
  | n + 1, h => by
    show prodN f n * f n = prodN g n * g n
    rw [prodN_congr (fun k hk => h k (by omega)), h n (by omega)]
theorem sumN_add (f g : Nat → Nat) : ∀ n, sumN (fun k => f k + g k) n = sumN f n + sumN g n
  | 0 => rfl
  | n + 1 => by simp only [sumN]; rw [sumN_add f g n]; omega
theorem prodN_mul (f g : Nat → Nat) : ∀ n, prodN (fun k => f k * g k) n = prodN f n * prodN g n
  | 0 => rfl
  | n + 1 => by simp only [prodN]; rw [prodN_mul f g n]; grind
theorem sumN_mul (c : Nat) (f : Nat → Nat) : ∀ n, sumN (fun k => c * f k) n = c * sumN f n
  | 0 => rfl
  | n + 1 => by simp only [sumN]; rw [sumN_mul c f n, Nat.mul_add]
theorem sumN_zero : ∀ n, sumN (fun _ => 0) n = 0
  | 0 => rfl
  | n + 1 => by simp only [sumN]; rw [sumN_zero n]
theorem sumN_const (c : Nat) : ∀ n, sumN (fun _ => c) n = n * c
  | 0 => by simp [sumN]
  | n + 1 => by simp only [sumN]; rw [sumN_const c n, Nat.add_mul, Nat.one_mul]
theorem prodN_one : ∀ n, prodN (fun _ => 1) n = 1
  | 0 => rfl
  | n + 1 => by simp only [prodN]; rw [prodN_one n]
theorem prodN_const (c : Nat) : ∀ n, prodN (fun _ => c) n = c ^ n
  | 0 => rfl
  | n + 1 => by simp only [prodN]; rw [prodN_const c n, Nat.pow_succ]
theorem sumN_swap (f : Nat → Nat → Nat) (n : Nat) : ∀ m, sumN (fun i => sumN (fun j => f i j) n) m = sumN (fun j => sumN (fun i => f i j) m) n
  | 0 => (sumN_zero n).symm
  | m + 1 => by simp only [sumN]; rw [sumN_swap f n m, sumN_add]
theorem prodN_swap (f : Nat → Nat → Nat) (n : Nat) : ∀ m, prodN (fun i => prodN (fun j => f i j) n) m = prodN (fun j => prodN (fun i => f i j) m) n
  | 0 => (prodN_one n).symm
  | m + 1 => by simp only [prodN]; rw [prodN_swap f n m, prodN_mul]
theorem sumN_pick (f : Nat → Nat) (i : Nat) : ∀ n, sumN (fun j => if j = i then f j else 0) n = if i < n then f i else 0
  | 0 => by simp [sumN]
  | n + 1 => by
    simp only [sumN]
    rw [sumN_pick f i n]
    rcases Nat.lt_trichotomy i n with h | h | h
    · rw [if_pos h, if_neg (by omega), if_pos (by omega)]; omega
    · subst h; rw [if_neg (by omega), if_pos rfl, if_pos (by omega)]; omega
    · rw [if_neg (by omega), if_neg (by omega), if_neg (by omega)]
theorem prodN_pick (f : Nat → Nat) (i : Nat) : ∀ n, prodN (fun j => if j = i then f j else 1) n = if i < n then f i else 1
  | 0 => by simp [prodN]
  | n + 1 => by
    simp only [prodN]
    rw [prodN_pick f i n]
    rcases Nat.lt_trichotomy i n with h | h | h
    · rw [if_pos h, if_neg (by omega), if_pos (by omega)]; omega
    · subst h; rw [if_neg (by omega), if_pos rfl, if_pos (by omega)]; omega
    · rw [if_neg (by omega), if_neg (by omega), if_neg (by omega)]
structure Perm (s t : Nat → Nat) (n : Nat) : Prop where
  s1 : ∀ k, k < n → s k < n
  t1 : ∀ k, k < n → t k < n
  ts : ∀ k, k < n → t (s k) = k
  st : ∀ k, k < n → s (t k) = k
theorem sumN_perm {s t : Nat → Nat} {n : Nat} (h : Perm s t n) (f : Nat → Nat) : sumN (fun k => f (s k)) n = sumN f n := by
  have e1 : sumN (fun k => f (s k)) n = sumN (fun k => sumN (fun j => if j = s k then f j else 0) n) n :=
    sumN_congr (fun k hk => by rw [sumN_pick, if_pos (h.s1 k hk)])
  rw [e1, sumN_swap]
  refine sumN_congr (fun j hj => ?_)
  have e2 : sumN (fun k => if j = s k then f j else 0) n = sumN (fun k => if k = t j then (fun _ => f j) k else 0) n := by
    refine sumN_congr (fun k hk => ?_)
    by_cases e : k = t j
    · rw [if_pos e, e, if_pos (h.st j hj).symm]
    · rw [if_neg e, if_neg (fun e' => e (by rw [e', h.ts k hk]))]
  rw [e2, sumN_pick (fun _ => f j) (t j) n, if_pos (h.t1 j hj)]
theorem prodN_perm {s t : Nat → Nat} {n : Nat} (h : Perm s t n) (f : Nat → Nat) : prodN (fun k => f (s k)) n = prodN f n := by
  have e1 : prodN (fun k => f (s k)) n = prodN (fun k => prodN (fun j => if j = s k then f j else 1) n) n :=
    prodN_congr (fun k hk => by rw [prodN_pick, if_pos (h.s1 k hk)])
  rw [e1, prodN_swap]
  refine prodN_congr (fun j hj => ?_)
  have e2 : prodN (fun k => if j = s k then f j else 1) n = prodN (fun k => if k = t j then (fun _ => f j) k else 1) n := by
    refine prodN_congr (fun k hk => ?_)
    by_cases e : k = t j
    · rw [if_pos e, e, if_pos (h.st j hj).symm]
    · rw [if_neg e, if_neg (fun e' => e (by rw [e', h.ts k hk]))]
  rw [e2, prodN_pick (fun _ => f j) (t j) n, if_pos (h.t1 j hj)]
theorem bezout (a b : Nat) : ∃ x y : Int, x * a + y * b = Nat.gcd a b := by
  induction a, b using Nat.gcd.induction with
  | H0 n => exact ⟨0, 1, by simp⟩
  | H1 m n hm ih =>
    obtain ⟨x, y, h⟩ := ih
    refine ⟨y - x * ((n / m : Nat) : Int), x, ?_⟩
    rw [Nat.gcd_rec m n, ← h]
    have e : (n : Int) = (m : Int) * ((n / m : Nat) : Int) + ((n % m : Nat) : Int) := by
      have := Nat.div_add_mod n m
      omega
    conv => lhs; rw [e]
    grind
theorem inverse {b n : Nat} (hn : 1 < n) (h : Nat.gcd b n = 1) : ∃ c, b * c % n = 1 := by
  obtain ⟨x, y, e⟩ := bezout b n
  rw [h] at e
  have hp : (0 : Int) < n := by omega
  have h0 := Int.emod_nonneg x (b := (n : Int)) (by omega)
  refine ⟨(x % n).toNat, ?_⟩
  have e1 : ((b * (x % n).toNat % n : Nat) : Int) = 1 := by
    rw [Int.natCast_emod, Int.natCast_mul, Int.toNat_of_nonneg h0, Int.mul_emod, Int.emod_emod, ← Int.mul_emod]
    have e2 : (b : Int) * x = 1 + (n : Int) * (-y) := by grind
    rw [e2, Int.add_mul_emod_self_left, Int.emod_eq_of_lt (by omega) (by omega)]
  omega
section
variable (n : Nat)
def rho (a k : Nat) : Nat := a * (k + 1) % n
def up (a k : Nat) : Nat := if n / 2 < rho n a k then 1 else 0
def sig (a k : Nat) : Nat := (if n / 2 < rho n a k then n - rho n a k else rho n a k) - 1
def cnt (a : Nat) : Nat := sumN (up n a) (n / 2)
end
variable {n : Nat}
theorem rho_pos {a k : Nat} (h : Nat.gcd a n = 1) (hk : k + 1 < n) : 0 < rho n a k := by
  rcases Nat.eq_zero_or_pos (rho n a k) with h0 | h0
  · have h1 : n ∣ a * (k + 1) := Nat.dvd_of_mod_eq_zero h0
    have h2 : n ∣ k + 1 := Nat.Coprime.dvd_of_dvd_mul_left (by rw [Nat.Coprime, Nat.gcd_comm]; exact h) h1
    have := Nat.le_of_dvd (by omega) h2
    omega
  · exact h0
theorem rho_lt (a k : Nat) (hn : 0 < n) : rho n a k < n := Nat.mod_lt _ hn
theorem rho_mod (a k : Nat) : rho n (a % n) k = rho n a k := by unfold rho; rw [Nat.mod_mul_mod]
theorem up_mod (a : Nat) : up n (a % n) = up n a := by funext k; unfold up; rw [rho_mod]
theorem sig_mod (a k : Nat) : sig n (a % n) k = sig n a k := by unfold sig; rw [rho_mod]
theorem cnt_mod (a : Nat) : cnt n (a % n) = cnt n a := by unfold cnt; rw [up_mod]
theorem sig_lt {a k : Nat} (ho : n % 2 = 1) (h : Nat.gcd a n = 1) (hk : k < n / 2) : sig n a k < n / 2 := by
  have h1 := rho_pos (k := k) h (by omega)
  have h2 := rho_lt a k (show 0 < n by omega)
  unfold sig
  split <;> omega
theorem rho_sig {a k : Nat} (ho : n % 2 = 1) (h : Nat.gcd a n = 1) (hk : k < n / 2) : rho n a k + 2 * up n a k * (sig n a k + 1) = (sig n a k + 1) + n * up n a k := by
  have h1 := rho_pos (k := k) h (by omega)
  have h2 := rho_lt a k (show 0 < n by omega)
  unfold up sig
  split <;> omega
theorem rho_comp {a b k : Nat} (ho : n % 2 = 1) (ha : Nat.gcd a n = 1) (hb : Nat.gcd b n = 1) (hk : k < n / 2) :
    (¬ n / 2 < rho n b k → rho n (a * b) k = rho n a (sig n b k)) ∧ (n / 2 < rho n b k → rho n (a * b) k = n - rho n a (sig n b k)) := by
  have h1 := rho_pos (k := k) hb (by omega)
  have h2 := rho_lt b k (show 0 < n by omega)
  have hs := sig_lt ho hb hk
  have h3 := rho_pos (k := sig n b k) ha (by omega)
  have e0 : rho n (a * b) k = a * rho n b k % n := by
    unfold rho
    rw [Nat.mul_assoc, Nat.mul_mod_mod]
  constructor
  · intro h
    have e1 : sig n b k + 1 = rho n b k := by unfold sig; rw [if_neg h]; omega
    rw [e0, ← e1]; rfl
  · intro h
    have e1 : rho n b k = n - (sig n b k + 1) := by unfold sig; rw [if_pos h]; omega
    rw [e0, e1]
    have hle : sig n b k + 1 ≤ n := by omega
    have e2 : a * (n - (sig n b k + 1)) + a * (sig n b k + 1) = n * a := by rw [← Nat.mul_add, Nat.sub_add_cancel hle, Nat.mul_comm]
    have h4 := rho_lt a (sig n b k) (show 0 < n by omega)
    unfold rho at h3 h4 ⊢
    generalize a * (sig n b k + 1) = p at *
    generalize a * (n - (sig n b k + 1)) = q at *
    have e3 : (q % n + p % n) % n = 0 := by rw [← Nat.add_mod, e2]; exact Nat.mul_mod_right n a
    have h5 : q % n < n := Nat.mod_lt _ (by omega)
    have h6 : n ∣ q % n + p % n := Nat.dvd_of_mod_eq_zero e3
    obtain ⟨c, hc⟩ := h6
    have : c = 1 := by
      rcases Nat.lt_or_ge c 1 with hc1 | hc1
      · have : c = 0 := by omega
        subst this; omega
      · rcases Nat.lt_or_ge c 2 with hc2 | hc2
        · omega
        · have : n * 2 ≤ n * c := Nat.mul_le_mul_left _ hc2
          omega
    subst this
    omega
theorem sig_comp {a b k : Nat} (ho : n % 2 = 1) (ha : Nat.gcd a n = 1) (hb : Nat.gcd b n = 1) (hk : k < n / 2) : sig n (a * b) k = sig n a (sig n b k) := by
  have h := rho_comp ho ha hb hk
  have hs := sig_lt ho hb hk
  have h3 := rho_pos (k := sig n b k) ha (by omega)
  have h4 := rho_lt a (sig n b k) (show 0 < n by omega)
  by_cases hc : n / 2 < rho n b k
  · have e := h.2 hc
    unfold sig at e h3 h4 ⊢
    rw [e]
    generalize rho n a ((if n / 2 < rho n b k then n - rho n b k else rho n b k) - 1) = r at *
    split <;> split <;> omega
  · have e := h.1 hc
    conv => lhs; unfold sig
    rw [e]
    rfl
theorem up_comp {a b k : Nat} (ho : n % 2 = 1) (ha : Nat.gcd a n = 1) (hb : Nat.gcd b n = 1) (hk : k < n / 2) : up n (a * b) k + 2 * (up n b k * up n a (sig n b k)) = up n b k + up n a (sig n b k) := by
  have h := rho_comp ho ha hb hk
  have hs := sig_lt ho hb hk
  have h3 := rho_pos (k := sig n b k) ha (by omega)
  have h4 := rho_lt a (sig n b k) (show 0 < n by omega)
  by_cases hc : n / 2 < rho n b k
  · have e := h.2 hc
    have u1 : up n b k = 1 := by unfold up; rw [if_pos hc]
    rw [u1]
    unfold up
    rw [e]
    split <;> split <;> omega
  · have e := h.1 hc
    have u1 : up n b k = 0 := by unfold up; rw [if_neg hc]
    rw [u1]
    unfold up
    rw [e]
    split <;> omega
theorem sig_one {k : Nat} (hk : k < n / 2) : sig n 1 k = k := by
  have : rho n 1 k = k + 1 := by unfold rho; rw [Nat.one_mul]; exact Nat.mod_eq_of_lt (by omega)
  unfold sig; rw [this, if_neg (by omega)]; omega
theorem gcd_of_inv {b c : Nat} (h : b * c % n = 1) : Nat.gcd c n = 1 := by
  have h1 : Nat.gcd c n ∣ b * c := Nat.dvd_trans (Nat.gcd_dvd_left c n) (Nat.dvd_mul_left c b)
  have h2 : Nat.gcd c n ∣ n := Nat.gcd_dvd_right c n
  have h3 : Nat.gcd c n ∣ b * c % n := (Nat.dvd_mod_iff h2).2 h1
  rw [h] at h3
  exact Nat.dvd_one.1 h3
theorem sig_perm {b : Nat} (hn : 1 < n) (ho : n % 2 = 1) (hb : Nat.gcd b n = 1) : ∃ t, Perm (sig n b) t (n / 2) := by
  obtain ⟨c, hc⟩ := inverse hn hb
  have hg := gcd_of_inv hc
  have h1 : sig n (b * c) = sig n 1 := by funext k; rw [← sig_mod (b * c), hc]
  refine ⟨sig n c, fun k hk => sig_lt ho hb hk, fun k hk => sig_lt ho hg hk, fun k hk => ?_, fun k hk => ?_⟩
  · rw [← sig_comp ho hg hb hk, Nat.mul_comm, h1, sig_one hk]
  · rw [← sig_comp ho hb hg hk, h1, sig_one hk]
theorem cnt_mul {a b : Nat} (hn : 1 < n) (ho : n % 2 = 1) (ha : Nat.gcd a n = 1) (hb : Nat.gcd b n = 1) : cnt n (a * b) % 2 = (cnt n a + cnt n b) % 2 := by
  obtain ⟨t, ht⟩ := sig_perm hn ho hb
  have e1 : sumN (fun k => up n (a * b) k + 2 * (up n b k * up n a (sig n b k))) (n / 2) = sumN (fun k => up n b k + up n a (sig n b k)) (n / 2) :=
    sumN_congr (fun k hk => up_comp ho ha hb hk)
  rw [sumN_add, sumN_add, sumN_mul 2 (fun k => up n b k * up n a (sig n b k)), sumN_perm ht (up n a)] at e1
  unfold cnt
  generalize sumN (fun k => up n b k * up n a (sig n b k)) (n / 2) = X at e1
  have e2 : sumN (fun k => up n (a * b) k) (n / 2) = sumN (up n (a * b)) (n / 2) := rfl
  have e3 : sumN (fun k => up n b k) (n / 2) = sumN (up n b) (n / 2) := rfl
  omega
def jac (a n : Nat) : Int := if Nat.gcd a n = 1 then (if cnt n a % 2 = 0 then 1 else -1) else 0
theorem jac_mod (a n : Nat) : jac (a % n) n = jac a n := by
  have e : Nat.gcd (a % n) n = Nat.gcd a n := by rw [Nat.gcd_comm a n, Nat.gcd_rec n a]
  unfold jac
  rw [cnt_mod]
  by_cases h : Nat.gcd a n = 1
  · rw [if_pos h, if_pos (e.trans h)]
  · rw [if_neg h, if_neg (fun h' => h (e.symm.trans h'))]
theorem jac_one (a : Nat) : jac a 1 = 1 := by
  unfold jac
  rw [if_pos (Nat.gcd_one_right a)]
  rfl
theorem gcd_mul {a b n : Nat} : Nat.gcd (a * b) n = 1 ↔ Nat.gcd a n = 1 ∧ Nat.gcd b n = 1 := Nat.coprime_mul_iff_left
theorem jac_mul (a b : Nat) (ho : n % 2 = 1) : jac (a * b) n = jac a n * jac b n := by
  by_cases h1 : n = 1
  · subst h1; rw [jac_one, jac_one, jac_one]; rfl
  unfold jac
  by_cases ha : Nat.gcd a n = 1
  · by_cases hb : Nat.gcd b n = 1
    · have h := cnt_mul (by omega) ho ha hb
      rw [if_pos ha, if_pos hb, if_pos (gcd_mul.2 ⟨ha, hb⟩)]
      generalize cnt n (a * b) = x at *
      generalize cnt n a = y at *
      generalize cnt n b = z at *
      split <;> split <;> split <;> first | rfl | (exfalso; omega)
    · rw [if_neg hb, if_neg (fun h => hb (gcd_mul.1 h).2), Int.mul_zero]
  · rw [if_neg ha, if_neg (fun h => ha (gcd_mul.1 h).1), Int.zero_mul]
def flo (m n : Nat) : Nat := sumN (fun k => m * (k + 1) / n) (n / 2)
theorem flo_cnt {m : Nat} (hn : 1 < n) (ho : n % 2 = 1) (hm : m % 2 = 1) (h : Nat.gcd m n = 1) : (flo m n + cnt n m) % 2 = 0 := by
  obtain ⟨t, ht⟩ := sig_perm hn ho h
  have e1 : sumN (fun k => m * (k + 1) + 2 * (up n m k * (sig n m k + 1))) (n / 2) = sumN (fun k => n * (m * (k + 1) / n) + ((sig n m k + 1) + n * up n m k)) (n / 2) := by
    refine sumN_congr (fun k hk => ?_)
    have h1 := rho_sig ho h hk
    have h2 := Nat.div_add_mod (m * (k + 1)) n
    have h3 : rho n m k = m * (k + 1) % n := rfl
    rw [Nat.mul_assoc] at h1
    omega
  rw [sumN_add, sumN_add, sumN_add, sumN_mul m (fun k => k + 1), sumN_mul 2 (fun k => up n m k * (sig n m k + 1)), sumN_mul n (fun k => m * (k + 1) / n), sumN_mul n (up n m), sumN_perm ht (fun k => k + 1)] at e1
  have e2 : sumN (fun k => m * (k + 1) / n) (n / 2) = flo m n := rfl
  have e3 : sumN (up n m) (n / 2) = cnt n m := rfl
  rw [e2, e3] at e1
  generalize sumN (fun k => up n m k * (sig n m k + 1)) (n / 2) = X at e1
  generalize sumN (fun k => k + 1) (n / 2) = T at e1
  generalize flo m n = F at *
  generalize cnt n m = C at *
  obtain ⟨h', hh⟩ : ∃ h', n = 2 * h' + 1 := ⟨n / 2, by omega⟩
  obtain ⟨m', hm'⟩ : ∃ m', m = 2 * m' + 1 := ⟨m / 2, by omega⟩
  rw [hh, hm'] at e1
  have f1 : (2 * m' + 1) * T = 2 * (m' * T) + T := by grind
  have f2 : (2 * h' + 1) * F = 2 * (h' * F) + F := by grind
  have f3 : (2 * h' + 1) * C = 2 * (h' * C) + C := by grind
  rw [f1, f2, f3] at e1
  generalize m' * T = P at e1
  generalize h' * F = R at e1
  generalize h' * C = U at e1
  omega
theorem count_div {n : Nat} (hn : 0 < n) (x : Nat) : ∀ l, sumN (fun j => if n * (j + 1) ≤ x then 1 else 0) l = min l (x / n)
  | 0 => by simp [sumN]
  | l + 1 => by
    simp only [sumN]
    rw [count_div hn x l]
    have h : n * (l + 1) ≤ x ↔ l + 1 ≤ x / n := by rw [Nat.le_div_iff_mul_le hn, Nat.mul_comm]
    by_cases hc : n * (l + 1) ≤ x
    · rw [if_pos hc]; have := h.1 hc; omega
    · rw [if_neg hc]; have := mt h.2 hc; omega
theorem flo_lattice {m : Nat} (ho : n % 2 = 1) (hm : m % 2 = 1) : flo m n = sumN (fun k => sumN (fun j => if n * (j + 1) ≤ m * (k + 1) then 1 else 0) (m / 2)) (n / 2) := by
  refine sumN_congr (fun k hk => ?_)
  rw [count_div (by omega)]
  have : m * (k + 1) / n < m / 2 + 1 := by
    rw [Nat.div_lt_iff_lt_mul (by omega)]
    obtain ⟨h', hh⟩ : ∃ h', n = 2 * h' + 1 := ⟨n / 2, by omega⟩
    obtain ⟨m', hm'⟩ : ∃ m', m = 2 * m' + 1 := ⟨m / 2, by omega⟩
    have e1 : m / 2 = m' := by omega
    have h1 : m * (k + 1) ≤ m * h' := Nat.mul_le_mul_left _ (by omega)
    rw [e1]
    rw [hm'] at h1 ⊢
    rw [hh]
    have h2 : (2 * m' + 1) * h' = 2 * (m' * h') + h' := by grind
    have h3 : (m' + 1) * (2 * h' + 1) = 2 * (m' * h') + m' + 2 * h' + 1 := by grind
    omega
  omega
theorem flo_flo {m : Nat} (ho : n % 2 = 1) (hm : m % 2 = 1) (h : Nat.gcd m n = 1) : flo m n + flo n m = (n / 2) * (m / 2) := by
  rw [flo_lattice ho hm, flo_lattice hm ho, sumN_swap (fun j k => if m * (k + 1) ≤ n * (j + 1) then 1 else 0) (n / 2) (m / 2), ← sumN_add]
  rw [← sumN_const (m / 2) (n / 2)]
  refine sumN_congr (fun k hk => ?_)
  rw [← sumN_add]
  refine Eq.trans (sumN_congr (g := fun _ => 1) (fun j hj => ?_)) (by rw [sumN_const, Nat.mul_one])
  have hne : n * (j + 1) ≠ m * (k + 1) := by
    intro e
    have h1 : n ∣ m * (k + 1) := ⟨j + 1, e.symm⟩
    have h2 : n ∣ k + 1 := Nat.Coprime.dvd_of_dvd_mul_left (by rw [Nat.Coprime, Nat.gcd_comm]; exact h) h1
    have := Nat.le_of_dvd (by omega) h2
    omega
  by_cases hc : n * (j + 1) ≤ m * (k + 1)
  · rw [if_pos hc, if_neg (by omega)]
  · rw [if_neg hc, if_pos (by omega)]
theorem cnt_recip {m : Nat} (hn : 1 < n) (hm1 : 1 < m) (ho : n % 2 = 1) (hm : m % 2 = 1) (h : Nat.gcd m n = 1) : (cnt n m + cnt m n) % 2 = (n / 2) * (m / 2) % 2 := by
  have h1 := flo_cnt hn ho hm h
  have h2 := flo_cnt hm1 hm ho (by rw [Nat.gcd_comm]; exact h)
  have h3 := flo_flo ho hm h
  rw [← h3]
  omega
def turn (m n : Nat) : Int := if m % 4 = 3 ∧ n % 4 = 3 then -1 else 1
theorem half_par {m : Nat} (ho : n % 2 = 1) (hm : m % 2 = 1) : (n / 2) * (m / 2) % 2 = if m % 4 = 3 ∧ n % 4 = 3 then 1 else 0 := by
  rw [Nat.mul_mod]
  have h1 : n / 2 % 2 = 0 ∨ n / 2 % 2 = 1 := by omega
  have h2 : m / 2 % 2 = 0 ∨ m / 2 % 2 = 1 := by omega
  rcases h1 with h1 | h1 <;> rcases h2 with h2 | h2 <;> rw [h1, h2]
  · rw [if_neg (by omega)]
  · rw [if_neg (by omega)]
  · rw [if_neg (by omega)]
  · rw [if_pos (by omega)]
theorem jac_recip {m : Nat} (ho : n % 2 = 1) (hm : m % 2 = 1) : jac m n = turn m n * jac n m := by
  unfold turn
  by_cases h1 : n = 1
  · subst h1
    rw [jac_one, if_neg (by omega)]
    unfold jac
    rw [if_pos (Nat.gcd_one_left m)]
    have : cnt m 1 = 0 := by
      unfold cnt
      rw [← sumN_zero (m / 2)]
      refine sumN_congr (fun k hk => ?_)
      have : rho m 1 k = k + 1 := by unfold rho; rw [Nat.one_mul]; exact Nat.mod_eq_of_lt (by omega)
      unfold up; rw [this, if_neg (by omega)]
    rw [this]; rfl
  by_cases h2 : m = 1
  · subst h2
    rw [jac_one, if_neg (by omega)]
    unfold jac
    rw [if_pos (Nat.gcd_one_left n)]
    have : cnt n 1 = 0 := by
      unfold cnt
      rw [← sumN_zero (n / 2)]
      refine sumN_congr (fun k hk => ?_)
      have : rho n 1 k = k + 1 := by unfold rho; rw [Nat.one_mul]; exact Nat.mod_eq_of_lt (by omega)
      unfold up; rw [this, if_neg (by omega)]
    rw [this]; rfl
  unfold jac
  by_cases hg : Nat.gcd m n = 1
  · have hg' : Nat.gcd n m = 1 := by rw [Nat.gcd_comm]; exact hg
    have h := cnt_recip (show 1 < n by omega) (show 1 < m by omega) ho hm hg
    rw [half_par ho hm] at h
    rw [if_pos hg, if_pos hg']
    by_cases hc : m % 4 = 3 ∧ n % 4 = 3
    · rw [if_pos hc] at h ⊢
      by_cases h3 : cnt n m % 2 = 0
      · rw [if_pos h3, if_neg (by omega)]; rfl
      · rw [if_neg h3, if_pos (by omega)]; rfl
    · rw [if_neg hc] at h ⊢
      by_cases h3 : cnt n m % 2 = 0
      · rw [if_pos h3, if_pos (by omega)]; rfl
      · rw [if_neg h3, if_neg (by omega)]; rfl
  · rw [if_neg hg, if_neg (show ¬ Nat.gcd n m = 1 by rw [Nat.gcd_comm]; exact hg), Int.mul_zero]
theorem cnt_two_sum (h : Nat) : ∀ t, sumN (fun k => if h < 2 * (k + 1) then 1 else 0) t = t - min t (h / 2)
  | 0 => by simp [sumN]
  | t + 1 => by
    simp only [sumN]
    rw [cnt_two_sum h t]
    split <;> omega
theorem cnt_two (ho : n % 2 = 1) : cnt n 2 = n / 2 - n / 2 / 2 := by
  have : cnt n 2 = sumN (fun k => if n / 2 < 2 * (k + 1) then 1 else 0) (n / 2) := by
    refine sumN_congr (fun k hk => ?_)
    have : rho n 2 k = 2 * (k + 1) := by unfold rho; exact Nat.mod_eq_of_lt (by omega)
    unfold up; rw [this]
  rw [this, cnt_two_sum]
  omega
theorem jac_two (ho : n % 2 = 1) : jac 2 n = if n % 8 = 3 ∨ n % 8 = 5 then -1 else 1 := by
  unfold jac
  have hg : Nat.gcd 2 n = 1 := by
    rw [Nat.gcd_rec, ho]; rfl
  rw [if_pos hg, cnt_two ho]
  by_cases hc : n % 8 = 3 ∨ n % 8 = 5
  · rw [if_pos hc, if_neg (by omega)]
  · rw [if_neg hc, if_pos (by omega)]
theorem jac_pow_two (ho : n % 2 = 1) (c : Nat) : ∀ s, jac (2 ^ s * c) n = (if s % 2 = 1 ∧ (n % 8 = 3 ∨ n % 8 = 5) then -1 else 1) * jac c n
  | 0 => by simp
  | s + 1 => by
    rw [show 2 ^ (s + 1) * c = 2 * (2 ^ s * c) from by rw [Nat.pow_succ]; grind, jac_mul _ _ ho, jac_pow_two ho c s, jac_two ho]
    by_cases hc : n % 8 = 3 ∨ n % 8 = 5
    · by_cases hs : s % 2 = 1
      · rw [if_pos hc, if_pos ⟨hs, hc⟩, if_neg (by omega)]; omega
      · rw [if_pos hc, if_neg (fun h => hs h.1), if_pos ⟨by omega, hc⟩]; omega
    · rw [if_neg hc, if_neg (fun h => hc h.2), if_neg (fun h => hc h.2)]; omega
theorem turn_mul {x a b : Nat} (ha : a % 2 = 1) (hb : b % 2 = 1) : turn x (a * b) = turn x a * turn x b := by
  have h : a * b % 4 = (a % 4) * (b % 4) % 4 := Nat.mul_mod a b 4
  have h1 : a % 4 = 1 ∨ a % 4 = 3 := by omega
  have h2 : b % 4 = 1 ∨ b % 4 = 3 := by omega
  unfold turn
  by_cases hx : x % 4 = 3
  · rcases h1 with h1 | h1 <;> rcases h2 with h2 | h2 <;> rw [h1, h2] at h <;> rw [h1, h2, h] <;> simp [hx]
  · rw [if_neg (fun h => hx h.1), if_neg (fun h => hx h.1), if_neg (fun h => hx h.1)]; rfl
theorem odd_mul {a b : Nat} (ha : a % 2 = 1) (hb : b % 2 = 1) : a * b % 2 = 1 := by rw [Nat.mul_mod, ha, hb]
theorem jac_below_odd {x a b : Nat} (hx : x % 2 = 1) (ha : a % 2 = 1) (hb : b % 2 = 1) : jac x (a * b) = jac x a * jac x b := by
  rw [jac_recip (odd_mul ha hb) hx, jac_recip ha hx, jac_recip hb hx, turn_mul ha hb, jac_mul a b hx]
  grind
theorem jac_below (x : Nat) {a b : Nat} (ha : a % 2 = 1) (hb : b % 2 = 1) : jac x (a * b) = jac x a * jac x b := by
  by_cases hx : x % 2 = 1
  · exact jac_below_odd hx ha hb
  · have hab := odd_mul ha hb
    have h := jac_below_odd (x := x + a * b) (by omega) ha hb
    have e1 : jac (x + a * b) (a * b) = jac x (a * b) := by rw [← jac_mod (x + a * b), Nat.add_mod_right, jac_mod]
    have e2 : jac (x + a * b) a = jac x a := by rw [← jac_mod (x + a * b), Nat.add_mul_mod_self_left, jac_mod]
    have e3 : jac (x + a * b) b = jac x b := by rw [← jac_mod (x + a * b), Nat.add_mul_mod_self_right, jac_mod]
    rw [e1, e2, e3] at h
    exact h
theorem jac_sq_le (a n : Nat) : jac a n = 0 ∨ jac a n = 1 ∨ jac a n = -1 := by
  unfold jac
  split
  · split
    · exact Or.inr (Or.inl rfl)
    · exact Or.inr (Or.inr rfl)
  · exact Or.inl rfl
def Prime (p : Nat) : Prop := 1 < p ∧ ∀ d, d ∣ p → d = 1 ∨ d = p
theorem Prime.gcd {p a : Nat} (hp : Prime p) (h : ¬ p ∣ a) : Nat.gcd a p = 1 := by
  rcases hp.2 _ (Nat.gcd_dvd_right a p) with h1 | h1
  · exact h1
  · exact absurd (h1 ▸ Nat.gcd_dvd_left a p) h
theorem prodN_coprime {p : Nat} {f : Nat → Nat} : ∀ n, (∀ k, k < n → Nat.gcd (f k) p = 1) → Nat.gcd (prodN f n) p = 1
  | 0, _ => Nat.gcd_one_left p
  | n + 1, h => gcd_mul.2 ⟨prodN_coprime n (fun k hk => h k (by omega)), h n (by omega)⟩
def sgn (c : Nat) : Int := if c % 2 = 0 then 1 else -1
theorem sgn_succ (c : Nat) : sgn (c + 1) = -sgn c := by
  unfold sgn
  by_cases h : c % 2 = 0
  · rw [if_pos h, if_neg (by omega)]
  · rw [if_neg h, if_pos (by omega)]; rfl
theorem gauss_prod {p a : Nat} (ho : p % 2 = 1) (h : Nat.gcd a p = 1) : ∀ t, t ≤ p / 2 →
    (p : Int) ∣ (prodN (fun k => a * (k + 1)) t : Int) - sgn (sumN (up p a) t) * (prodN (fun k => sig p a k + 1) t : Int)
  | 0, _ => by simp [prodN, sumN, sgn]
  | t + 1, ht => by
    have ih := gauss_prod ho h t (by omega)
    simp only [prodN, sumN]
    have h1 := rho_pos (k := t) h (by omega)
    have h2 := rho_lt a t (show 0 < p by omega)
    have hd := Nat.div_add_mod (a * (t + 1)) p
    have hr : rho p a t = a * (t + 1) % p := rfl
    rw [← hr] at hd
    have hup : up p a t = 1 ∧ sig p a t + 1 + rho p a t = p ∨ up p a t = 0 ∧ sig p a t + 1 = rho p a t := by
      unfold up sig
      split
      · left; exact ⟨rfl, by omega⟩
      · right; exact ⟨rfl, by omega⟩
    clear hr
    have hsg : sgn (sumN (up p a) t + up p a t) = if up p a t = 1 then -sgn (sumN (up p a) t) else sgn (sumN (up p a) t) := by
      rcases hup with ⟨u1, _⟩ | ⟨u1, _⟩
      · rw [u1, if_pos rfl, sgn_succ]
      · rw [u1, if_neg (by omega)]; rfl
    rw [hsg]
    obtain ⟨c, hc⟩ := ih
    generalize sgn (sumN (up p a) t) = e at *
    generalize sig p a t + 1 = s at *
    generalize rho p a t = r at *
    generalize a * (t + 1) / p = q at *
    generalize a * (t + 1) = A at *
    generalize prodN (fun k => a * (k + 1)) t = P at *
    generalize prodN (fun k => sig p a k + 1) t = S at *
    have hA : (A : Int) = (p : Int) * (q : Int) + (r : Int) := by rw [← hd]; simp
    rw [Int.natCast_mul, Int.natCast_mul, hA]
    have hP : (P : Int) = (p : Int) * c + e * (S : Int) := by omega
    rcases hup with ⟨u1, u2⟩ | ⟨u1, u2⟩
    · have hs : (r : Int) = (p : Int) - (s : Int) := by omega
      rw [u1, if_pos rfl]
      refine ⟨(P : Int) * (q : Int) + (P : Int) - c * (s : Int), ?_⟩
      rw [hs, hP]
      grind
    · rw [u1, if_neg (by omega)]
      have hs : (r : Int) = (s : Int) := by omega
      refine ⟨(P : Int) * (q : Int) + c * (s : Int), ?_⟩
      rw [hs, hP]
      grind
theorem euler {p a : Nat} (hp : Prime p) (ho : p % 2 = 1) (h : Nat.gcd a p = 1) : (p : Int) ∣ (a ^ (p / 2) : Nat) - jac a p := by
  have h1 := gauss_prod ho h (p / 2) (Nat.le_refl _)
  have hlt := hp.1
  obtain ⟨t, ht⟩ := sig_perm hlt ho h
  rw [prodN_perm ht (fun k => k + 1), prodN_mul (fun _ => a) (fun k => k + 1), prodN_const] at h1
  have hj : jac a p = sgn (sumN (up p a) (p / 2)) := by
    unfold jac; rw [if_pos h]; rfl
  rw [← hj] at h1
  have hf : Nat.gcd (prodN (fun k => k + 1) (p / 2)) p = 1 := prodN_coprime _ (fun k hk => hp.gcd (fun hd => by have := Nat.le_of_dvd (by omega) hd; omega))
  generalize prodN (fun k => k + 1) (p / 2) = f at *
  have e : ((a ^ (p / 2) * f : Nat) : Int) - jac a p * (f : Int) = (f : Int) * ((a ^ (p / 2) : Nat) - jac a p) := by rw [Int.natCast_mul]; grind
  rw [e] at h1
  have h2 : p ∣ f * ((a ^ (p / 2) : Nat) - jac a p).natAbs := by
    have := Int.natAbs_dvd_natAbs.2 h1
    rwa [Int.natAbs_mul, Int.natAbs_natCast, Int.natAbs_natCast] at this
  have h3 : p ∣ ((a ^ (p / 2) : Nat) - jac a p).natAbs := Nat.Coprime.dvd_of_dvd_mul_left (by rw [Nat.Coprime, Nat.gcd_comm]; exact hf) h2
  exact Int.natAbs_dvd_natAbs.1 (by rwa [Int.natAbs_natCast])
theorem euler_test {p a : Nat} (hp : Prime p) (ho : p % 2 = 1) (h : a % p ≠ 0) : jac a p = if a ^ (p / 2) % p = 1 then 1 else -1 := by
  have hg := hp.gcd (fun hd => h (Nat.mod_eq_zero_of_dvd hd))
  have he := euler hp ho hg
  have hlt := hp.1
  rcases jac_sq_le a p with hj | hj | hj
  · exfalso
    unfold jac at hj
    rw [if_pos hg] at hj
    split at hj <;> omega
  · rw [hj] at he ⊢
    have : ((a ^ (p / 2) : Nat) : Int) % p = 1 := by
      obtain ⟨c, hc⟩ := he
      rw [show ((a ^ (p / 2) : Nat) : Int) = 1 + (p : Int) * c by omega, Int.add_mul_emod_self_left, Int.emod_eq_of_lt (by omega) (by omega)]
    rw [if_pos (by omega)]
  · rw [hj] at he ⊢
    have : ((a ^ (p / 2) : Nat) : Int) % p = (p : Int) - 1 := by
      obtain ⟨c, hc⟩ := he
      rw [show ((a ^ (p / 2) : Nat) : Int) = ((p : Int) - 1) + (p : Int) * (c - 1) by grind, Int.add_mul_emod_self_left, Int.emod_eq_of_lt (by omega) (by omega)]
    rw [if_neg (by omega)]
end Jac
end Go.Proofs.YtefeijofhocnpaaGreatDoor
namespace Go.Proofs.YtefeijofhocnpaaGreatDoor
namespace Jac
def jz (x : Int) (n : Nat) : Int := jac (x % (n : Int)).toNat n
theorem jz_nat (a n : Nat) : jz (a : Int) n = jac a n := by
  unfold jz
  rw [show ((a : Int) % (n : Int)).toNat = a % n by omega, jac_mod]
theorem jz_res {x : Int} {n m : Nat} (hn : 0 < n) (hd : m ∣ n) : jac (x % (n : Int)).toNat m = jz x m := by
  unfold jz
  have h0 : 0 ≤ x % (n : Int) := Int.emod_nonneg _ (by omega)
  rw [← jac_mod]
  congr 1
  have e : (((x % (n : Int)).toNat % m : Nat) : Int) = x % (m : Int) := by
    rw [Int.natCast_emod, Int.toNat_of_nonneg h0]
    exact Int.emod_emod_of_dvd _ (Int.natCast_dvd_natCast.2 hd)
  omega
theorem jz_below (x : Int) {a b : Nat} (ha : a % 2 = 1) (hb : b % 2 = 1) : jz x (a * b) = jz x a * jz x b := by
  have hpos : 0 < a * b := Nat.mul_pos (by omega) (by omega)
  have h := jac_below (x % ((a * b : Nat) : Int)).toNat ha hb
  rw [jz_res hpos (Nat.dvd_mul_right a b), jz_res hpos (Nat.dvd_mul_left b a)] at h
  exact h
theorem jz_one (x : Int) : jz x 1 = 1 := by unfold jz; exact jac_one _
theorem jz_zero {x : Int} {n : Nat} (hn : 1 < n) (h : x % (n : Int) = 0) : jz x n = 0 := by
  unfold jz
  rw [h]
  unfold jac
  rw [if_neg]
  show ¬ Nat.gcd 0 n = 1
  rw [Nat.gcd_zero_left]; omega
theorem jz_round {x : Int} {n a s m : Nat} (ho : n % 2 = 1) (ha : x % (n : Int) = (a : Int)) (hs : a = 2 ^ s * (2 * m + 1)) :
    jz x n = (if s % 2 = 1 ∧ (n % 8 = 3 ∨ n % 8 = 5) then -1 else 1) * (if n % 4 = 3 ∧ (2 * m + 1) % 4 = 3 then -1 else 1) * jz (n : Int) (2 * m + 1) := by
  unfold jz
  rw [ha, Int.toNat_natCast, hs, jac_pow_two ho, jac_recip ho (by omega)]
  have e : jac ((n : Int) % ((2 * m + 1 : Nat) : Int)).toNat (2 * m + 1) = jac n (2 * m + 1) := jz_nat n (2 * m + 1)
  rw [e]
  have t : turn (2 * m + 1) n = if n % 4 = 3 ∧ (2 * m + 1) % 4 = 3 then -1 else 1 := by
    unfold turn
    by_cases h : n % 4 = 3 ∧ (2 * m + 1) % 4 = 3
    · rw [if_pos h, if_pos ⟨h.2, h.1⟩]
    · rw [if_neg h, if_neg (fun k => h ⟨k.2, k.1⟩)]
  rw [t, Int.mul_assoc]
def Rough (p y : Nat) : Prop := ∀ d, d ∣ y → d = 1 ∨ p ≤ d
theorem rough_prime {p y : Nat} (hp : 1 < p) (h : Rough p y) (hd : p ∣ y) : Prime p := by
  refine ⟨hp, fun d h1 => ?_⟩
  rcases h d (Nat.dvd_trans h1 hd) with h2 | h2
  · exact Or.inl h2
  · have := Nat.le_of_dvd (by omega) h1
    exact Or.inr (by omega)
theorem rough_div {p y z : Nat} (h : Rough p y) (hd : z ∣ y) : Rough p z := fun d h1 => h d (Nat.dvd_trans h1 hd)
theorem rough_three {y : Nat} (ho : y % 2 = 1) : Rough 3 y := fun d hd => by
  by_cases h2 : d % 2 = 0
  · have : 2 ∣ y := Nat.dvd_trans (Nat.dvd_of_mod_eq_zero h2) hd
    omega
  · by_cases h1 : d = 1
    · exact Or.inl h1
    · exact Or.inr (by omega)
theorem rough_next {p y : Nat} (h : Rough p y) (ho : y % 2 = 1) (hp : p % 2 = 1) (hn : y % p ≠ 0) : Rough (p + 2) y := fun d hd => by
  rcases h d hd with h1 | h1
  · exact Or.inl h1
  · by_cases h2 : d % 2 = 0
    · have : 2 ∣ y := Nat.dvd_trans (Nat.dvd_of_mod_eq_zero h2) hd
      omega
    · by_cases h3 : d = p
      · subst h3
        exact absurd (Nat.mod_eq_zero_of_dvd hd) hn
      · exact Or.inr (by omega)
theorem rough_end {p y : Nat} (h : Rough p y) (hy : 1 < y) : p ≤ y := by
  rcases h y (Nat.dvd_refl y) with h1 | h1 <;> omega
theorem jz_prime {x : Int} {p y a : Nat} (hp : Prime p) (hp2 : p % 2 = 1) (ho : y % 2 = 1) (ha : x % (p : Int) = (a : Int)) :
    jz x (p * y) = (if a = 0 then 0 else if a ^ (p / 2) % p = 1 then 1 else -1) * jz x y := by
  rw [jz_below x hp2 ho]
  congr 1
  have hlt := hp.1
  by_cases h0 : a = 0
  · rw [if_pos h0]
    exact jz_zero hlt (by rw [ha, h0]; rfl)
  · rw [if_neg h0]
    have hap : a % p ≠ 0 := by
      have : (a : Int) < p := by rw [← ha]; exact Int.emod_lt_of_pos _ (by omega)
      rw [Nat.mod_eq_of_lt (by omega)]; exact h0
    unfold jz
    rw [ha, Int.toNat_natCast]
    exact euler_test hp hp2 hap
end Jac
end Go.Proofs.YtefeijofhocnpaaGreatDoor
namespace Go.Proofs.YtefeijofhocnpaaGreatDoor
open Go.Proofs
theorem tz_word {xs : List Nat} {k t : Nat} (hv : val B64 (xs.take k) = 0) (ht : xs[k]? = some t) (h0 : t ≠ 0) (hB : t < B64) :
    ∃ m, val B64 xs = 2 ^ (64 * k + Lib.ctz 64 t) * (2 * m + 1) ∧ Lib.ctz 64 t < 64 := by
  have hc : Lib.ctz 64 t = Lib.ctzFrom 64 t := by unfold Lib.ctz; rw [if_neg h0]
  obtain ⟨m, hm, hlt⟩ := Lib.ctzFrom_spec 64 t (by omega) (by have : B64 = 2 ^ 64 := rfl; omega)
  rw [hc]
  generalize Lib.ctzFrom 64 t = c at *
  obtain ⟨hk, hkt⟩ := List.getElem?_eq_some_iff.1 ht
  have h1 := val_take_drop (b := B64) xs k (by omega)
  have h2 : val B64 (xs.drop k) = t + B64 * val B64 (xs.drop (k + 1)) := by
    rw [List.drop_eq_getElem_cons hk, val_cons, hkt]
  generalize val B64 (xs.drop (k + 1)) = v at h2
  obtain ⟨d, hd⟩ : ∃ d, 64 = c + 1 + d := ⟨64 - (c + 1), by omega⟩
  have e3 : B64 = 2 ^ c * (2 * 2 ^ d) := by
    have : B64 = 2 ^ 64 := rfl
    rw [this, hd, Nat.pow_add, Nat.pow_succ]; grind
  have e4 : B64 ^ k = 2 ^ (64 * k) := by rw [Nat.pow_mul]; rfl
  refine ⟨m + 2 ^ d * v, ?_, hlt⟩
  rw [h1, hv, Nat.zero_add, h2, hm, e4, e3, Nat.pow_add]
  generalize 2 ^ (64 * k) = P
  generalize 2 ^ c = C
  generalize 2 ^ d = D
  grind
end Go.Proofs.YtefeijofhocnpaaGreatDoor
