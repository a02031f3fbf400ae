/- For the claim of laws.The greatest number whose square is at most x (FnSqrt).: SpecQ, LawSqrt, LawFnSqrt. -/
import Derived.Test.YtefeijofhocnpaaGreatDoorKqD5
import Derived.Test.YtefeijofhocnpaaGreatDoorKqF1
import Derived.Test.YtefeijofhocnpaaGreatDoorKqSpec3
set_option linter.unusedVariables false
set_option linter.unusedSimpArgs false
namespace Go.Proofs.YtefeijofhocnpaaGreatDoor
open Go.RowKit Go.Proofs.YtefeijofhocnpaaGreatDoor.PSpec Go.Proofs.YtefeijofhocnpaaGreatDoorW.PrintWords Go.Proofs.YtefeijofhocnpaaGreatDoorW.PrintLast Go.Proofs.YtefeijofhocnpaaGreatDoorW.PrintMore
theorem cmp_top {xs ys : List Nat} {i x y : Nat} (dx : Digs B16 xs) (ht : xs.drop (i + 1) = ys.drop (i + 1)) (hx : i < xs.length) (hy : i < ys.length) (ex : xs[i] = x) (ey : ys[i] = y) (h : x < y) : val B16 xs < val B16 ys := by
  have h1 := val_take_drop (b := B16) xs i (by omega)
  have h2 := val_take_drop (b := B16) ys i (by omega)
  rw [List.drop_eq_getElem_cons hx, ex] at h1
  rw [List.drop_eq_getElem_cons hy, ey, ← ht] at h2
  have h3 := val_lt _ (dx.take i)
  rw [List.length_take, Nat.min_eq_left (by omega)] at h3
  simp only [val] at h1 h2
  generalize val B16 (xs.drop (i + 1)) = T at h1 h2
  have h4 := Nat.mul_le_mul (Nat.le_refl (B16 ^ i)) (show x + 1 + B16 * T ≤ y + B16 * T by omega)
  have h5 : B16 ^ i * (x + 1 + B16 * T) = B16 ^ i * (x + B16 * T) + B16 ^ i := by grind
  omega
theorem spec_Cmp_l0 (xs ys : List Nat) (hl : xs.length = ys.length) (dx : Digs B16 xs) (dy : Digs B16 ys) (hb : xs.length ≤ 1099511627776) : ∀ (i k : Nat), i ≤ xs.length → i < k → xs.drop i = ys.drop i →
    ∃ r, spec_Cmp.l0 k (ints xs) (ints ys) ((i : Int) - 1) = some r ∧ (r ≤ 0 ↔ val B16 xs ≤ val B16 ys) := by
  intro i
  induction i with
  | zero =>
    intro k _ hk hd
    obtain ⟨k, rfl⟩ : ∃ k', k = k' + 1 := ⟨k - 1, by omega⟩
    simp only [List.drop_zero] at hd
    subst hd
    refine ⟨0, ?_, by simp⟩
    simp only [spec_Cmp.l0]
    rw [if_neg (by omega)]
  | succ i ih =>
    intro k hi hk hd
    obtain ⟨k, rfl⟩ : ∃ k', k = k' + 1 := ⟨k - 1, by omega⟩
    have hx : i < xs.length := by omega
    have hy : i < ys.length := by omega
    obtain ⟨x, ex⟩ : ∃ x, xs[i] = x := ⟨_, rfl⟩
    obtain ⟨y, ey⟩ : ∃ y, ys[i] = y := ⟨_, rfl⟩
    have hxB : x < 65536 := ex ▸ dx.get i hx
    have hyB : y < 65536 := ey ▸ dy.get i hy
    have hrx : rd (ints xs) (i : Int) = (x : Int) := by rw [rd_getD, List.getD_eq_getElem?_getD, List.getElem?_eq_getElem hx, ex]; rfl
    have hry : rd (ints ys) (i : Int) = (y : Int) := by rw [rd_getD, List.getD_eq_getElem?_getD, List.getElem?_eq_getElem hy, ey]; rfl
    have e0 : ((i + 1 : Nat) : Int) - 1 = (i : Int) := by omega
    rw [e0]
    have I1 : (i : Int) ≥ 0 := by omega
    have I2 : (i : Int) < ((ints xs).length : Int) := by rw [ints_length]; omega
    have I3 : (i : Int) < ((ints ys).length : Int) := by rw [ints_length]; omega
    have W1 := Lib.hid (wr64 (z := (i : Int) - 1) (by omega) (by omega))
    have W2 := Lib.hid (wr64 (z := (x : Int) - (y : Int)) (by omega) (by omega))
    simp only [spec_Cmp.l0]
    rw [if_pos I1, if_pos I1, if_pos I2, if_pos I3, hrx, hry, W1.out, W2.out]
    by_cases hxy : x = y
    · rw [if_pos (by omega)]
      exact ih k (by omega) (by omega) (by rw [List.drop_eq_getElem_cons hx, List.drop_eq_getElem_cons hy, ex, ey, hxy, hd])
    · rw [if_neg (by omega)]
      refine ⟨_, rfl, ?_⟩
      rcases Nat.lt_or_ge x y with h | h
      · have := cmp_top dx hd hx hy ex ey h
        omega
      · have := cmp_top dy hd.symm hy hx ey ex (by omega)
        omega
theorem spec_Cmp_any (X Y : Nat) (hx : (ds X).length ≤ 1099511627776) (hy : (ds Y).length ≤ 1099511627776) : ∀ k, (ds X).length < k → ∃ r, spec_Cmp.f k (ints (ds X)) (ints (ds Y)) = some r ∧ (r ≤ 0 ↔ X ≤ Y) := by
  intro k hk
  unfold spec_Cmp.f
  by_cases hl : (ds X).length = (ds Y).length
  · rw [if_pos (by rw [ints_length, ints_length]; omega), ints_length]
    have W1 := Lib.hid (wr64 (z := ((ds X).length : Int) - 1) (by omega) (by omega))
    rw [W1.out]
    have h := spec_Cmp_l0 (ds X) (ds Y) hl (ds_ds _) (ds_ds _) hx (ds X).length k (Nat.le_refl _) hk (by rw [List.drop_eq_nil_of_le (Nat.le_refl _), List.drop_eq_nil_of_le (by omega)])
    rw [val_ds, val_ds] at h
    exact h
  · rw [if_neg (by rw [ints_length, ints_length]; omega), ints_length, ints_length]
    have W1 := Lib.hid (wr64 (z := ((ds X).length : Int) - ((ds Y).length : Int)) (by omega) (by omega))
    rw [W1.out]
    refine ⟨_, rfl, ?_⟩
    rcases Nat.lt_or_ge Y X with h | h
    · have := ds_len_mono (Nat.le_of_lt h); omega
    · have := ds_len_mono h; omega
theorem two_ds (i : Nat) : ds (2 ^ i) = List.replicate (i / 16) 0 ++ [2 ^ (i % 16)] := by
  have hlt : 2 ^ (i % 16) < 65536 := Nat.lt_of_lt_of_le (Nat.pow_lt_pow_right (by decide) (Nat.mod_lt i (show 0 < 16 by decide))) (by decide)
  have hpos := Nat.two_pow_pos (i % 16)
  have hD : Digs B16 (List.replicate (i / 16) 0 ++ [2 ^ (i % 16)]) := (Digs.replicate B16_pos _).snoc hlt
  have hv : val B16 (List.replicate (i / 16) 0 ++ [2 ^ (i % 16)]) = 2 ^ i := by
    rw [val_snoc, List.length_replicate, val_replicate, Nat.zero_add, show B16 = 2 ^ 16 from rfl, ← Nat.pow_mul, ← Nat.pow_add]
    congr 1
    omega
  rw [← hv]
  refine ds_val hD ?_
  unfold Norm
  rw [List.getLast?_append]
  simp
theorem set_last (q t : Nat) : (List.replicate (q + 1) 0).set q t = List.replicate q 0 ++ [t] := by
  rw [List.replicate_succ', List.set_append_right _ _ (by rw [List.length_replicate]; exact Nat.le_refl _), List.length_replicate, Nat.sub_self]
  rfl
theorem spec_Bit_any (i : Nat) (hi : i < 1000000) : spec_Bit.f (i : Int) = some (ints (ds (2 ^ i))) := by
  have hlt : 2 ^ (i % 16) < 65536 := Nat.lt_of_lt_of_le (Nat.pow_lt_pow_right (by decide) (Nat.mod_lt i (show 0 < 16 by decide))) (by decide)
  have e1 : Int.tdiv (i : Int) 16 = ((i / 16 : Nat) : Int) := by rw [Int.tdiv_eq_ediv_of_nonneg (by omega)]; rfl
  have e2 : Int.tmod (i : Int) 16 = ((i % 16 : Nat) : Int) := by rw [Int.tmod_eq_emod_of_nonneg (by omega)]; rfl
  obtain ⟨q, hq⟩ : ∃ q, i / 16 = q := ⟨_, rfl⟩
  obtain ⟨m, hm⟩ : ∃ m, i % 16 = m := ⟨_, rfl⟩
  have hqB : q < 1000000 := by omega
  have hmB : m < 16 := by omega
  rw [two_ds, hq, hm]
  rw [hq] at e1
  rw [hm] at e2 hlt
  have W1 := Lib.hid (wr64 (z := (q : Int)) (by omega) (by omega))
  have W2 := Lib.hid (wr64 (z := (q : Int) + 1) (by omega) (by omega))
  have hsh : shl .i64 1 (m : Int) = ((2 ^ m : Nat) : Int) := by
    have : m ≤ 64 := by omega
    show IntKind.i64.wrap (1 * 2 ^ min ((m : Int)).toNat 64) = _
    rw [Int.toNat_natCast, Nat.min_eq_left this, Int.one_mul, IntKind.wrap_i64]
    have e : ((2 ^ m : Nat) : Int) = (2 : Int) ^ m := by norm_cast
    rw [← e]
    clear e W1 W2
    generalize 2 ^ m = P at hlt ⊢
    omega
  unfold spec_Bit.f
  rw [e1, e2, W1.out, W2.out]
  rw [if_pos (by omega), if_pos (by omega)]
  simp only [Option.bind_some]
  rw [if_pos (by omega), if_pos (by omega), if_pos (by rw [List.length_replicate]; omega), hsh, Int.toNat_natCast, show ((q : Int) + 1).toNat = q + 1 by omega]
  have e : List.replicate (q + 1) (0 : Int) = ints (List.replicate (q + 1) 0) := by unfold ints; rw [List.map_replicate]; rfl
  rw [e, ints_set, set_last]
theorem and_one (v : Nat) (hv : v < 65536) : Go.bits .and .i64 (v : Int) 1 = ((v % 2 : Nat) : Int) := by
  show IntKind.i64.wrap ((BitVec.ofInt 64 (v : Int) &&& BitVec.ofInt 64 1).toNat : Int) = _
  have h2 : (BitVec.ofInt 64 (v : Int)).toNat = v := by
    rw [BitVec.ofInt_natCast, BitVec.toNat_ofNat]; exact Nat.mod_eq_of_lt (by omega)
  rw [BitVec.toNat_and, h2, show (BitVec.ofInt 64 1).toNat = 1 from rfl, Nat.and_one_is_mod, IntKind.wrap_i64]
  omega
theorem digit_at (X q : Nat) (hq : q < (ds X).length) : ∃ T, X / B16 ^ q = (ds X)[q] + B16 * T := by
  have h1 := val_take_drop (b := B16) (ds X) q (by omega)
  have h3 := val_lt _ ((ds_ds X).take q)
  rw [List.length_take, Nat.min_eq_left (by omega)] at h3
  rw [val_ds, List.drop_eq_getElem_cons hq] at h1
  simp only [val] at h1
  refine ⟨val B16 ((ds X).drop (q + 1)), ?_⟩
  generalize val B16 ((ds X).drop (q + 1)) = T at *
  have hp : 0 < B16 ^ q := Nat.pow_pos B16_pos
  rw [show X / B16 ^ q = _ from congrArg (fun z => z / B16 ^ q) h1, Nat.add_comm, Nat.mul_add_div hp, Nat.div_eq_of_lt h3]
  rfl
theorem spec_Has_any (X i : Nat) (hi : i < 16 * (ds X).length) (hb : (ds X).length ≤ 1099511627776) : ∃ r, spec_Has.f (ints (ds X)) (i : Int) = some r ∧ (r = false → X < 2 ^ (i + 1) → X < 2 ^ i) := by
  have e1 : Int.tdiv (i : Int) 16 = ((i / 16 : Nat) : Int) := by rw [Int.tdiv_eq_ediv_of_nonneg (by omega)]; rfl
  have e2 : Int.tmod (i : Int) 16 = ((i % 16 : Nat) : Int) := by rw [Int.tmod_eq_emod_of_nonneg (by omega)]; rfl
  obtain ⟨q, hq⟩ : ∃ q, i / 16 = q := ⟨_, rfl⟩
  obtain ⟨m, hm⟩ : ∃ m, i % 16 = m := ⟨_, rfl⟩
  have hqB : q < (ds X).length := by omega
  have hmB : m < 16 := by omega
  have him : i = 16 * q + m := by omega
  rw [hq] at e1
  rw [hm] at e2
  obtain ⟨T, hT⟩ := digit_at X q hqB
  obtain ⟨x, ex⟩ : ∃ x, (ds X)[q] = x := ⟨_, rfl⟩
  rw [ex] at hT
  have hxB : x < 65536 := ex ▸ (ds_ds X).get q hqB
  have hrx : rd (ints (ds X)) (q : Int) = (x : Int) := by rw [rd_getD, List.getD_eq_getElem?_getD, List.getElem?_eq_getElem hqB, ex]; rfl
  have hsh : shr .i64 (x : Int) (m : Int) = ((x / 2 ^ m : Nat) : Int) := by
    have : m ≤ 64 := by omega
    show (x : Int) / 2 ^ min ((m : Int)).toNat 64 = _
    rw [Int.toNat_natCast, Nat.min_eq_left this]
    norm_cast
  have hle : x / 2 ^ m ≤ x := Nat.div_le_self _ _
  have W1 := Lib.hid (wr64 (z := (q : Int)) (by omega) (by omega))
  refine ⟨(((x / 2 ^ m % 2 : Nat) : Int) == 1), ?_, ?_⟩
  · unfold spec_Has.f
    rw [e1, e2, W1.out, if_pos (by rw [ints_length]; omega), if_pos (by omega), if_pos (by omega), hrx, hsh, and_one _ (by omega)]
  · intro h1 h2
    have h3 : x / 2 ^ m % 2 ≠ 1 := by
      intro h
      rw [h] at h1
      exact absurd h1 (by decide)
    have hp : 0 < 2 ^ m := Nat.two_pow_pos m
    have h16 : 2 ^ (m + 1) ≤ 65536 := Nat.le_trans (Nat.pow_le_pow_right (by decide) (show m + 1 ≤ 16 by omega)) (by decide)
    have hBq : B16 ^ q = 2 ^ (16 * q) := by rw [show B16 = 2 ^ 16 from rfl, ← Nat.pow_mul]
    have h4 : X / B16 ^ q < 2 ^ (m + 1) := by
      rw [Nat.div_lt_iff_lt_mul (Nat.pow_pos B16_pos), hBq, ← Nat.pow_add]
      rw [him] at h2
      rwa [show m + 1 + 16 * q = 16 * q + m + 1 by omega]
    rw [hT] at h4
    have hT0 : T = 0 := by
      rcases Nat.eq_zero_or_pos T with h | h
      · exact h
      · have : B16 * 1 ≤ B16 * T := Nat.mul_le_mul (Nat.le_refl _) h
        have e16 : B16 = 65536 := rfl
        omega
    subst hT0
    rw [Nat.mul_zero, Nat.add_zero] at hT h4
    have h5 : x / 2 ^ m < 2 := by
      rw [Nat.div_lt_iff_lt_mul hp]
      rw [Nat.pow_succ] at h4
      omega
    have h6 : x / 2 ^ m = 0 := by
      revert h3 h5
      generalize x / 2 ^ m = y
      intro h3 h5
      omega
    have h7 : x < 2 ^ m := by
      rcases Nat.lt_or_ge x (2 ^ m) with h | h
      · exact h
      · have := Nat.div_pos h hp; omega
    rw [← hT, Nat.div_lt_iff_lt_mul (Nat.pow_pos B16_pos), hBq, ← Nat.pow_add] at h7
    rw [him]
    rwa [show m + 16 * q = 16 * q + m by omega] at h7
theorem spec_Len_l0 (X : Nat) (hb : (ds X).length ≤ 1000000) : ∀ (n k : Nat), n < k → n ≤ 16 * (ds X).length → X < 2 ^ n → ∃ b : Nat, spec_Len.l0 k (ints (ds X)) (n : Int) = some (b : Int) ∧ X < 2 ^ b ∧ b ≤ n := by
  intro n
  induction n with
  | zero =>
    intro k hk _ hX
    obtain ⟨k, rfl⟩ : ∃ k', k = k' + 1 := ⟨k - 1, by omega⟩
    refine ⟨0, ?_, hX, Nat.le_refl _⟩
    simp only [spec_Len.l0]
    rw [if_neg (by omega)]
  | succ n ih =>
    intro k hk hn hX
    obtain ⟨k, rfl⟩ : ∃ k', k = k' + 1 := ⟨k - 1, by omega⟩
    obtain ⟨r, h1, h2⟩ := spec_Has_any X n (by omega) (by omega)
    have W1 := Lib.hid (wr64 (z := (n : Int)) (by omega) (by omega))
    simp only [spec_Len.l0]
    rw [if_pos (by omega), show ((n + 1 : Nat) : Int) - 1 = (n : Int) by omega, W1.out, h1]
    simp only [Option.bind_some]
    cases r with
    | true => exact ⟨n + 1, by rw [if_pos rfl], hX, Nat.le_refl _⟩
    | false =>
      obtain ⟨b, g1, g2, g3⟩ := ih k (by omega) (by omega) (h2 rfl hX)
      exact ⟨b, by rw [if_neg (by decide)]; exact g1, g2, by omega⟩
theorem spec_Len_any (X k : Nat) (hb : (ds X).length ≤ 1000000) (hk : 16 * (ds X).length < k) : ∃ b : Nat, spec_Len.f k (ints (ds X)) = some (b : Int) ∧ X < 2 ^ b ∧ b ≤ 16 * (ds X).length := by
  unfold spec_Len.f
  have W1 := Lib.hid (wr64 (z := 16 * ((ds X).length : Int)) (by omega) (by omega))
  rw [ints_length, W1.out, show 16 * ((ds X).length : Int) = ((16 * (ds X).length : Nat) : Int) by omega]
  refine spec_Len_l0 X hb _ k hk (Nat.le_refl _) ?_
  have := val_lt _ (ds_ds X)
  rw [val_ds, show B16 = 2 ^ 16 from rfl, ← Nat.pow_mul] at this
  exact this
theorem leO_up {α : Type} {f : Nat → Option α} (h : ∀ k, LeO (f k) (f (k + 1))) {k : Nat} {r : α} (hk : f k = some r) : ∀ j, k ≤ j → f j = some r := by
  intro j hj
  induction j with
  | zero => rwa [show k = 0 by omega] at hk
  | succ j ih =>
    rcases Nat.lt_or_ge j k with h1 | h1
    · rwa [show k = j + 1 by omega] at hk
    · exact h j r (ih h1)
theorem ds_add_len (a b L : Nat) (ha : (ds a).length ≤ L) (hb : (ds b).length ≤ L) : (ds (a + b)).length ≤ L + 1 := by
  have h1 := val_lt _ (ds_ds a)
  have h2 := val_lt _ (ds_ds b)
  rw [val_ds] at h1 h2
  have h3 := Nat.pow_le_pow_right (n := B16) B16_pos ha
  have h4 := Nat.pow_le_pow_right (n := B16) B16_pos hb
  refine ds_len_of_lt ?_
  have h6 : B16 ^ L * 2 ≤ B16 ^ L * B16 := Nat.mul_le_mul (Nat.le_refl _) (by decide)
  rw [Nat.pow_succ]
  generalize B16 ^ L = P at *
  omega
theorem ds_mul_len (a b : Nat) : (ds (a * b)).length ≤ (ds a).length + (ds b).length := by
  have h1 := val_lt _ (ds_ds a)
  have h2 := val_lt _ (ds_ds b)
  rw [val_ds] at h1 h2
  refine ds_len_of_lt ?_
  rw [Nat.pow_add]
  exact Nat.mul_lt_mul'' h1 h2
theorem ds_two_len (i L : Nat) (h : i < 16 * L) : (ds (2 ^ i)).length ≤ L := by
  refine ds_len_of_lt ?_
  rw [show B16 = 2 ^ 16 from rfl, ← Nat.pow_mul]
  exact Nat.pow_lt_pow_right (by decide) h
theorem spec_Root_l0 (a R : Nat) (hR : IsRoot a R) (hb : (ds a).length ≤ 10000) : ∀ (d out : Nat), d ≤ 1000000 → (ds (2 ^ d)).length ≤ 20000 → BitI a out d → ∃ k, ∀ j, k ≤ j → spec_Root.l0 j (ints (ds a)) (ints (ds out)) ((d : Int) - 1) = some (ints (ds R)) := by
  intro d
  induction d with
  | zero =>
    intro out _ _ hI
    obtain rfl : out = R := hI.end_.uniq hR
    refine ⟨1, fun j hj => ?_⟩
    obtain ⟨j, rfl⟩ : ∃ j', j = j' + 1 := ⟨j - 1, by omega⟩
    simp only [spec_Root.l0]
    rw [if_neg (by omega)]
  | succ d ih =>
    intro out hd hdl hI
    have hdl2 : (ds (2 ^ d)).length ≤ 20000 := Nat.le_trans (ds_len_mono (Nat.pow_le_pow_right (by decide) (Nat.le_succ d))) hdl
    have hol : (ds out).length ≤ 10000 := Nat.le_trans (ds_len_mono (by
      have := hI.1
      rcases Nat.eq_zero_or_pos out with h | h
      · omega
      · exact Nat.le_trans (Nat.le_mul_of_pos_left _ h) this)) hb
    obtain ⟨n, hn⟩ : ∃ n, out + 2 ^ d = n := ⟨_, rfl⟩
    have hnl : (ds n).length ≤ 20001 := by rw [← hn]; exact ds_add_len _ _ 20000 (by omega) hdl2
    have hml : (ds (n * n)).length ≤ 50000 := Nat.le_trans (ds_mul_len n n) (by omega)
    obtain ⟨k1, e1⟩ := spec_Add_any (ds out) (ds (2 ^ d)) (ds_ds _) (ds_ds _) (by omega) (by omega)
    obtain ⟨k2, e2⟩ := spec_Mul_any (ds n) (ds n) (ds_ds _) (ds_ds _) (by omega)
    rw [val_ds, val_ds, hn] at e1
    rw [val_ds] at e2
    have u1 := leO_up (f := fun k => spec_Add.f k (ints (ds out)) (ints (ds (2 ^ d)))) (fun k => spec_Add.mono _ _ k) e1
    have u2 := leO_up (f := fun k => spec_Mul.f k (ints (ds n)) (ints (ds n))) (fun k => spec_Mul.mono _ _ k) e2
    have HC := Lib.hid (spec_Cmp_any (n * n) a (by omega) (by omega))
    have W1 := Lib.hid (wr64 (z := (d : Int) - 1) (by omega) (by omega))
    have HBt := Lib.hid (spec_Bit_any d (by omega))
    have hnext : ∃ out', (out' = if n * n ≤ a then n else out) ∧ BitI a out' d := by
      by_cases h : n * n ≤ a
      · exact ⟨n, by rw [if_pos h], by rw [← hn]; exact hI.set (by rw [hn]; exact h)⟩
      · exact ⟨out, by rw [if_neg h], hI.skip (by rw [hn]; omega)⟩
    obtain ⟨out', ho', hI'⟩ := hnext
    obtain ⟨k3, e3⟩ := ih out' (by omega) hdl2 hI'
    refine ⟨k1 + k2 + k3 + (ds (n * n)).length + 2, fun j hj => ?_⟩
    obtain ⟨j, rfl⟩ : ∃ j', j = j' + 1 := ⟨j - 1, by omega⟩
    obtain ⟨r, c1, c2⟩ := HC.out j (by omega)
    have f1 : spec_Add.f j (ints (ds out)) (ints (ds (2 ^ d))) = some (ints (ds n)) := u1 j (by omega)
    have f2 : spec_Mul.f j (ints (ds n)) (ints (ds n)) = some (ints (ds (n * n))) := u2 j (by omega)
    have f3 := e3 j (by omega)
    have e0 : ((d + 1 : Nat) : Int) - 1 = (d : Int) := by omega
    have I1 : (d : Int) ≥ 0 := by omega
    rw [e0, spec_Root.l0, if_pos I1, HBt.out, Option.bind_some, f1, Option.bind_some, f2, Option.bind_some, c1, Option.bind_some, W1.out]
    by_cases h : n * n ≤ a
    · rw [if_pos (c2.2 h)]
      rw [if_pos h] at ho'
      rw [ho'] at f3
      exact f3
    · rw [if_neg (fun h1 => h (c2.1 h1))]
      rw [if_neg h] at ho'
      rw [ho'] at f3
      exact f3
theorem root_sp (v : Value) (a R : Nat) (w : World) (h : SpN w v a) (hR : IsRoot a R) (hb : (ds a).length ≤ 10000) : Calls Tryz.prog 34 #[v] w fun e w' => ∃ v', e = .returned v' ∧ SpN w' v' R ∧ Upd NoF w w' := by
  obtain ⟨A, c, rfl, h1, h2⟩ := h
  obtain ⟨b, g1, g2, g3⟩ := spec_Len_any a (16 * (ds a).length + 1) (by omega) (by omega)
  have u0 := leO_up (f := fun k => spec_Len.f k (ints (ds a))) (fun k => spec_Len.mono _ k) g1
  have hd : (ds (2 ^ ((b + 1) / 2 + 1))).length ≤ 20000 := ds_two_len _ _ (by omega)
  obtain ⟨k, hk⟩ := spec_Root_l0 a R hR hb ((b + 1) / 2 + 1) 0 (by omega) hd (BitI.start g2)
  obtain ⟨K, hK⟩ : ∃ K, K = k + (16 * (ds a).length + 1) := ⟨_, rfl⟩
  have hf : spec_Root.f K (ints (ds a)) = some (ints (ds R)) := by
    have f0 : spec_Len.f K (ints (ds a)) = some (b : Int) := u0 K (by omega)
    have f1 := hk K (by omega)
    unfold spec_Root.f
    rw [f0]
    simp only [Option.bind_some]
    have W1 := Lib.hid (wr64 (z := (b : Int) + 1) (by omega) (by omega))
    have W2 := Lib.hid (wr64 (z := (((b + 1) / 2 : Nat) : Int)) (by omega) (by omega))
    have e1 : Int.tdiv ((b : Int) + 1) 2 = (((b + 1) / 2 : Nat) : Int) := by rw [Int.tdiv_eq_ediv_of_nonneg (by omega)]; omega
    rw [W1.out, e1, W2.out]
    rw [ds_zero, show (((b + 1) / 2 + 1 : Nat) : Int) - 1 = (((b + 1) / 2 : Nat) : Int) by omega] at f1
    exact f1
  have h := spec_Root.calls K A c (ints (ds a)) _ w (by rw [ints_length]; exact h2) (by rw [ints_length]; exact h1) hf
  rw [ints_length] at h
  exact h.mono (fun e w' ⟨v, he, hV, hb⟩ => ⟨v, he, SpN.ofV hV, Upd.ofBelow hb⟩)
end Go.Proofs.YtefeijofhocnpaaGreatDoor
namespace Go.Proofs.YtefeijofhocnpaaGreatDoor
open Go.RowKit
set_option linter.unusedSimpArgs false
structure BoxN (w : World) (g : Nat) (s : Bool) (A : Option Addr) (n c : Nat) : Prop where
  c0 : CellT 33 w g 0 (.bool s)
  c1 : CellT 33 w g 1 (.slice A n c)
theorem BoxN.upd {w w' : World} {g : Nat} {s : Bool} {A : Option Addr} {n c : Nat} (h : BoxN w g s A n c) (u : Upd NoF w w') : BoxN w' g s A n c := ⟨h.c0.upd u (fun h => h), h.c1.upd u (fun h => h)⟩
theorem BoxN.new (w : World) (s : Bool) (A : Option Addr) (n c : Nat) : BoxN (w.alloc (.cells #[.bool s, .slice A n c] 33)) w.heap.size s A n c :=
  ⟨⟨_, heap_alloc_new w _, by simp⟩, ⟨_, heap_alloc_new w _, by simp⟩⟩
end Go.Proofs.YtefeijofhocnpaaGreatDoor
namespace Go.Proofs.YtefeijofhocnpaaGreatDoor
open Go.RowKit
set_option linter.unusedSimpArgs false
theorem root_ex (X : Nat) : ∃ R, IsRoot X R := by
  induction X with
  | zero => exact ⟨0, by decide, by decide⟩
  | succ X ih =>
    obtain ⟨R, h1, h2⟩ := ih
    by_cases h : (R + 1) * (R + 1) ≤ X + 1
    · refine ⟨R + 1, h, ?_⟩
      have : (R + 1 + 1) * (R + 1 + 1) = (R + 1) * (R + 1) + 2 * R + 3 := by grind
      omega
    · exact ⟨R, by omega, by omega⟩
set_option maxRecDepth 1000000 in
set_option maxHeartbeats 3200000 in
theorem FnSqrt_any (v : Value) (n : Nat) (V : Int) (w : World) (hN : NumR w v n V) (hO : NatOne w) (hD : DThr w 40) :
    Calls Tryz.prog 9 #[v] w fun e w' => e = .returned (.bool true) ∧ Upd NoF w w' := by
  have HZ := Lib.hid (fun w' (u : Upd NoF w w') => zz_sp v n V w' (hN.upd u))
  have HG := Lib.hid (fun w' (u : Upd NoF w w') => big_sp v n V 30 w' (hN.upd u))
  have HIN := Lib.hid (fun w' (u : Upd NoF w w') (h : n ≤ 30) => in_sp v n V w' (hN.upd u) (by omega))
  obtain ⟨R, hR⟩ := root_ex V.natAbs
  have HS := Lib.hid (fun w' (u : Upd NoF w w') (h : n ≤ 30) (h0 : 0 ≤ V) => implSqrt_any 40 v n R V w' (hN.upd u) h0 hR (hO.upd u) (hD.upd u (fun _ h => h)) (by omega) (by omega))
  have HP := Lib.hid (fun w' (u : Upd NoF w w') (h : n ≤ 30) (h0 : V < 0) => implSqrt_neg v n V w' (hN.upd u) h0 (by omega))
  have hlen := hN.len
  obtain ⟨s, A, c, xs, rfl, hN2⟩ := id hN
  have HW := Lib.hid (And.intro hR hlen)
  clear hN hN2 hO hD hR
  go_enter Tryz.func9, Tryz.ntmps9
  go_wp2_with fail
  have hb := BoxN.new w s A n c
  have u1 : Upd NoF w (w.alloc (.cells #[.bool s, .slice A n c] 33)) := (Upd.refl NoF w).alloc _
  obtain ⟨g, hg⟩ : ∃ g, w.heap.size = g := ⟨_, rfl⟩
  obtain ⟨w1, hw1⟩ : ∃ w1, w.alloc (.cells #[.bool s, .slice A n c] 33) = w1 := ⟨_, rfl⟩
  rw [hg, hw1] at hb
  rw [hw1] at u1
  rw [hg, hw1]
  have H1 := Lib.hid (And.intro u1 hb)
  clear u1 hb hg hw1
  refine (HZ.out w1 H1.out.1).mono ?_
  rintro e w2 ⟨rfl, u2⟩
  by_cases hz : 2147483647 < n
  · have q1 : decide (n ≤ 2147483647) = false := decide_eq_false (by omega)
    rw [q1]
    have HU := Lib.hid (H1.out.1.trans u2)
    clear u2
    go_wp2_with fail
    go_ret
    exact ⟨rfl, HU.out⟩
  have q1 : decide (n ≤ 2147483647) = true := decide_eq_true (by omega)
  rw [q1]
  have H2 := Lib.hid (And.intro (H1.out.1.trans u2) (H1.out.2.upd u2))
  have c0 := H2.out.2.c0.cell
  have c1 := H2.out.2.c1.cell
  clear u2 q1
  go_wp2_with fail
  refine (HG.out w2 H2.out.1).mono ?_
  rintro e w3 ⟨rfl, u3⟩
  by_cases hz2 : 30 < n
  · have q1 : decide (30 < n) = true := decide_eq_true hz2
    rw [q1]
    have HU := Lib.hid (H2.out.1.trans u3)
    clear u3
    go_wp2_with fail
    go_ret
    exact ⟨rfl, HU.out⟩
  have q1 : decide (30 < n) = false := decide_eq_false hz2
  rw [q1]
  have H3 := Lib.hid (And.intro (H2.out.1.trans u3) (H2.out.2.upd u3))
  have c0 := H3.out.2.c0.cell
  have c1 := H3.out.2.c1.cell
  have hn : n ≤ 30 := by omega
  clear u3 q1 hz hz2
  go_wp2_with fail
  by_cases h0 : V < 0
  · refine (HP.out w3 H3.out.1 hn h0).mono ?_
    rintro e w4 ⟨s4, A4, c4, rfl, u4⟩
    have uA : Upd NoF w4 (w4.alloc (.cells #[.bool s4, .slice A4 0 c4] 33)) := (Upd.refl NoF w4).alloc _
    have hbA := (H3.out.2.upd u4).upd uA
    have c0 := hbA.c0.cell
    have c1 := hbA.c1.cell
    have H4 := Lib.hid (And.intro (H3.out.1.trans (u4.trans uA)) hbA)
    clear u4 uA hbA
    go_wp2_with fail
    refine (HIN.out _ H4.out.1 hn).mono ?_
    rintro e w5 ⟨v5, rfl, hv5, u5⟩
    obtain ⟨A5, c5, rfl, _, _⟩ := hv5
    have q1 : decide (V < 0) = true := decide_eq_true h0
    rw [q1]
    have HU := Lib.hid (H4.out.1.trans (u5.trans ((Upd.refl NoF w5).alloc (.cells #[.bool true, .slice A5 (ds V.natAbs).length c5] 27))))
    clear u5
    go_wp2_with fail
    go_ret
    exact ⟨rfl, HU.out⟩
  · refine (HS.out w3 H3.out.1 hn (by omega)).mono ?_
    rintro e w4 ⟨v4, rfl, hv4, u4⟩
    have hv4' := hv4
    obtain ⟨A4, c4, rfl, _, _⟩ := hv4
    rw [Int.natAbs_natCast] at hv4' ⊢
    obtain ⟨s4, hs4⟩ : ∃ s4, decide (((R : Nat) : Int) < 0) = s4 := ⟨_, rfl⟩
    obtain ⟨m4, hm4⟩ : ∃ m4, (digs R).length = m4 := ⟨_, rfl⟩
    rw [hs4, hm4] at hv4' ⊢
    have uA : Upd NoF w4 (w4.alloc (.cells #[.bool s4, .slice A4 m4 c4] 33)) := (Upd.refl NoF w4).alloc _
    have hbA := (H3.out.2.upd u4).upd uA
    have c0 := hbA.c0.cell
    have c1 := hbA.c1.cell
    have hbR := BoxN.new w4 s4 A4 m4 c4
    have H4 := Lib.hid (And.intro (H3.out.1.trans (u4.trans uA)) (And.intro (hv4'.upd uA) hbR))
    clear u4 uA hbA hbR hv4' hs4 hm4
    go_wp2_with fail
    obtain ⟨g4, hg4⟩ : ∃ g4, w4.heap.size = g4 := ⟨_, rfl⟩
    obtain ⟨w5, hw5⟩ : ∃ w5, w4.alloc (.cells #[.bool s4, .slice A4 m4 c4] 33) = w5 := ⟨_, rfl⟩
    rw [hg4, hw5] at H4
    rw [hg4, hw5]
    clear hg4 hw5 c0 c1
    refine (HIN.out _ H4.out.1 hn).mono ?_
    rintro e w6 ⟨v6, rfl, hv6, u6⟩
    obtain ⟨A6, c6, rfl, k6, C6⟩ := hv6
    have hSA : SpN w6 (.slice A6 (ds V.natAbs).length c6) V.natAbs := ⟨A6, c6, rfl, k6, C6⟩
    have q1 : decide (V < 0) = false := decide_eq_false (by omega)
    rw [q1]
    obtain ⟨m6, hm6⟩ : ∃ m6, (ds V.natAbs).length = m6 := ⟨_, rfl⟩
    rw [hm6] at hSA ⊢
    have h6 := heap_alloc_new w6 (.cells #[.bool false, .slice A6 m6 c6] 27)
    have uB : Upd NoF w6 (w6.alloc (.cells #[.bool false, .slice A6 m6 c6] 27)) := (Upd.refl NoF w6).alloc _
    have H6 := Lib.hid (And.intro (H4.out.1.trans (u6.trans uB)) (And.intro (H4.out.2.1.upd (u6.trans uB)) (And.intro (hSA.upd uB) (H4.out.2.2.upd (u6.trans uB)))))
    have HM6 := Lib.hid hm6
    clear u6 uB hSA k6 C6 hm6
    go_wp2_with fail
    obtain ⟨g6, hg6⟩ : ∃ g6, w6.heap.size = g6 := ⟨_, rfl⟩
    obtain ⟨w7, hw7⟩ : ∃ w7, w6.alloc (.cells #[.bool false, .slice A6 m6 c6] 27) = w7 := ⟨_, rfl⟩
    rw [hg6, hw7] at h6
    rw [hw7] at H6
    rw [hg6, hw7]
    have b1 : CellT 27 w7 g6 1 (.slice A6 m6 c6) := ⟨_, h6, by simp⟩
    have HS9 := Lib.hid (fun w' (u : Upd NoF w7 w') => (show w'.cell? ⟨g4, 0, none⟩ = some (.bool s4) ∧ w'.cell? ⟨g4, 1, none⟩ = some (.slice A4 m4 c4) ∧ w'.cell? ⟨g6, 1, none⟩ = some (.slice A6 m6 c6) from ⟨(H6.out.2.2.2.upd u).c0.cell, (H6.out.2.2.2.upd u).c1.cell, (b1.upd u (fun h => h)).cell⟩))
    have hl : (ds V.natAbs).length ≤ 120 := by have := ds_len4 V.natAbs; have := HW.out.2; omega
    have KR := Lib.hid (fun (w' : World) (u : Upd NoF w7 w') => root_sp _ V.natAbs R w' (H6.out.2.2.1.upd u) HW.out.1 (by omega))
    have hRl : (digs R).length ≤ 30 := by have := digs_len_mono (HW.out.1.le); have := HW.out.2; omega
    have KI := Lib.hid (fun (v2 : Value) (w' : World) (u : Upd NoF w7 w') (h2 : SpN w' v2 R) => isnat_sp _ v2 R w' (H6.out.2.1.upd u) h2 (by omega))
    clear HS hg6 hw7 h6 b1 hl hRl
    have HS := HS9
    clear HS9
    refine wp_region_held_drew (S := (fun w' => w'.cell? ⟨g4, 0, none⟩ = some (.bool s4) ∧ w'.cell? ⟨g4, 1, none⟩ = some (.slice A4 m4 c4) ∧ w'.cell? ⟨g6, 1, none⟩ = some (.slice A6 m6 c6))) (by kernel_rfl) (by exact HS.out _ (by (repeat (first | exact Upd.refl _ _ | assumption | refine Upd.alloc ?_ _ | refine Upd.drew ?_ | refine Upd.drewN ?_ _ | refine Upd.trans ?_ (by assumption))))) (fun hHeld => ?_)
    refine wpAnyH_take (i := 0) (v := ?_) rfl (by kernel_rfl) (by kernel_rfl) (by kernel_rfl) (fun _ _ _ h => h) (Or.inl ⟨by rfl, ?_⟩) (by assumption) ?_
    rotate_left
    · (intro w' hSw; (try dsimp only at hSw); go_simp; try with_reducible rfl)
    simp only [Act.put, List.setIfInBounds_toArray, List.set_cons_zero, List.set_cons_succ]
    refine wpAnyH_take (i := 1) (v := ?_) rfl (by kernel_rfl) (by kernel_rfl) (by kernel_rfl) (fun _ _ _ h => h) (Or.inl ⟨by rfl, ?_⟩) (by assumption) ?_
    rotate_left
    · (intro w' hSw; (try dsimp only at hSw); go_simp; try with_reducible rfl)
    simp only [Act.put, List.setIfInBounds_toArray, List.set_cons_zero, List.set_cons_succ]
    refine wpAnyH_take (i := 2) (v := ?_) rfl (by kernel_rfl) (by kernel_rfl) (by kernel_rfl) (fun _ _ _ h => h) (Or.inl ⟨by rfl, ?_⟩) (by assumption) ?_
    rotate_left
    · (intro w' hSw; (try dsimp only at hSw); go_simp; try with_reducible rfl)
    simp only [Act.put, List.setIfInBounds_toArray, List.set_cons_zero, List.set_cons_succ]
    refine wpAnyH_take (i := 3) (v := ?_) rfl (by kernel_rfl) (by kernel_rfl) (by kernel_rfl) (fun _ _ _ h => h) (Or.inl ⟨by rfl, ?_⟩) (by assumption) ?_
    rotate_left
    · (intro w' hSw; (try dsimp only at hSw); go_simp; try with_reducible rfl)
    simp only [Act.put, List.setIfInBounds_toArray, List.set_cons_zero, List.set_cons_succ]
    refine wpAnyH_take (i := 4) (v := ?_) rfl (by kernel_rfl) (by kernel_rfl) (by kernel_rfl) (fun _ _ _ h => h) (Or.inl ⟨by rfl, ?_⟩) (by assumption) ?_
    rotate_left
    · (intro w' hSw; (try dsimp only at hSw); go_simp; try with_reducible rfl)
    simp only [Act.put, List.setIfInBounds_toArray, List.set_cons_zero, List.set_cons_succ]
    refine wpAnyH_take (i := 5) (v := ?_) rfl (by kernel_rfl) (by kernel_rfl) (by kernel_rfl) (fun _ _ _ h => h) (Or.inl ⟨by rfl, ?_⟩) (by assumption) ?_
    rotate_left
    · (intro w' hSw; (try dsimp only at hSw); go_simp; try with_reducible rfl)
    simp only [Act.put, List.setIfInBounds_toArray, List.set_cons_zero, List.set_cons_succ]
    refine wpAnyH_ready (rs := [6]) (by kernel_rfl) (by simp) ?_
    refine AllReadyH.cons rfl (fun K hK => ?_) AllReadyH.nil
    go_simp
    refine (KR.out _ ((Upd.refl NoF w7).drew)).mono ?_
    rintro e wf ⟨vf, rfl, hf, uf⟩
    have uf : Upd NoF w7 wf := (Upd.refl NoF w7).drew.trans uf
    go_wp2_with fail
    refine hK.out _ _ ?_ (fun hHeld => ?_)
    case' refine_1 => (try dsimp only); exact HS.out _ (by (repeat (first | exact Upd.refl _ _ | assumption | refine Upd.alloc ?_ _ | refine Upd.drew ?_ | refine Upd.drewN ?_ _ | refine Upd.trans ?_ (by assumption))))
    clear hK K
    (try simp only [Act.put, List.setIfInBounds_toArray, List.set_cons_zero, List.set_cons_succ])
    refine wpAnyH_ready (rs := [7]) (by kernel_rfl) (by simp) ?_
    refine AllReadyH.cons rfl (fun K hK => ?_) AllReadyH.nil
    go_simp
    refine (KI.out vf wf uf hf).mono ?_
    rintro e wi ⟨rfl, ui⟩
    have ui : Upd NoF w7 wi := uf.trans ui
    go_wp2_with fail
    refine hK.out _ _ ?_ (fun hHeld => ?_)
    case' refine_1 => (try dsimp only); exact HS.out _ (by (repeat (first | exact Upd.refl _ _ | assumption | refine Upd.alloc ?_ _ | refine Upd.drew ?_ | refine Upd.drewN ?_ _ | refine Upd.trans ?_ (by assumption))))
    clear hK K
    (try simp only [Act.put, List.setIfInBounds_toArray, List.set_cons_zero, List.set_cons_succ])
    refine wpAnyH_take (i := 8) (v := ?_) rfl (by kernel_rfl) (by kernel_rfl) (by kernel_rfl) (fun _ _ _ h => h) (Or.inl ⟨by rfl, ?_⟩) (by assumption) ?_
    rotate_left
    · (intro w' hSw; (try dsimp only at hSw); go_simp; try with_reducible rfl)
    simp only [Act.put, List.setIfInBounds_toArray, List.set_cons_zero, List.set_cons_succ]
    refine wpAnyH_ready (rs := [9]) (by kernel_rfl) (by simp) ?_
    refine AllReadyH.cons rfl (fun K hK => ?_) AllReadyH.nil
    go_simp
    refine hK.out _ _ ?_ (fun hHeld => ?_)
    case' refine_1 => (try dsimp only); exact HS.out _ (by (repeat (first | exact Upd.refl _ _ | assumption | refine Upd.alloc ?_ _ | refine Upd.drew ?_ | refine Upd.drewN ?_ _ | refine Upd.trans ?_ (by assumption))))
    clear hK K
    (try simp only [Act.put, List.setIfInBounds_toArray, List.set_cons_zero, List.set_cons_succ])
    refine wpAnyH_done (by kernel_rfl) ?_ _
    go_wp2_with fail
    go_ret
    exact ⟨rfl, H6.out.1.trans ui⟩
end Go.Proofs.YtefeijofhocnpaaGreatDoor
