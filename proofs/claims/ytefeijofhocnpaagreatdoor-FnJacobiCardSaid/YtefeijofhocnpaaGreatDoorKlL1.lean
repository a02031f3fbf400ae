/- For the claim of laws.The program's symbol is Jacobi's (FnJacobi).: SpecQ, LawSqrt. -/
import Derived.Test.YtefeijofhocnpaaGreatDoorKlD5
import Derived.Test.YtefeijofhocnpaaGreatDoorKlF1
import Derived.Test.YtefeijofhocnpaaGreatDoorKlSpec3
set_option linter.unusedVariables false
set_option linter.unusedSimpArgs false
namespace Go.Proofs.YtefeijofhocnpaaGreatDoor
open Go.RowKit Go.Proofs.YtefeijofhocnpaaGreatDoor.PSpec Go.Proofs.YtefeijofhocnpaaGreatDoorW.PrintWords Go.Proofs.YtefeijofhocnpaaGreatDoorW.PrintLast Go.Proofs.YtefeijofhocnpaaGreatDoorW.PrintMore
theorem and_one (v : Nat) (hv : v < 65536) : Go.bits .and .i64 (v : Int) 1 = ((v % 2 : Nat) : Int) := by
  show IntKind.i64.wrap ((BitVec.ofInt 64 (v : Int) &&& BitVec.ofInt 64 1).toNat : Int) = _
  have h2 : (BitVec.ofInt 64 (v : Int)).toNat = v := by
    rw [BitVec.ofInt_natCast, BitVec.toNat_ofNat]; exact Nat.mod_eq_of_lt (by omega)
  rw [BitVec.toNat_and, h2, show (BitVec.ofInt 64 1).toNat = 1 from rfl, Nat.and_one_is_mod, IntKind.wrap_i64]
  omega
theorem digit_at (X q : Nat) (hq : q < (ds X).length) : ∃ T, X / B16 ^ q = (ds X)[q] + B16 * T := by
  have h1 := val_take_drop (b := B16) (ds X) q (by omega)
  have h3 := val_lt _ ((ds_ds X).take q)
  rw [List.length_take, Nat.min_eq_left (by omega)] at h3
  rw [val_ds, List.drop_eq_getElem_cons hq] at h1
  simp only [val] at h1
  refine ⟨val B16 ((ds X).drop (q + 1)), ?_⟩
  generalize val B16 ((ds X).drop (q + 1)) = T at *
  have hp : 0 < B16 ^ q := Nat.pow_pos B16_pos
  rw [show X / B16 ^ q = _ from congrArg (fun z => z / B16 ^ q) h1, Nat.add_comm, Nat.mul_add_div hp, Nat.div_eq_of_lt h3]
  rfl
theorem spec_Has_any (X i : Nat) (hi : i < 16 * (ds X).length) (hb : (ds X).length ≤ 1099511627776) : ∃ r, spec_Has.f (ints (ds X)) (i : Int) = some r ∧ (r = false → X < 2 ^ (i + 1) → X < 2 ^ i) := by
  have e1 : Int.tdiv (i : Int) 16 = ((i / 16 : Nat) : Int) := by rw [Int.tdiv_eq_ediv_of_nonneg (by omega)]; rfl
  have e2 : Int.tmod (i : Int) 16 = ((i % 16 : Nat) : Int) := by rw [Int.tmod_eq_emod_of_nonneg (by omega)]; rfl
  obtain ⟨q, hq⟩ : ∃ q, i / 16 = q := ⟨_, rfl⟩
  obtain ⟨m, hm⟩ : ∃ m, i % 16 = m := ⟨_, rfl⟩
  have hqB : q < (ds X).length := by omega
  have hmB : m < 16 := by omega
  have him : i = 16 * q + m := by omega
  rw [hq] at e1
  rw [hm] at e2
  obtain ⟨T, hT⟩ := digit_at X q hqB
  obtain ⟨x, ex⟩ : ∃ x, (ds X)[q] = x := ⟨_, rfl⟩
  rw [ex] at hT
  have hxB : x < 65536 := ex ▸ (ds_ds X).get q hqB
  have hrx : rd (ints (ds X)) (q : Int) = (x : Int) := by rw [rd_getD, List.getD_eq_getElem?_getD, List.getElem?_eq_getElem hqB, ex]; rfl
  have hsh : shr .i64 (x : Int) (m : Int) = ((x / 2 ^ m : Nat) : Int) := by
    have : m ≤ 64 := by omega
    show (x : Int) / 2 ^ min ((m : Int)).toNat 64 = _
    rw [Int.toNat_natCast, Nat.min_eq_left this]
    norm_cast
  have hle : x / 2 ^ m ≤ x := Nat.div_le_self _ _
  have W1 := Lib.hid (wr64 (z := (q : Int)) (by omega) (by omega))
  refine ⟨(((x / 2 ^ m % 2 : Nat) : Int) == 1), ?_, ?_⟩
  · unfold spec_Has.f
    rw [e1, e2, W1.out, if_pos (by rw [ints_length]; omega), if_pos (by omega), if_pos (by omega), hrx, hsh, and_one _ (by omega)]
  · intro h1 h2
    have h3 : x / 2 ^ m % 2 ≠ 1 := by
      intro h
      rw [h] at h1
      exact absurd h1 (by decide)
    have hp : 0 < 2 ^ m := Nat.two_pow_pos m
    have h16 : 2 ^ (m + 1) ≤ 65536 := Nat.le_trans (Nat.pow_le_pow_right (by decide) (show m + 1 ≤ 16 by omega)) (by decide)
    have hBq : B16 ^ q = 2 ^ (16 * q) := by rw [show B16 = 2 ^ 16 from rfl, ← Nat.pow_mul]
    have h4 : X / B16 ^ q < 2 ^ (m + 1) := by
      rw [Nat.div_lt_iff_lt_mul (Nat.pow_pos B16_pos), hBq, ← Nat.pow_add]
      rw [him] at h2
      rwa [show m + 1 + 16 * q = 16 * q + m + 1 by omega]
    rw [hT] at h4
    have hT0 : T = 0 := by
      rcases Nat.eq_zero_or_pos T with h | h
      · exact h
      · have : B16 * 1 ≤ B16 * T := Nat.mul_le_mul (Nat.le_refl _) h
        have e16 : B16 = 65536 := rfl
        omega
    subst hT0
    rw [Nat.mul_zero, Nat.add_zero] at hT h4
    have h5 : x / 2 ^ m < 2 := by
      rw [Nat.div_lt_iff_lt_mul hp]
      rw [Nat.pow_succ] at h4
      omega
    have h6 : x / 2 ^ m = 0 := by
      revert h3 h5
      generalize x / 2 ^ m = y
      intro h3 h5
      omega
    have h7 : x < 2 ^ m := by
      rcases Nat.lt_or_ge x (2 ^ m) with h | h
      · exact h
      · have := Nat.div_pos h hp; omega
    rw [← hT, Nat.div_lt_iff_lt_mul (Nat.pow_pos B16_pos), hBq, ← Nat.pow_add] at h7
    rw [him]
    rwa [show m + 16 * q = 16 * q + m by omega] at h7
theorem spec_Len_l0 (X : Nat) (hb : (ds X).length ≤ 1000000) : ∀ (n k : Nat), n < k → n ≤ 16 * (ds X).length → X < 2 ^ n → ∃ b : Nat, spec_Len.l0 k (ints (ds X)) (n : Int) = some (b : Int) ∧ X < 2 ^ b ∧ b ≤ n := by
  intro n
  induction n with
  | zero =>
    intro k hk _ hX
    obtain ⟨k, rfl⟩ : ∃ k', k = k' + 1 := ⟨k - 1, by omega⟩
    refine ⟨0, ?_, hX, Nat.le_refl _⟩
    simp only [spec_Len.l0]
    rw [if_neg (by omega)]
  | succ n ih =>
    intro k hk hn hX
    obtain ⟨k, rfl⟩ : ∃ k', k = k' + 1 := ⟨k - 1, by omega⟩
    obtain ⟨r, h1, h2⟩ := spec_Has_any X n (by omega) (by omega)
    have W1 := Lib.hid (wr64 (z := (n : Int)) (by omega) (by omega))
    simp only [spec_Len.l0]
    rw [if_pos (by omega), show ((n + 1 : Nat) : Int) - 1 = (n : Int) by omega, W1.out, h1]
    simp only [Option.bind_some]
    cases r with
    | true => exact ⟨n + 1, by rw [if_pos rfl], hX, Nat.le_refl _⟩
    | false =>
      obtain ⟨b, g1, g2, g3⟩ := ih k (by omega) (by omega) (h2 rfl hX)
      exact ⟨b, by rw [if_neg (by decide)]; exact g1, g2, by omega⟩
theorem spec_Len_any (X k : Nat) (hb : (ds X).length ≤ 1000000) (hk : 16 * (ds X).length < k) : ∃ b : Nat, spec_Len.f k (ints (ds X)) = some (b : Int) ∧ X < 2 ^ b ∧ b ≤ 16 * (ds X).length := by
  unfold spec_Len.f
  have W1 := Lib.hid (wr64 (z := 16 * ((ds X).length : Int)) (by omega) (by omega))
  rw [ints_length, W1.out, show 16 * ((ds X).length : Int) = ((16 * (ds X).length : Nat) : Int) by omega]
  refine spec_Len_l0 X hb _ k hk (Nat.le_refl _) ?_
  have := val_lt _ (ds_ds X)
  rw [val_ds, show B16 = 2 ^ 16 from rfl, ← Nat.pow_mul] at this
  exact this
theorem ds_mul_len (a b : Nat) : (ds (a * b)).length ≤ (ds a).length + (ds b).length := by
  have h1 := val_lt _ (ds_ds a)
  have h2 := val_lt _ (ds_ds b)
  rw [val_ds] at h1 h2
  refine ds_len_of_lt ?_
  rw [Nat.pow_add]
  exact Nat.mul_lt_mul'' h1 h2
end Go.Proofs.YtefeijofhocnpaaGreatDoor
namespace Go.Proofs.YtefeijofhocnpaaGreatDoor
open Go.RowKit
set_option linter.unusedSimpArgs false
structure BoxN (w : World) (g : Nat) (s : Bool) (A : Option Addr) (n c : Nat) : Prop where
  c0 : CellT 33 w g 0 (.bool s)
  c1 : CellT 33 w g 1 (.slice A n c)
theorem BoxN.upd {w w' : World} {g : Nat} {s : Bool} {A : Option Addr} {n c : Nat} (h : BoxN w g s A n c) (u : Upd NoF w w') : BoxN w' g s A n c := ⟨h.c0.upd u (fun h => h), h.c1.upd u (fun h => h)⟩
theorem BoxN.new (w : World) (s : Bool) (A : Option Addr) (n c : Nat) : BoxN (w.alloc (.cells #[.bool s, .slice A n c] 33)) w.heap.size s A n c :=
  ⟨⟨_, heap_alloc_new w _, by simp⟩, ⟨_, heap_alloc_new w _, by simp⟩⟩
end Go.Proofs.YtefeijofhocnpaaGreatDoor
