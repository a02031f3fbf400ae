/- For the claim of laws.FnRange: LawRangeSplit. -/
import Derived.Test.YtefeijofhocnpaaGreatDoorB5
import Derived.Test.YtefeijofhocnpaaGreatDoorC1
set_option linter.unusedVariables false
set_option linter.unusedSimpArgs false
/- laws.FnRangeSplit. -/
namespace Go.Proofs.YtefeijofhocnpaaGreatDoor
open Go.RowKit

theorem irng_add (a : Int) (m : Nat) : ∀ n, irng a (m + n) = irng a m * irng (a + m) n
  | 0 => (Int.mul_one _).symm
  | n + 1 => by
    show irng a (m + n) * (a + ((m + n : Nat) : Int)) = irng a m * (irng (a + m) n * (a + m + n))
    rw [irng_add a m n, Int.mul_assoc]
    congr 2
    push_cast; omega

set_option maxRecDepth 1000000 in
set_option maxHeartbeats 3200000 in
theorem FnRangeSplit_any (T : Int) (a m t : Int) (w : World) (hT : Thr w T) (ha : -32768 ≤ a) (ha2 : a ≤ 32767) (hm : 0 ≤ m) (hm2 : m ≤ 255) (ht : 0 ≤ t) (ht2 : t ≤ 255) :
    Calls Tryz.prog 4 #[.int .i16 a, .int .u8 m, .int .u8 t] w fun e w' => e = .returned (.bool true) ∧ Upd NoF w w' := by
  obtain ⟨r, hr⟩ : ∃ r : Nat, Int.tmod m 200 = (r : Int) := ⟨(m % 200).toNat, by rw [Int.tmod_eq_emod_of_nonneg hm]; omega⟩
  have hr2 : r < 200 := by rw [Int.tmod_eq_emod_of_nonneg hm] at hr; omega
  obtain ⟨s, hs⟩ : ∃ s : Nat, Int.tmod t ((r : Int) + 1) = (s : Int) := ⟨(t % ((r : Int) + 1)).toNat, by rw [Int.tmod_eq_emod_of_nonneg ht]; have := Int.emod_nonneg t (b := (r : Int) + 1) (by omega); omega⟩
  have hs2 : s ≤ r := by
    rw [Int.tmod_eq_emod_of_nonneg ht] at hs
    have := Int.emod_lt_of_pos t (b := (r : Int) + 1) (by omega)
    omega
  obtain ⟨d, hd⟩ : ∃ d, r = s + d := ⟨r - s, by omega⟩
  obtain ⟨z, hz⟩ : ∃ z, a + (r : Int) = z := ⟨_, rfl⟩
  obtain ⟨y, hy⟩ : ∃ y, a + (s : Int) = y := ⟨_, rfl⟩
  have e0 : IntKind.i64.wrap a = a := by rw [IntKind.wrap_i64]; omega
  have e1 : IntKind.i64.wrap m = m := by rw [IntKind.wrap_i64]; omega
  have e2 : IntKind.i64.wrap t = t := by rw [IntKind.wrap_i64]; omega
  have e3 : IntKind.i64.wrap (r : Int) = (r : Int) := by rw [IntKind.wrap_i64]; omega
  have e4 : IntKind.i64.wrap z = z := by rw [IntKind.wrap_i64]; omega
  have e5 : IntKind.i64.wrap (z - a) = (r : Int) := by rw [IntKind.wrap_i64]; omega
  have e6 : IntKind.i64.wrap ((r : Int) + 1) = (r : Int) + 1 := by rw [IntKind.wrap_i64]; omega
  have e7 : IntKind.i64.wrap (s : Int) = (s : Int) := by rw [IntKind.wrap_i64]; omega
  have e8 : IntKind.i64.wrap y = y := by rw [IntKind.wrap_i64]; omega
  have e9 : IntKind.i64.wrap (y + 1) = y + 1 := by rw [IntKind.wrap_i64]; omega
  have e10 : IntKind.i64.wrap (z + 1) = z + 1 := by rw [IntKind.wrap_i64]; omega
  have e11 : ¬ (r : Int) + 1 = 0 := by omega
  have R : ∀ (lo hi : Int) (n : Nat), -9223372036854775808 ≤ lo → lo < 9223372036854775808 → -9223372036854775808 ≤ hi → hi < 9223372036854775808 → n = (hi - lo + 1).toNat → n ≤ 1000 → ∀ w', Upd NoF w w' →
      Calls Tryz.prog 20 #[.int .i64 lo, .int .i64 hi] w' fun e w'' => ∃ v, e = .returned v ∧ NumI w'' v (irng lo n) ∧ Upd NoF w' w'' := fun lo hi n h1 h2 h3 h4 h5 h6 w' u =>
    implRange_any T lo hi n w' (hT.upd u (fun _ h => h)) h1 h2 h3 h4 h5 h6
  have R1 := Lib.hid (R a z (r + 1) (by omega) (by omega) (by omega) (by omega) (by omega) (by omega))
  have R2 := Lib.hid (R a y (s + 1) (by omega) (by omega) (by omega) (by omega) (by omega) (by omega))
  have R3 := Lib.hid (R (y + 1) z d (by omega) (by omega) (by omega) (by omega) (by omega) (by omega))
  have R4 := Lib.hid (R (z + 1) z 0 (by omega) (by omega) (by omega) (by omega) (by omega) (by omega))
  have hP : irng a (s + 1) * irng (y + 1) d = irng a (r + 1) := by
    have := irng_add a (s + 1) d
    rw [show s + 1 + d = r + 1 by omega, show a + ((s + 1 : Nat) : Int) = y + 1 by omega] at this
    exact this.symm
  have l1 := irng_digs a (r + 1) (by omega) (by omega)
  have l2 := irng_digs a (s + 1) (by omega) (by omega)
  have l3 := irng_digs (y + 1) d (by omega) (by omega)
  have HL := Lib.hid (show (digs (irng a (r + 1)).natAbs).length ≤ 1048576 ∧ (digs (irng a (s + 1)).natAbs).length ≤ 1048576 ∧ (digs (irng (y + 1) d).natAbs).length ≤ 1048576 ∧
      (ds (irng a (s + 1)).natAbs).length + (ds (irng (y + 1) d).natAbs).length ≤ 35184372088832 by
    have := ds_len4 (irng a (s + 1)).natAbs
    have := ds_len4 (irng (y + 1) d).natAbs
    omega)
  have HP := Lib.hid hP
  generalize irng a (s + 1) = P2 at *
  generalize irng (y + 1) d = P3 at *
  generalize irng a (r + 1) = P1 at *
  have HS := Lib.hid (fun w' => small_sp 1 w' (by omega))
  clear R hP l1 l2 l3 hT ha ha2 hm hm2 ht ht2 hr2 hs2 hd
  go_enter Tryz.func4, Tryz.ntmps4
  go_wp2_with fail
  refine (R1.out w (Upd.refl _ _)).mono ?_
  rintro e w1 ⟨v1, rfl, h1, u1⟩
  go_wp2_with fail
  refine (R2.out w1 u1).mono ?_
  rintro e w2 ⟨v2, rfl, h2, u2⟩
  go_wp2_with fail
  refine (in_sp v2 _ P2 w2 (h2.raw (by have := HL.out.2.1; omega)) (by have := HL.out.2.1; omega)).mono ?_
  rintro e w3 ⟨v3, rfl, h3, u3⟩
  go_wp2_with fail
  refine (R3.out w3 ((u1.trans u2).trans u3)).mono ?_
  rintro e w4 ⟨v4, rfl, h4, u4⟩
  go_wp2_with fail
  refine (in_sp v4 _ P3 w4 (h4.raw (by have := HL.out.2.2.1; omega)) (by have := HL.out.2.2.1; omega)).mono ?_
  rintro e w5 ⟨v5, rfl, h5, u5⟩
  go_wp2_with fail
  refine (times_sp v3 v5 P2 P3 w5 (h3.upd (u4.trans u5)) h5 HL.out.2.2.2).mono ?_
  rintro e w6 ⟨v6, rfl, h6, u6⟩
  rw [HP.out] at h6
  go_wp2_with fail
  refine (is_sp v1 v6 P1 w6 (h1.upd ((((u2.trans u3).trans u4).trans u5).trans u6)) h6 HL.out.1).mono ?_
  rintro e w7 ⟨rfl, u7⟩
  have U7 := Lib.hid ((((((u1.trans u2).trans u3).trans u4).trans u5).trans u6).trans u7)
  clear u1 u2 u3 u4 u5 u6 u7
  go_wp2_with fail
  refine (R4.out w7 U7.out).mono ?_
  rintro e w8 ⟨v8, rfl, h8, u8⟩
  go_wp2_with fail
  refine (HS.out w8).mono ?_
  rintro e w9 ⟨v9, rfl, h9, u9⟩
  go_wp2_with fail
  refine (isnat_sp v8 v9 1 w9 (h8.upd u9) h9 (by rw [digs_small (by rw [B64_eq]; omega) (by omega)]; simp)).mono ?_
  rintro e w10 ⟨rfl, u10⟩
  have U10 := Lib.hid (((U7.out.trans u8).trans u9).trans u10)
  clear u8 u9 u10
  go_wp2_with fail
  go_ret
  exact ⟨rfl, U10.out⟩
end Go.Proofs.YtefeijofhocnpaaGreatDoor
