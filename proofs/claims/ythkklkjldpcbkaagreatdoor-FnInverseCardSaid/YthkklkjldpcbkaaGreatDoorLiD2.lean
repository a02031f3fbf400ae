/- For the claim of laws.FnInverse: DivC, DivD, DivE. -/
import Derived.Test.YthkklkjldpcbkaaGreatDoorLiD1
import Derived.Test.YthkklkjldpcbkaaGreatDoorLiA2
import Derived.Test.YthkklkjldpcbkaaGreatDoorLiA6
set_option linter.unusedVariables false
set_option linter.unusedSimpArgs false
set_option maxHeartbeats 16000000
set_option maxRecDepth 1000000
namespace Go.Proofs.YthkklkjldpcbkaaGreatDoor
open Go.RowKit
def recW (D : Nat) : Nat := ((B64 - 1 - D) * B64 + (B64 - 1)) / D
theorem rec_spec {D : Nat} (h : B64 <= 2 * D) (h2 : D < B64) : recW D < B64 /\ (recW D + B64) * D <= B64 * B64 /\ B64 * B64 <= (recW D + B64) * D + D := by
 have hB := Zy
 have h0 : 0 < D := by omega
 have a1 := Nat.div_mul_le_self ((B64 - 1 - D) * B64 + (B64 - 1)) D
 have a2 := Nat.lt_div_mul_add (a := (B64 - 1 - D) * B64 + (B64 - 1)) h0
 have e1 : (B64 - 1 - D) * B64 + (B64 - 1) + D * B64 + 1 = B64 * B64 := by
  obtain ⟨k, hk⟩ : ∃ k, B64 = D + 1 + k := ⟨B64 - (D + 1), by omega⟩
  rw [show B64 - 1 - D = k by omega, show B64 - 1 = D + k by omega]
  rw [hk]; grind
 have hr : recW D = ((B64 - 1 - D) * B64 + (B64 - 1)) / D := rfl
 rw [<- hr] at a1 a2
 refine ⟨?_, ?_, ?_⟩
 .
  have : recW D * D < B64 * D := by
   have h3 : (B64 - 1 - D) * B64 + (B64 - 1) < (B64 - D) * B64 := by
    rw [show B64 - D = B64 - 1 - D + 1 by omega, Nat.add_mul _ 1]; omega
   have h4 : (B64 - D) * B64 <= D * B64 := Nat.mul_le_mul_right _ (by omega)
   rw [Nat.mul_comm B64 D]; omega
  exact Nat.lt_of_mul_lt_mul_right this
 . rw [Nat.add_mul, Nat.mul_comm B64 D]; omega
 . rw [Nat.add_mul, Nat.mul_comm B64 D]; omega
theorem xor_max (D : Nat) (h : D < 18446744073709551616) : bits .xor .u64 IntKind.u64.max (D : Int) = ((18446744073709551615 - D : Nat) : Int) := by
 show IntKind.u64.wrap ((BitVec.ofInt 64 (18446744073709551615 : Int) ^^^ BitVec.ofInt 64 (D : Int)).toNat : Int) = _
 have e : BitVec.ofInt 64 (18446744073709551615 : Int) = BitVec.allOnes 64 := by decide
 have h2 : (BitVec.ofInt 64 (D : Int)).toNat = D := by
  rw [BitVec.ofInt_natCast, BitVec.toNat_ofNat]; exact Nat.mod_eq_of_lt (by omega)
 rw [e, BitVec.allOnes_xor, BitVec.toNat_not, h2, IntKind.wrap_u64]
 omega
theorem recip_any (y D : Nat) (w : World) (h0 : y ≠ 0) (hy : y < B64) (hD : D = y * 2 ^ nlzN y) :
  Calls Tryz.prog 124 #[.int .u64 (y : Int)] w fun e w' => e = .returned (.int .u64 ((recW D : Nat) : Int)) /\ Drew w w' := by
 obtain ⟨n1, n2, n3⟩ := nlz_spec h0 hy
 have HN := Qq (nlz_any y w hy)
 rw [<- hD] at n2 n3
 obtain ⟨s, hs⟩ : ∃ s, nlzN y = s := ⟨_, rfl⟩
 rw [hs] at HN hD n1
 have eD : shlW y s = D := by unfold shlW; rw [<- hD]; exact Nat.mod_eq_of_lt n3
 have f1 : IntKind.u64.wrap ((y : Int) * 2 ^ min s 64) = (D : Int) := by rw [shlW_form s (by omega), eD]
 have hB := Zs
 have HZ := Qq (zzDiv_any (B64 - 1 - D) (B64 - 1) D w (by omega) n3 (by omega))
 obtain ⟨c, hc⟩ : ∃ c, B64 - 1 - D = c := ⟨_, rfl⟩
 have hr : recW D = ((B64 - 1 - D) * B64 + (B64 - 1)) / D := rfl
 rw [hc] at HZ hr
 rw [<- hr, show ((B64 - 1 : Nat) : Int) = 18446744073709551615 by omega] at HZ
 obtain ⟨R, hR⟩ : ∃ R, recW D = R := ⟨_, rfl⟩
 obtain ⟨R2, hR2⟩ : ∃ R2, (c * B64 + (B64 - 1)) % D = R2 := ⟨_, rfl⟩
 rw [hR, hR2] at HZ
 rw [hR]
 have f2 : bits .xor .u64 IntKind.u64.max (D : Int) = (c : Int) := by rw [xor_max D (by omega)]; omega
 clear hR hR2 hr hc hD n1 n2 n3 h0 hy hB
 go_enter Tryz.func124, Tryz.ntmps124
 go_wp2_with fail
 refine HN.out.mono ?_
 rintro e w' ⟨rfl, hw⟩
 cases hw.symm
 go_wp2_with fail
 refine HZ.out.mono ?_
 rintro e w' ⟨rfl, hw⟩
 have HD := Qq hw
 go_wp2_with fail
 go_ret
 exact ⟨rfl, HD.out⟩
theorem recip_words {D x1 x0 m : Nat} (hD : B64 <= 2 * D) (hD2 : D < B64) (hx1 : x1 < D) (hx0 : x0 < B64) (hm : m = recW D) :
  ∃ q r : Nat, q = (m * x1 + x0) / B64 + x1 /\ q < B64 /\ q * D + r = x1 * B64 + x0 /\ r < B64 + D := by
 obtain ⟨r1, r2, r3⟩ := rec_spec hD hD2
 rw [<- hm] at r2 r3
 have hB := Zy
 have hq : (m * x1 + x0) / B64 + x1 = ((m + B64) * x1 + x0) / B64 := by
  rw [show (m + B64) * x1 + x0 = m * x1 + x0 + B64 * x1 by grind, Nat.add_mul_div_left _ _ hB]
 obtain ⟨g1, g2⟩ := recip_guess (by omega) (Nat.le_of_lt hD2) hx1 hx0 r2 r3 hq
 refine ⟨_, x1 * B64 + x0 - ((m * x1 + x0) / B64 + x1) * D, rfl, ?_, by omega, by omega⟩
 have h1 : x1 * B64 + x0 < D * B64 := by
  have : (x1 + 1) * B64 <= D * B64 := Nat.mul_le_mul_right _ hx1
  rw [Nat.add_mul] at this; omega
 have h2 : ((m * x1 + x0) / B64 + x1) * D < B64 * D := by rw [Nat.mul_comm B64]; omega
 exact Nat.lt_of_mul_lt_mul_right h2
theorem divWW_walk (x1 x0 y m s X1 X0 D t1 t0 a0 c0 q u1 u0 r0 b0 r1 Q R : Nat) (w : World) (hsc : s = 0 /\ X1 = x1 /\ X0 = x0 /\ D = y \/ 0 < s ∧
   (∃ t H l1 : Nat, IntKind.u64.wrap ((x1 : Int) * 2 ^ min s 64) = (H : Int) /\ IntKind.u64.wrap (64 - (s : Int)) = (t : Int) /\ (x0 : Int) / 2 ^ min t 64 = (l1 : Int) /\ bits .or .u64 (H : Int) (l1 : Int) = (X1 : Int)) ∧
   IntKind.u64.wrap ((x0 : Int) * 2 ^ min s 64) = (X0 : Int) /\ IntKind.u64.wrap ((y : Int) * 2 ^ min s 64) = (D : Int))
  (HN : Hid (Calls Tryz.prog 100 #[.int .u64 (y : Int)] w fun e w' => e = .returned (.int .u64 (s : Int)) /\ w' = w))
  (HM : Hid (Calls Tryz.prog 122 #[.int .u64 (m : Int), .int .u64 (X1 : Int)] w fun e w' => e = .returned (.tuple #[.int .u64 (t1 : Int), .int .u64 (t0 : Int)]) /\ w' = w))
  (HA : Hid (Calls Tryz.prog 111 #[.int .u64 (t0 : Int), .int .u64 (X0 : Int), .int .u64 0] w fun e w' => e = .returned (.tuple #[.int .u64 (a0 : Int), .int .u64 (c0 : Int)]) /\ w' = w))
  (HA2 : Hid (Calls Tryz.prog 111 #[.int .u64 (t1 : Int), .int .u64 (X1 : Int), .int .u64 (c0 : Int)] w fun e w' => (∃ z : Int, e = .returned (.tuple #[.int .u64 (q : Int), .int .u64 z])) /\ w' = w))
  (HM2 : Hid (Calls Tryz.prog 122 #[.int .u64 (D : Int), .int .u64 (q : Int)] w fun e w' => e = .returned (.tuple #[.int .u64 (u1 : Int), .int .u64 (u0 : Int)]) /\ w' = w))
  (HS : Hid (Calls Tryz.prog 113 #[.int .u64 (X0 : Int), .int .u64 (u0 : Int), .int .u64 0] w fun e w' => e = .returned (.tuple #[.int .u64 (r0 : Int), .int .u64 (b0 : Int)]) /\ w' = w))
  (HS2 : Hid (Calls Tryz.prog 113 #[.int .u64 (X1 : Int), .int .u64 (u1 : Int), .int .u64 (b0 : Int)] w fun e w' => (∃ z : Int, e = .returned (.tuple #[.int .u64 (r1 : Int), .int .u64 z])) /\ w' = w))
  (hr : r1 = 0 \/ r1 = 1)     (hfin : ∃ q' r' : Nat, (r1 = 0 /\ q' = q /\ r' = r0 \/ r1 = 1 /\ IntKind.u64.wrap ((q : Int) + 1) = (q' : Int) /\ IntKind.u64.wrap ((r0 : Int) - (D : Int)) = (r' : Int)) ∧
   (r' < D /\ Q = q' /\ (r' : Int) / 2 ^ min s 64 = (R : Int) \/ D <= r' /\ IntKind.u64.wrap ((q' : Int) + 1) = (Q : Int) /\ ∃ r'' : Nat, IntKind.u64.wrap ((r' : Int) - (D : Int)) = (r'' : Int) /\ (r'' : Int) / 2 ^ min s 64 = (R : Int))) :
  Calls Tryz.prog 125 #[.int .u64 (x1 : Int), .int .u64 (x0 : Int), .int .u64 (y : Int), .int .u64 (m : Int)] w fun e w' => e = .returned (.tuple #[.int .u64 (Q : Int), .int .u64 (R : Int)]) /\ w' = w := by
 obtain ⟨q', r', hA, hB⟩ := hfin
 have HF := Qq (Qj hA hB)
 have HSC := Qq hsc
 clear hA hB hsc
 go_enter Tryz.func125, Tryz.ntmps125
 go_wp2_with fail
 refine HN.out.mono ?_
 rintro e w' ⟨rfl, hw⟩
 cases hw.symm
 go_upto_if 26 with fail
 go_cut [0, 1, 2] from 23 to 99 (fun s0 s1 s2 wx => s0 = .int .u64 (X1 : Int) /\ s1 = .int .u64 (X0 : Int) /\ s2 = .int .u64 (D : Int) /\ wx = w)
 case first =>
  rcases HSC.out with ⟨h1, h2, h3, h4⟩ | ⟨h1, ⟨t, H, l1, h2, h3, h4, h5⟩, h6, h7⟩
  .
   subst h1; subst h2; subst h3; subst h4
   go_wp2_with fail
   go_meet
   case rel => exact ⟨rfl, rfl, rfl, rfl⟩
  .
   have q1 : ((s : Int) != 0) = true := by rw [bne_iff_ne]; omega
   have q2 : ((s : Int) == 0) = false := beq_eq_false_iff_ne.2 (by omega)
   have q3 : ¬ s = 0 := by omega
   go_wp2_with fail
   go_meet
   case rel => exact ⟨rfl, rfl, rfl, rfl⟩
 case rest =>
  obtain ⟨rfl, rfl, rfl, hwc⟩ := hcut
  cases hwc.symm
  go_wp2_with fail
  refine HM.out.mono ?_
  rintro e w' ⟨rfl, hw⟩
  cases hw.symm
  go_wp2_with fail
  refine HA.out.mono ?_
  rintro e w' ⟨rfl, hw⟩
  cases hw.symm
  go_wp2_with fail
  refine HA2.out.mono ?_
  rintro e w' ⟨⟨z1, rfl⟩, hw⟩
  cases hw.symm
  go_wp2_with fail
  refine HM2.out.mono ?_
  rintro e w' ⟨rfl, hw⟩
  cases hw.symm
  go_wp2_with fail
  refine HS.out.mono ?_
  rintro e w' ⟨rfl, hw⟩
  cases hw.symm
  go_wp2_with fail
  refine HS2.out.mono ?_
  rintro e w' ⟨⟨z2, rfl⟩, hw⟩
  cases hw.symm
  rcases HF.out.1 with ⟨h1, h2, h3⟩ | ⟨h1, h2, h3⟩
  .
   subst h1; subst h2; subst h3
   rcases HF.out.2 with ⟨k1, k2, k3⟩ | ⟨k1, k2, r'', k3, k4⟩
   .
    subst k2
    have p1 : ¬ (D : Int) <= (r' : Int) := by omega
    have p2 : decide (D <= r') = false := decide_eq_false (by omega)
    go_wp2_with fail
    go_ret2
    exact ⟨rfl, rfl⟩
   .
    have p1 : (D : Int) <= (r' : Int) := by omega
    have p2 : decide (D <= r') = true := decide_eq_true k1
    go_wp2_with fail
    go_ret2
    exact ⟨rfl, rfl⟩
  .
   subst h1
   rcases HF.out.2 with ⟨k1, k2, k3⟩ | ⟨k1, k2, r'', k3, k4⟩
   .
    subst k2
    have p1 : ¬ (D : Int) <= (r' : Int) := by omega
    have p2 : decide (D <= r') = false := decide_eq_false (by omega)
    go_wp2_with fail
    go_ret2
    exact ⟨rfl, rfl⟩
   .
    have p1 : (D : Int) <= (r' : Int) := by omega
    have p2 : decide (D <= r') = true := decide_eq_true k1
    go_wp2_with fail
    go_ret2
    exact ⟨rfl, rfl⟩
theorem scale_words {hi lo y : Nat} (hhi : hi < y) (hy : y < B64) (hlo : lo < B64) :
  ∃ s t Y U L : Nat, nlzN y = s /\ s < 64 /\ s + t = 64 /\ y * 2 ^ s = Y /\ B64 <= 2 * Y /\ Y < B64 /\ U < Y /\ L < B64 /\ (hi * B64 + lo) * 2 ^ s = U * B64 + L /\ shlW hi s < B64 /\ shlW hi s ||| shrW lo t = U /\ shlW lo s = L /\ shlW y s = Y /\ (s = 0 -> U = hi /\ L = lo /\ Y = y) := by
 obtain ⟨n1, n2, n3⟩ := nlz_spec (x := y) (by omega) hy
 obtain ⟨s, hs⟩ : ∃ s, nlzN y = s := ⟨_, rfl⟩
 rw [hs] at n1 n2 n3
 obtain ⟨t, ht⟩ : ∃ t, s + t = 64 := ⟨64 - s, by omega⟩
 have hB : B64 = 2 ^ s * 2 ^ t := by rw [<- Nat.pow_add, ht]; rfl
 have hps := Nat.two_pow_pos s
 have hpt := Nat.two_pow_pos t
 obtain ⟨Y, hY⟩ : ∃ Y, y * 2 ^ s = Y := ⟨_, rfl⟩
 rw [hY] at n2 n3
 have eY : shlW y s = Y := by unfold shlW; rw [hY]; exact Nat.mod_eq_of_lt n3
 have hH : hi * 2 ^ s < B64 := Nat.lt_of_le_of_lt (Nat.mul_le_mul_right _ (Nat.le_of_lt hhi)) (by rw [hY]; exact n3)
 have eH : shlW hi s = hi * 2 ^ s := Nat.mod_eq_of_lt hH
 have eh0 : shrW hi t = 0 := by
  unfold shrW
  rw [Nat.div_eq_zero_iff]
  right
  rw [hB, Nat.mul_comm (2 ^ s)] at hH
  exact Nat.lt_of_mul_lt_mul_right hH
 obtain ⟨U, o1, o2, o3⟩ := shl_or hi s t (shrW lo t) ht (shrW_lt lo s t ht hlo)
 rw [eh0, Nat.mul_zero, Nat.add_zero] at o3
 obtain ⟨L, hL⟩ : ∃ L, shlW lo s = L := ⟨_, rfl⟩
 have hLlt : L < B64 := by rw [<- hL]; exact shlW_lt lo s
 have eN : (hi * B64 + lo) * 2 ^ s = U * B64 + L := by
  have h1 := Nat.mod_add_div (lo * 2 ^ s) B64
  have h2 : lo * 2 ^ s / B64 = shrW lo t := by
   unfold shrW
   rw [hB, Nat.mul_comm lo, Nat.mul_div_mul_left _ _ hps]
  rw [h2] at h1
  have h3 : lo * 2 ^ s % B64 = L := hL
  rw [h3] at h1
  rw [Nat.add_mul, <- h1, <- o3]
  grind
 have hU : U < Y := by
  have h1 : (hi * B64 + lo) < y * B64 := by
   have : (hi + 1) * B64 <= y * B64 := Nat.mul_le_mul_right _ hhi
   rw [Nat.add_mul] at this
   omega
  have h2 : (hi * B64 + lo) * 2 ^ s < y * B64 * 2 ^ s := (Nat.mul_lt_mul_right hps).2 h1
  rw [eN, show y * B64 * 2 ^ s = Y * B64 by rw [<- hY]; grind] at h2
  exact Nat.lt_of_mul_lt_mul_right (Nat.lt_of_le_of_lt (Nat.le_add_right _ _) h2)
 refine ⟨s, t, Y, U, L, hs, n1, ht, hY, by rw [Zs]; omega, n3, hU, hLlt, eN, by rw [eH]; exact hH, o1, hL, eY, fun h => ?_⟩
 subst h
 rw [Nat.pow_zero, Nat.mul_one] at hY
 have hl0 : shrW lo t = 0 := by
  obtain rfl : t = 64 := by omega
  exact Nat.div_eq_of_lt hlo
 have hl1 : shlW lo 0 = lo := by unfold shlW; rw [Nat.pow_zero, Nat.mul_one]; exact Nat.mod_eq_of_lt hlo
 rw [hl0, Nat.pow_zero, Nat.mul_one, Nat.add_zero] at o3
 exact ⟨o3.symm, by rw [<- hL, hl1], hY.symm⟩
theorem divWW_any (x1 x0 y : Nat) (w : World) (hhi : x1 < y) (hy : y < B64) (hlo : x0 < B64) :
  Calls Tryz.prog 125 #[.int .u64 (x1 : Int), .int .u64 (x0 : Int), .int .u64 (y : Int), .int .u64 ((recW (y * 2 ^ nlzN y) : Nat) : Int)] w fun e w' => e = .returned (.tuple #[.int .u64 (((x1 * B64 + x0) / y : Nat) : Int), .int .u64 (((x1 * B64 + x0) % y : Nat) : Int)]) /\ w' = w := by
 obtain ⟨s, t, D, X1, X0, hs, s64, ht, hD, hD2, hDB, hU, hL, eN, sh1, sh2, sh3, sh4, sh0⟩ := scale_words hhi hy hlo
 have HN := Qq (nlz_any y w hy)
 have k64 : IntKind.u64.wrap (64 - (s : Int)) = (t : Int) := by rw [IntKind.wrap_u64]; omega
 rw [hs] at HN ⊢
 rw [hD]
 obtain ⟨m, hm⟩ : ∃ m, recW D = m := ⟨_, rfl⟩
 rw [hm]
 have hmB : m < B64 := by rw [<- hm]; exact (rec_spec hD2 hDB).1
 obtain ⟨q, r, hq, hqB, hqr, hr⟩ := recip_words hD2 hDB hU hL hm.symm
 have hX1B : X1 < B64 := Nat.lt_trans hU hDB
 -- the words
 have HM := Qq (Mul_any m X1 hmB hX1B w)
 have hmm := Nat.div_add_mod (m * X1) B64
 have ht0 := Nat.mod_lt (m * X1) Zy
 have HM2 := Qq (Mul_any D q hDB hqB w)
 have hdd := Nat.div_add_mod (D * q) B64
 have hu0 := Nat.mod_lt (D * q) Zy
 rw [<- Zs] at HM HM2
 obtain ⟨t1, ht1⟩ : ∃ t1, m * X1 / B64 = t1 := ⟨_, rfl⟩
 obtain ⟨t0, ht0'⟩ : ∃ t0, m * X1 % B64 = t0 := ⟨_, rfl⟩
 obtain ⟨u1, hu1⟩ : ∃ u1, D * q / B64 = u1 := ⟨_, rfl⟩
 obtain ⟨u0, hu0'⟩ : ∃ u0, D * q % B64 = u0 := ⟨_, rfl⟩
 rw [ht1, ht0'] at HM hmm
 rw [hu1, hu0'] at HM2 hdd
 rw [ht0'] at ht0
 rw [hu0'] at hu0
 rw [Nat.mul_comm D q] at hdd
 have hqX : X1 * B64 + X0 = B64 * u1 + u0 + r := by omega
 have hq2 : q = t1 + (t0 + X0) / B64 + X1 := by
  rw [hq, <- hmm, Nat.add_assoc, Nat.mul_add_div Zy]
 have HA := Qq (Add_any (t0 : Int) (X0 : Int) 0 (by omega) (by omega) (by omega) (by omega) w)
 rw [Zs] at hL ht0 hu0 hqX hq2 hr hX1B hqB
 have k1 : ((t0 : Int) + (X0 : Int) + 0) % 18446744073709551616 = (((t0 + X0) % 18446744073709551616 : Nat) : Int) := by omega
 have k2 : ((t0 : Int) + (X0 : Int) + 0) / 18446744073709551616 = (((t0 + X0) / 18446744073709551616 : Nat) : Int) := by omega
 rw [k1, k2] at HA
 obtain ⟨a0, ha0⟩ : ∃ a0, (t0 + X0) % 18446744073709551616 = a0 := ⟨_, rfl⟩
 obtain ⟨c0, hc0⟩ : ∃ c0, (t0 + X0) / 18446744073709551616 = c0 := ⟨_, rfl⟩
 rw [ha0, hc0] at HA
 rw [hc0] at hq2
 have ha2 := Add_any (t1 : Int) (X1 : Int) (c0 : Int) (by omega) (by omega) (by omega) (by omega) w
 rw [show ((t1 : Int) + (X1 : Int) + (c0 : Int)) % 18446744073709551616 = (q : Int) by omega] at ha2
 have HA2 := Qq (ha2.mono (R' := fun e w' => (∃ z : Int, e = .returned (.tuple #[.int .u64 (q : Int), .int .u64 z])) /\ w' = w) (fun e w' ⟨h1, h2⟩ => ⟨⟨_, h1⟩, h2⟩))
 clear ha2
 obtain ⟨r0, hr0⟩ : ∃ r0, r % 18446744073709551616 = r0 := ⟨_, rfl⟩
 obtain ⟨r1, hr1⟩ : ∃ r1, r / 18446744073709551616 = r1 := ⟨_, rfl⟩
 have hr1' : r1 = 0 \/ r1 = 1 := by have h : D < 18446744073709551616 := hDB; clear hqX hq2 hqr; omega
 have HS := Qq (Sub_any (X0 : Int) (u0 : Int) 0 (by omega) (by omega) (by omega) (by omega) (by omega) w)
 have k3 : ((X0 : Int) - (u0 : Int) - 0) % 18446744073709551616 = (r0 : Int) := by omega
 obtain ⟨b0, hb0⟩ : ∃ b0 : Nat, bor (X0 : Int) (u0 : Int) 0 = (b0 : Int) /\ (b0 = 1 /\ X0 < u0 \/ b0 = 0 /\ u0 <= X0) := by
  unfold bor
  by_cases h : X0 < u0
  . exact ⟨1, by rw [if_pos (by omega)]; rfl, Or.inl ⟨rfl, h⟩⟩
  . exact ⟨0, by rw [if_neg (by omega)]; rfl, Or.inr ⟨rfl, by omega⟩⟩
 rw [k3, hb0.1] at HS
 have hb1 := hb0.2
 have hs2 := Sub_any (X1 : Int) (u1 : Int) (b0 : Int) (by omega) (by omega) (by omega) (by omega) (by omega) w
 rw [show ((X1 : Int) - (u1 : Int) - (b0 : Int)) % 18446744073709551616 = (r1 : Int) by omega] at hs2
 have HS2 := Qq (hs2.mono (R' := fun e w' => (∃ z : Int, e = .returned (.tuple #[.int .u64 (r1 : Int), .int .u64 z])) /\ w' = w) (fun e w' ⟨h1, h2⟩ => ⟨⟨_, h1⟩, h2⟩))
 clear hs2
 -- the end
 have hps := Nat.two_pow_pos s
 have hqr' : q * D + r = X1 * 18446744073709551616 + X0 := by rw [hqr, Zs]
 have hfix := recip_fix (B := 18446744073709551616) (d := D) (X := X1 * 18446744073709551616 + X0) (q := q) (r := r) (by omega) (by rw [Zs] at hDB; omega) (by rw [Zs] at hD2; omega) (by omega) (by omega) hr
 have hX : X1 * 18446744073709551616 + X0 = (x1 * B64 + x0) * 2 ^ s := by rw [eN, Zs]
 have hQ : (X1 * 18446744073709551616 + X0) / D = (x1 * B64 + x0) / y := by rw [hX, <- hD]; exact scale_div hps
 have hR : (X1 * 18446744073709551616 + X0) % D = (x1 * B64 + x0) % y * 2 ^ s := by rw [hX, <- hD]; exact scale_mod _ _ _
 have hRR : ∀ z : Nat, (x1 * B64 + x0) % y * 2 ^ s = z -> (z : Int) / 2 ^ min s 64 = (((x1 * B64 + x0) % y : Nat) : Int) := fun z hz => by
  rw [shrW_form s (by omega)]
  unfold shrW
  rw [<- hz, Nat.mul_div_cancel _ hps]
 have hQB : (X1 * 18446744073709551616 + X0) / D < 18446744073709551616 := by
  rw [Nat.div_lt_iff_lt_mul (by omega)]
  have : (X1 + 1) * 18446744073709551616 <= D * 18446744073709551616 := Nat.mul_le_mul_right _ hU
  omega
 refine divWW_walk x1 x0 y m s X1 X0 D t1 t0 a0 c0 q u1 u0 r0 b0 r1 _ _ w ?_ HN HM HA HA2 HM2 HS HS2 hr1' ?_
 .
  rcases Nat.eq_zero_or_pos s with h | h
  .
   obtain ⟨h1, h2, h3⟩ := sh0 h
   exact Or.inl ⟨h, h1, h2, h3⟩
  .
   refine Or.inr ⟨h, ⟨t, shlW x1 s, shrW x0 t, shlW_form s (by omega) x1, k64, shrW_form t (by omega) x0, ?_⟩, by rw [shlW_form s (by omega), sh3], by rw [shlW_form s (by omega), sh4]⟩
   rw [bits_or_u64_nat _ _ (by exact sh1) (by exact shrW_le x0 t hlo), sh2]
 .
  rw [hQ] at hfix hQB
  rw [hR] at hfix
  rw [Zs] at hDB
  by_cases hbig : 18446744073709551616 <= r
  .
   obtain ⟨f1, f2, f3⟩ := hfix.1 hbig
   by_cases hd : D <= r - D
   .
    obtain ⟨g1, g2⟩ := f2 hd
    refine ⟨q + 1, r - D, Or.inr ⟨by omega, by rw [IntKind.wrap_u64]; omega, by rw [IntKind.wrap_u64]; omega⟩, Or.inr ⟨hd, by rw [IntKind.wrap_u64, g1]; omega, r - D - D, by rw [IntKind.wrap_u64]; omega, hRR _ g2⟩⟩
   .
    obtain ⟨g1, g2⟩ := f3 (by omega)
    exact ⟨q + 1, r - D, Or.inr ⟨by omega, by rw [IntKind.wrap_u64]; omega, by rw [IntKind.wrap_u64]; omega⟩, Or.inl ⟨by omega, g1, hRR _ g2⟩⟩
  .
   obtain ⟨f1, f2⟩ := hfix.2 (by omega)
   by_cases hd : D <= r
   .
    obtain ⟨g1, g2⟩ := f1 hd
    exact ⟨q, r, Or.inl ⟨by omega, rfl, by omega⟩, Or.inr ⟨hd, by rw [IntKind.wrap_u64, g1]; omega, r - D, by rw [IntKind.wrap_u64]; omega, hRR _ g2⟩⟩
   .
    obtain ⟨g1, g2⟩ := f2 (by omega)
    exact ⟨q, r, Or.inl ⟨by omega, rfl, by omega⟩, Or.inl ⟨by omega, g1, hRR _ g2⟩⟩
theorem divW_step {P V H r x y q r' B P' V' : Nat} (hI : P + V = H * y + r) (hX : r * B + x = q * y + r') (hP : P' = B * P) (hV : V' = x + B * V) : P' + V' = (q + B * H) * y + r' := by
 subst hP; subst hV
 have h1 : B * (P + V) = B * (H * y + r) := by rw [hI]
 rw [Nat.mul_add, Nat.mul_add] at h1
 have h2 : B * (H * y) = B * H * y := by rw [Nat.mul_assoc]
 rw [Nat.add_mul]
 rw [Nat.mul_comm r B] at hX
 omega
theorem divWVW_one (bz oz cz bx ox cx xn x y : Nat) (w : World) (hxn : xn < y) (hy : y < B64) (hx : U64 w bx ox [x]) (hxB : x < B64) (hz : Live w bz oz 1) :
  Calls Tryz.prog 104 #[.slice (some ⟨bz, oz, none⟩) 1 cz, .int .u64 (xn : Int), .slice (some ⟨bx, ox, none⟩) 1 cx, .int .u64 (y : Int)] w fun e w' =>
   e = .returned (.int .u64 (((xn * B64 + x) % y : Nat) : Int)) /\ Upd (Rg bz oz (oz + 1)) w w' /\ U64 w' bz oz [(xn * B64 + x) / y] := by
 have HZ := Qq (zzDiv_any xn x y w hxn hy hxB)
 obtain ⟨q, hq⟩ : ∃ q, (xn * B64 + x) / y = q := ⟨_, rfl⟩
 obtain ⟨r, hr⟩ : ∃ r, (xn * B64 + x) % y = r := ⟨_, rfl⟩
 rw [hq, hr] at HZ ⊢
 have c1 := (hx 0 (by simp)).cell
 simp only [Nat.add_zero, List.getElem_cons_zero] at c1
 have HL := Qq hz
 clear hq hr hx hz hxn hy hxB
 go_enter Tryz.func104, Tryz.ntmps104
 go_wp2_with fail
 refine HZ.out.mono ?_
 rintro e w1 ⟨rfl, hw⟩
 obtain ⟨nq, rfl⟩ := hw
 obtain ⟨v0, c2, f2, k2⟩ := (HL.out.drewN nq).at_ (k := 0) (by omega)
 simp only [Nat.add_zero] at c2 f2 k2
 have h1 : Upd (Rg bz oz (oz + 1)) w ((w.drewN nq).setCell ⟨bz, oz, none⟩ (.int .u64 (q : Int))) := ((Upd.refl _ w).drewN nq).setCell (fun _ => ⟨rfl, Nat.le_refl _, by omega⟩) _
 have h2 : U64 ((w.drewN nq).setCell ⟨bz, oz, none⟩ (.int .u64 (q : Int))) bz oz [q] := U64.cons (k2.set _) (U64.nil _ _ _)
 have HF := Qq (Qj h1 h2)
 clear h1 h2 k2
 go_wp2_with fail
 go_ret
 exact ⟨rfl, HF.out⟩
theorem divWVW_more (bz oz cz bx ox cx n xn y : Nat) (xs : List Nat) (w : World) (hn : 2 <= n) (hn2 : n <= 1099511627776) (hxn : xn < y) (hy : y < B64) (lx : xs.length = n) (hx : U64 w bx ox xs) (dx : Digs B64 xs) (hz : Live w bz oz n) (ok : DnOk bz oz bx ox n) :
  Calls Tryz.prog 104 #[.slice (some ⟨bz, oz, none⟩) n cz, .int .u64 (xn : Int), .slice (some ⟨bx, ox, none⟩) n cx, .int .u64 (y : Int)] w fun e w' =>
   ∃ (r : Nat) (rs : List Nat), e = .returned (.int .u64 (r : Int)) /\ Upd (Rg bz oz (oz + n)) w w' /\ U64 w' bz oz rs /\ rs.length = n /\ Digs B64 rs /\ xn * B64 ^ n + val B64 xs = val B64 rs * y + r /\ r < y := by
 have HR := Qq (recip_any y (y * 2 ^ nlzN y) w (by omega) hy rfl)
 have HD := Qq (fun (x1 x0 : Nat) (w' : World) (h1 : x1 < y) (h2 : x0 < B64) => divWW_any x1 x0 y w' h1 hy h2)
 obtain ⟨m, hm⟩ : ∃ m, recW (y * 2 ^ nlzN y) = m := ⟨_, rfl⟩
 rw [hm] at HR HD
 have q1 : ((n : Int) == 1) = false := beq_eq_false_iff_ne.2 (by omega)
 have HX := Qq (Qj lx (Qj hx (Qj dx (Qj hz (Qj ok (Qj hxn hy))))))
 clear hm lx hx dx hz ok hxn hy
 go_enter Tryz.func104, Tryz.ntmps104
 go_wp2_with fail
 refine HR.out.mono ?_
 rintro e w1 ⟨rfl, hw⟩
 obtain ⟨nq, rfl⟩ := hw
 go_wp2_with fail
 go_loopw [8, 12] (fun rv iv wr => ∃ (k r : Nat) (i : Int) (hs : List Nat), rv = .int .u64 (r : Int) /\ iv = .int .i64 i /\ Hid (i = (k : Int) - 1 /\ k <= n /\ Upd (Rg bz oz (oz + n)) w wr /\ Live wr bz oz n /\ U64 wr bx ox (xs.take k)
   /\ U64 wr bz (oz + k) hs /\ hs.length + k = n /\ Digs B64 hs /\ xn * B64 ^ (n - k) + val B64 (xs.drop k) = val B64 hs * y + r /\ r < y))
  (fun _ iv _ => (intOf iv + 1).toNat)
 case atStart =>
  refine ⟨n, xn, (n : Int) - 1, [], rfl, by go_num, rfl, Nat.le_refl _, (Upd.refl _ w).drewN nq, HX.out.2.2.2.1.drewN nq, by rw [List.take_of_length_le (by rw [HX.out.1]; exact Nat.le_refl _)]; exact HX.out.2.1.drewN nq, U64.nil _ _ _, by simp, Digs.nil, ?_, HX.out.2.2.2.2.2.1⟩
  rw [List.drop_of_length_le (by rw [HX.out.1]; exact Nat.le_refl _), Nat.sub_self]; simp
 case round =>
  obtain ⟨k, r, i, hs, rfl, rfl, HI⟩ := hrel
  cases k with
  | zero =>
   have hi : i = -1 := by have := HI.out.1; omega
   subst hi
   have p1 : ¬ (0 : Int) <= -1 := by omega
   go_wp2_with fail
   go_ret
   obtain ⟨_, _, h1, _, _, h2, h3, h4, h5, h6⟩ := HI.out
   exact ⟨r, rfl, h1, hs, h2, by omega, h4, by simpa using h5, h6⟩
  | succ j =>
   have hi : i = (j : Int) := by have := HI.out.1; omega
   subst hi
   obtain ⟨_, hk, hU, hL, hT, hH, hl, hD, hE, hr⟩ := HI.out
   obtain ⟨x0, ex, cx0, _⟩ := hT.top HX.out.1 (by omega) j (Nat.le_refl _)
   have hxB := HX.out.2.2.1.at_ ex
   obtain ⟨v0, cz0, fz0, kz0⟩ := hL.at_ (k := j) (by omega)
   have HW := Qq (HD.out r x0 wr hr hxB)
   have hX := Nat.div_add_mod (r * B64 + x0) y
   have hr' := Nat.mod_lt (r * B64 + x0) (show 0 < y by omega)
   have hqB : (r * B64 + x0) / y < B64 := by
    rw [Nat.div_lt_iff_lt_mul (by omega)]
    have : (r + 1) * B64 <= y * B64 := Nat.mul_le_mul_right _ hr
    rw [Nat.add_mul] at this
    rw [Nat.mul_comm B64 y]; omega
   obtain ⟨q, hq⟩ : ∃ q, (r * B64 + x0) / y = q := ⟨_, rfl⟩
   obtain ⟨r', hr0⟩ : ∃ r', (r * B64 + x0) % y = r' := ⟨_, rfl⟩
   rw [hq, hr0] at HW
   rw [hq, hr0, Nat.mul_comm y] at hX
   rw [hr0] at hr'
   rw [hq] at hqB
   have hN := divW_step (P' := xn * B64 ^ (n - j)) (V' := val B64 (xs.drop j)) hE hX.symm (by rw [show n - j = n - (j + 1) + 1 by omega, Nat.pow_succ]; grind) (val_drop_at (b := B64) ex)
   have HF := Qq (Qj (hU.setCell (b := bz) (i := oz + j) (fun _ => ⟨rfl, by omega, by omega⟩) (.int .u64 (q : Int))) (Qj (hL.set bz (oz + j) (.int .u64 (q : Int))) (Qj (U64.src_down (nq := 0) (v := .int .u64 (q : Int)) hT HX.out.1 (by omega) HX.out.2.2.2.2.1)
    (Qj (U64.dst_down (nq := 0) (d := q) hH kz0) (Qj hl (Qj (Digs.cons hqB hD) (Qj hN (Qj hr' hk))))))))
   have p3 : j < n := by omega
   clear hk hU hL hT hH hl hD hE hr ex hxB hX hr' hqB hq hr0 hN HI kz0
   obtain ⟨i, hi⟩ : ∃ i : Int, (j : Int) = i := ⟨_, rfl⟩
   have p0 : i.toNat = j := by omega
   have p1 : 0 <= i := by omega
   have p2 : i < (n : Int) := by omega
   have p4 : IntKind.i64.wrap (i - 1) = i - 1 := by rw [IntKind.wrap_i64]; omega
   have HJ := Qq hi
   rw [hi]
   clear hi
   go_wp2_with fail
   refine HW.out.mono ?_
   rintro e w2 ⟨rfl, hw⟩
   cases hw.symm
   go_wp2_with fail
   go_roundw
   case rel =>
    refine ⟨j, r', i - 1, q :: hs, rfl, rfl, by have := HJ.out; omega, by omega, HF.out.1, HF.out.2.1, HF.out.2.2.1, HF.out.2.2.2.1, ?_, HF.out.2.2.2.2.2.1, ?_, HF.out.2.2.2.2.2.2.2.1⟩
    . have := HF.out.2.2.2.2.1; simp; omega
    .
     have h := HF.out.2.2.2.2.2.2.1
     rw [Ye]; exact h
   case measure => simp [intOf]; omega
theorem divWVW_any (bz oz cz bx ox cx n xn y : Nat) (xs : List Nat) (w : World) (hn : 1 <= n) (hn2 : n <= 1099511627776) (hxn : xn < y) (hy : y < B64) (lx : xs.length = n) (hx : U64 w bx ox xs) (dx : Digs B64 xs) (hz : Live w bz oz n) (ok : DnOk bz oz bx ox n) :
  Calls Tryz.prog 104 #[.slice (some ⟨bz, oz, none⟩) n cz, .int .u64 (xn : Int), .slice (some ⟨bx, ox, none⟩) n cx, .int .u64 (y : Int)] w fun e w' =>
   ∃ (r : Nat) (rs : List Nat), e = .returned (.int .u64 (r : Int)) /\ Upd (Rg bz oz (oz + n)) w w' /\ U64 w' bz oz rs /\ rs.length = n /\ Digs B64 rs /\ xn * B64 ^ n + val B64 xs = val B64 rs * y + r /\ r < y := by
 by_cases h1 : n = 1
 .
  subst h1
  obtain ⟨x, rfl⟩ : ∃ x, xs = [x] := by
   match xs, lx with
   | [x], _ => exact ⟨x, rfl⟩
  have hxB := dx.head
  refine (divWVW_one bz oz cz bx ox cx xn x y w hxn hy hx hxB hz).mono ?_
  rintro e w' ⟨rfl, h2, h3⟩
  refine ⟨_, _, rfl, h2, h3, rfl, ?_, ?_, Nat.mod_lt _ (by omega)⟩
  .
   refine Digs.cons ?_ Digs.nil
   rw [Nat.div_lt_iff_lt_mul (by omega)]
   have : (xn + 1) * B64 <= y * B64 := Nat.mul_le_mul_right _ hxn
   rw [Nat.add_mul] at this
   rw [Nat.mul_comm B64 y]; omega
  .
   have h4 := Nat.div_add_mod (xn * B64 + x) y
   simp only [Ye, val_nil, Nat.mul_zero, Nat.add_zero, Nat.pow_one]
   rw [Nat.mul_comm y] at h4
   omega
 . exact divWVW_more bz oz cz bx ox cx n xn y xs w (by omega) hn2 hxn hy lx hx dx hz ok
theorem quo_rest {X H y r : Nat} (h : X = H * y + r) (hr : r < y) : H = X / y /\ r = X % y := by
 subst h
 rw [Nat.mul_comm]
 have h0 : 0 < y := by omega
 refine ⟨?_, ?_⟩
 . rw [Nat.mul_add_div h0, Nat.div_eq_of_lt hr]; rfl
 . rw [Nat.mul_add_mod, Nat.mod_eq_of_lt hr]
def NatRes2 (w : World) (z : Loc) (need N : Nat) (v : Value) (e : Ending) (w' : World) : Prop :=
 ∃ r : Loc, e = .returned (.tuple #[.slice r.A (digs N).length r.c, v]) /\ (r = z \/ w.heap.size <= r.b) /\ (need <= z.c -> r = z) /\ Upd (ZF z need) w w' /\ NatV w' r N
theorem NatRes2.of {w w' : World} {z : Loc} {need N : Nat} {a : Value} {v : Value} (h : Ya w z need N (.returned a) w') : NatRes2 w z need N v (.returned (.tuple #[a, v])) w' := by
 obtain ⟨r, h1, h2⟩ := h
 cases h1
 exact ⟨r, rfl, h2⟩
theorem Rel.dn {z x : Loc} {n : Nat} (h : Rel z x) (hn : n <= x.c) (hz : n <= z.c) : DnOk z.b z.o x.b x.o n := by
 unfold DnOk
 rcases h with rfl | h
 . omega
 .
  unfold Zj at h
  rcases Nat.eq_zero_or_pos n with h0 | h0
  . omega
  . omega
theorem From.dn {w : World} {z : Loc} {b o c need xb xo n : Nat} {xs : List Nat} (hF : From w z (Loc.mk1 b o c) need) (ok : need <= z.c -> DnOk z.b z.o xb xo n) (hx : U64 w xb xo xs) (hl : xs.length = n) : DnOk b o xb xo n := by
 rcases hF with ⟨h1, h2⟩ | ⟨h1, h2, h3⟩
 . cases z; cases h2; exact ok h1
 .
  by_cases h0 : n = 0
  . unfold DnOk; omega
  .
   have := hx.lt (by omega)
   simp only at h2
   left; omega
theorem divW_pos (z : Loc) (nz xb xo xc m y : Nat) (xs : List Nat) (w : World) (hz : z.Ok w) (lx : xs.length = m) (hm0 : 0 < m) (hm : m <= 1099511627776)
  (hx : U64 w xb xo xs) (dx : Digs B64 xs) (hy1 : 1 < y) (hy : y < B64) (okx : m <= z.c -> DnOk z.b z.o xb xo m) :
  Calls Tryz.prog 83 #[.slice z.A nz z.c, .slice (some ⟨xb, xo, none⟩) m xc, .int .u64 (y : Int)] w fun e w' => NatRes2 w z m (val B64 xs / y) (.int .u64 ((val B64 xs % y : Nat) : Int)) e w' := by
 have q0 : ((y : Int) == 0) = false := beq_eq_false_iff_ne.2 (by omega)
 have q1 : ((y : Int) == 1) = false := beq_eq_false_iff_ne.2 (by omega)
 have q2 : ((m : Int) == 0) = false := beq_eq_false_iff_ne.2 (by omega)
 have H := Qq (Qj lx (Qj hx (Qj okx (Qj hy1 hy))))
 clear lx hx okx hy1 hy
 go_enter Tryz.func83, Tryz.ntmps83
 go_wp2_with fail
 refine (make_pos z nz m _ _ hz rfl hm0 hm).mono ?_
 rintro e w1 ⟨b, o, c, rfl, hF, hO, hc, hU⟩
 have hx1 := H.out.2.1.upd hU (fun _ _ h => h)
 have dk := hF.dn H.out.2.2.1 H.out.2.1 H.out.1
 have hL : Live w1 b o c := hO.live
 have HH := Qq (Qj hx1 (Qj hF hO))
 have HW := Qq (divWVW_any b o c xb xo xc m 0 y xs w1 hm0 hm (by have := H.out.2.2.2.1; omega) H.out.2.2.2.2 H.out.1 hx1 dx (hL.le hc) dk)
 clear hx1 hF hO dk hL
 go_wp2_with fail
 refine HW.out.mono ?_
 rintro e w2 ⟨r, rs, rfl, hU2, hR, hl, hD, hv, hr⟩
 rw [Nat.zero_mul, Nat.zero_add] at hv
 obtain ⟨e1, e2⟩ := quo_rest hv hr
 have hfin := Ya.made (need := m) (N := val B64 xs / y) HH.out.2.1 (Nat.le_refl _) (fun h => h) hU hU2
  ⟨HH.out.2.2.upd hU2, by rw [<- e1]; exact Nat.le_trans (digs_len_le hD) (by rw [hl]; exact hc), by rw [<- e1, digs_eq_take hD]; exact hR.take _, Yc _⟩ rfl
 have HE := Qq (Qj (Qj hl (Qj hR hD)) (Qj hfin (Qj e1 e2)))
 have hc63 := HH.out.2.2.1
 clear hl hR hD hfin e1 e2 hv hr
 go_wp2_with fail
 refine (norm_len b o c m rs _ HE.out.1.1 hc hc63 HE.out.1.2.1 HE.out.1.2.2).mono ?_
 rintro e w4 ⟨rfl, hw4⟩
 cases hw4.symm
 go_wp2
 go_ret2
 rw [HE.out.2.2.1, HE.out.2.2.2]
 exact NatRes2.of HE.out.2.1
theorem divW_any (z x : Loc) (nz X y : Nat) (w : World) (hz : z.Ok w) (hx : NatV w x X) (hm : (digs X).length <= 1099511627776) (hy0 : y ≠ 0) (hy : y < B64) (rx : Rel z x) :
  Calls Tryz.prog 83 #[.slice z.A nz z.c, .slice x.A (digs X).length x.c, .int .u64 (y : Int)] w fun e w' => NatRes2 w z (digs X).length (X / y) (.int .u64 ((X % y : Nat) : Int)) e w' := by
 by_cases h1 : y = 1
 .
  subst h1
  have HS := Qq (set_any z x nz X w hz hx hm)
  rw [Nat.div_one, Nat.mod_one]
  obtain ⟨m, hm0⟩ : ∃ m, (digs X).length = m := ⟨_, rfl⟩
  rw [hm0] at HS ⊢
  clear hm hm0 hx rx
  go_enter Tryz.func83, Tryz.ntmps83
  go_wp2_with fail
  refine HS.out.mono ?_
  rintro e w1 ⟨r, rfl, h⟩
  have HR := Qq h
  clear h
  go_wp2
  go_ret2
  exact ⟨r, rfl, HR.out⟩
 by_cases h0 : X = 0
 .
  subst h0
  rw [Yg, Nat.zero_div, Nat.zero_mod]
  have q0 : ((y : Int) == 0) = false := beq_eq_false_iff_ne.2 (by omega)
  have q1 : ((y : Int) == 1) = false := beq_eq_false_iff_ne.2 (by omega)
  have q5 : (0 : Int) <= (z.c : Int) := by omega
  have HZ := Qq (Ya.zero (need := 0) hz (Upd.refl _ w))
  clear hy hm hx rx h1
  go_enter Tryz.func83, Tryz.ntmps83
  go_wp2
  go_ret2
  have h := NatRes2.of (v := .int .u64 0) HZ.out
  cases hzA : z.A <;> simpa [hzA] using h
 have hn0 : 0 < (digs X).length := by
  rcases Nat.eq_zero_or_pos (digs X).length with h | h
  . exact absurd (Zg.1 h) h0
  . exact h
 have e1 := hx.addr (by omega)
 have hle := hx.le
 obtain ⟨xA, xc, xb, xo⟩ := x
 simp only at e1
 subst e1
 have := divW_pos z nz xb xo xc _ y _ w hz rfl hn0 hm hx.at_ hx.dig (by omega) hy (fun h => rx.dn hle h)
 rw [Zv] at this
 exact this
def DivRes (w : World) (z z2 : Loc) (need need2 Q R : Nat) (F : Nat -> Nat -> Prop) (e : Ending) (w' : World) : Prop :=
 ∃ r r2 : Loc, e = .returned (.tuple #[.slice r.A (digs Q).length r.c, .slice r2.A (digs R).length r2.c]) /\ (r = z \/ w.heap.size <= r.b \/ r.c = 0) /\ (r2 = z2 \/ w.heap.size <= r2.b \/ r2.c = 0) /\ Zj r r2 ∧
  Upd (fun b i => (ZF z need b i \/ ZF z2 need2 b i) \/ F b i) w w' /\ NatV w' r Q /\ NatV w' r2 R
theorem Zj.new {w : World} {z x : Loc} (h : z.Ok w) (hx : w.heap.size <= x.b) : Zj z x := by
 rcases Nat.eq_zero_or_pos z.c with h0 | h0
 . exact Or.inl h0
 .
  have := (h.free h0).lt
  right; right; left; omega
theorem DivRes.two {w w1 w2 : World} {z z2 : Loc} {need need2 Q R : Nat} {r r2 : Loc} (hz : z.Ok w) (hz2 : z2.Ok w) (ha : Zj z z2)
  (h1 : r = z \/ w.heap.size <= r.b) (u1 : Upd (ZF z need) w w1) (n1 : NatV w1 r Q) (h2 : r2 = z2 \/ w1.heap.size <= r2.b) (u2 : Upd (ZF z2 need2) w1 w2) (n2 : NatV w2 r2 R) :
  DivRes w z z2 need need2 Q R NoF (.returned (.tuple #[.slice r.A (digs Q).length r.c, .slice r2.A (digs R).length r2.c])) w2 := by
 have hs := u1.size
 have a12 : Zj z2 r := by
  rcases h1 with rfl | h1
  . exact ha.symm
  . exact Zj.new hz2 h1
 have a2 : Zj r r2 := by
  rcases h2 with rfl | h2
  . exact a12.symm
  . exact Zj.new n1.ok h2
 refine ⟨r, r2, rfl, ?_, ?_, a2, ?_, n1.upd u2 (fun i hi => a12.zf (Nat.lt_of_lt_of_le hi n1.le)), n2⟩
 .
  rcases h1 with h | h
  . exact Or.inl h
  . exact Or.inr (Or.inl h)
 .
  rcases h2 with h | h
  . exact Or.inl h
  . exact Or.inr (Or.inl (by omega))
 . exact u1.then u2 (fun b i _ h => Or.inl (Or.inl h)) (fun b i _ h => Or.inl (Or.inr h))
theorem div_one (z z2 x y : Loc) (S : Value) (nz nz2 X Y : Nat) (w : World) (hz : z.Ok w) (hz2 : z2.Ok w) (ha : Zj z z2) (hx : NatV w x X) (hy : NatV w y Y) (hm : (digs X).length <= 1099511627776) (h1 : (digs Y).length = 1) (rx : Rel z x) :
  Calls Tryz.prog 59 #[.slice z.A nz z.c, S, .slice z2.A nz2 z2.c, .slice x.A (digs X).length x.c, .slice y.A (digs Y).length y.c] w fun e w' => DivRes w z z2 (digs X).length 1 (X / Y) (X % Y) NoF e w' := by
 have ey := hy.addr (by omega)
 have hcy := (hy.at_ 0 (by omega)).cell
 have hYv := Zv Y
 obtain ⟨y0, hy0⟩ : ∃ y0, digs Y = [y0] := by
  match digs Y, h1 with
  | [y0], _ => exact ⟨y0, rfl⟩
 have hYB := hy.dig
 simp only [hy0, List.getElem_cons_zero, Nat.add_zero] at hcy
 rw [hy0] at hYv hYB
 have hB := hYB.head
 simp only [Ye, val_nil, Nat.mul_zero, Nat.add_zero] at hYv
 subst hYv
 have hn0 : y0 ≠ 0 := fun h => by rw [h, Yg] at h1; simp at h1
 have HW := Qq (divW_any z x nz X y0 w hz hx hm hn0 hB rx)
 rw [h1]
 obtain ⟨yA, yc, yb, yo⟩ := y
 simp only at ey hcy
 subst ey
 obtain ⟨m, hm0⟩ : ∃ m, (digs X).length = m := ⟨_, rfl⟩
 rw [hm0] at HW ⊢
 have HA := Qq (Qj hz (Qj hz2 (Qj ha (Nat.lt_trans (Nat.mod_lt X (by omega)) hB))))
 clear hm hm0 hx hy rx ha hz hz2 hYB h1 hy0 hB
 go_enter Tryz.func59, Tryz.ntmps59
 go_wp2_with fail
 refine HW.out.mono ?_
 rintro e w1 ⟨r, rfl, a1, a2, a3, a4⟩
 have HR := Qq (Qj a1 (Qj a3 a4))
 have HS := Qq (setWord_any z2 nz2 (X % y0) w1 (HA.out.2.1.upd a3) HA.out.2.2.2)
 clear a1 a2 a3 a4
 go_wp2_with fail
 refine HS.out.mono ?_
 rintro e w2 ⟨r2, rfl, b1, b2, b3, b4⟩
 have HT := Qq (Qj b1 (Qj b3 b4))
 clear b1 b2 b3 b4
 go_wp2
 go_ret2
 exact DivRes.two HA.out.1 HA.out.2.1 HA.out.2.2.1 HR.out.1 HR.out.2.1 HR.out.2.2 HT.out.1 HT.out.2.1 HT.out.2.2
theorem div_less (z z2 x y : Loc) (S : Value) (nz nz2 X Y : Nat) (w : World) (hz : z.Ok w) (hz2 : z2.Ok w) (ha : Zj z z2) (hx : NatV w x X) (hy : NatV w y Y) (hm : (digs X).length <= 1099511627776) (h2 : 2 <= (digs Y).length) (hl : X < Y) :
  Calls Tryz.prog 59 #[.slice z.A nz z.c, S, .slice z2.A nz2 z2.c, .slice x.A (digs X).length x.c, .slice y.A (digs Y).length y.c] w fun e w' => DivRes w z z2 0 (digs X).length (X / Y) (X % Y) NoF e w' := by
 have HC := Qq (cmp_any x y X Y w hx hy hm)
 have hc1 : cmpN X Y = -1 := by unfold cmpN; rw [if_pos hl]
 rw [hc1] at HC
 rw [Nat.div_eq_of_lt hl, Nat.mod_eq_of_lt hl]
 have HS := Qq (fun w' (u : Upd NoF w w') => set_any z2 x nz2 X w' (hz2.upd u) (hx.upd0 u) hm)
 obtain ⟨m, hm0⟩ : ∃ m, (digs X).length = m := ⟨_, rfl⟩
 obtain ⟨n, hn0⟩ : ∃ n, (digs Y).length = n := ⟨_, rfl⟩
 rw [hn0] at h2 HC ⊢
 rw [hm0] at HC HS ⊢
 have q1 : ((n : Int) == 0) = false := beq_eq_false_iff_ne.2 (by omega)
 have q2 : ((n : Int) == 1) = false := beq_eq_false_iff_ne.2 (by omega)
 have q5 : (0 : Int) <= (z.c : Int) := by omega
 have HA := Qq (Qj hz (Qj hz2 ha))
 clear hm hm0 hn0 hx hy ha hz hz2 hl hc1
 go_enter Tryz.func59, Tryz.ntmps59
 go_wp2_with fail
 refine HC.out.mono ?_
 rintro e w1 ⟨rfl, hw⟩
 have HU := Qq hw.upd
 clear hw
 go_wp2_with fail
 refine (HS.out w1 HU.out).mono ?_
 rintro e w2 ⟨r2, rfl, b1, b2, b3, b4⟩
 have HT := Qq (Qj b1 (Qj b3 b4))
 clear b1 b2 b3 b4
 go_wp2
 go_ret2
 have h := DivRes.two (need := 0) HA.out.1 HA.out.2.1 HA.out.2.2 (Or.inl rfl) (HU.out.mono (fun _ _ _ h => h.elim)) (NatV.zero (HA.out.1.upd HU.out)) HT.out.1 HT.out.2.1 HT.out.2.2
 rw [Yg] at h
 cases hzA : z.A <;> simpa [hzA] using h
end Go.Proofs.YthkklkjldpcbkaaGreatDoor
