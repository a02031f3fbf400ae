/- For the claim of laws.FnInverse: DivM, ShelfB, DivA, DivB. -/
import Derived.Test.YthkklkjldpcbkaaGreatDoorLiA1
import Derived.Test.YthkklkjldpcbkaaGreatDoorLiShelfC
import Derived.Test.YthkklkjldpcbkaaGreatDoorProg
import Derived.Shelf.Lay
import Derived.Shelf.Small.Bits
import Derived.Shelf.Strconv.Itoa0
import Derived.Test.YthkklkjldpcbkaaGreatDoorLiA2
import Derived.Deep.DeepCutAuto
import Derived.Lib.ItoaNum
import Derived.Deep.CutBlock
set_option linter.unusedVariables false
set_option linter.unusedSimpArgs false
set_option maxHeartbeats 16000000
set_option maxRecDepth 1000000
namespace Go.Proofs.YthkklkjldpcbkaaGreatDoor
theorem mul_le2 {a b c d : Nat} (h : a <= b) (k : c <= d) : a * c <= b * d := Nat.mul_le_mul h k
section
variable {b v1 v0 u d q r : Nat}
theorem half_eq (hI : q * v1 + r = u) : u * b + d + q * v0 = q * (v1 * b + v0) + (b * r + d) := by subst hI; grind
theorem half_down (hI : q * v1 + r = u) (hv : 0 < v1 * b + v0) (hQ : (u * b + d) / (v1 * b + v0) < b) (hc : b <= q \/ b * r + d < q * v0) : (u * b + d) / (v1 * b + v0) < q := by
 rcases hc with h | h
 . omega
 .
  have e := half_eq (b := b) (v0 := v0) (d := d) hI
  rw [Nat.div_lt_iff_lt_mul hv]
  omega
theorem half_stop (hI : q * v1 + r = u) (hv : 0 < v1 * b + v0) (hc : q * v0 <= b * r + d) : q <= (u * b + d) / (v1 * b + v0) := by
 have e := half_eq (b := b) (v0 := v0) (d := d) hI
 rw [Nat.le_div_iff_mul_le hv]
 omega
theorem half_break (hq : q <= b) (hr : b <= r) (h0 : v0 <= b) : q * v0 <= b * r + d := by
 have h1 : q * v0 <= b * b := mul_le2 hq h0
 have h2 : b * b <= b * r := Nat.mul_le_mul_left _ hr
 omega
theorem half_start (hv1 : 0 < v1) (hu : u < v1 * b + v0) : (u * b + d) / (v1 * b + v0) <= u / v1 \/ b <= d := by
 by_cases hd : d < b
 .
  left
  have hv : 0 < v1 * b + v0 := by omega
  rw [Nat.le_div_iff_mul_le hv1]
  have h1 := Nat.div_mul_le_self (u * b + d) (v1 * b + v0)
  generalize (u * b + d) / (v1 * b + v0) = Q at *
  have h2 : Q * v1 * b <= Q * (v1 * b + v0) := by rw [Nat.mul_add, Nat.mul_assoc]; omega
  have h3 : Q * v1 * b < (u + 1) * b := by rw [Nat.add_mul]; omega
  have := Nat.lt_of_mul_lt_mul_right h3
  omega
 . right; omega
theorem half_lt (hd : d < b) (hu : u < v1 * b + v0) : (u * b + d) / (v1 * b + v0) < b := by
 rw [Nat.div_lt_iff_lt_mul (by omega)]
 have : (u + 1) * b <= (v1 * b + v0) * b := Nat.mul_le_mul_right _ hu
 rw [Nat.add_mul] at this
 rw [Nat.mul_comm b]
 omega
theorem half_top (hv1 : 0 < v1) (h2 : b <= 2 * v1) (h0 : v0 < b) (hu : u < v1 * b + v0) : u / v1 <= b + 1 := by
 have : u / v1 < b + 2 := by
  rw [Nat.div_lt_iff_lt_mul hv1]
  have : (b + 2) * v1 = v1 * b + 2 * v1 := by grind
  omega
 omega
end
theorem two_steps {b v A d0 : Nat} (hv : 0 < v) : (A * b + d0) / v = A / v * b + (A % v * b + d0) / v /\ (A * b + d0) % v = (A % v * b + d0) % v := by
 have h := Nat.div_add_mod A v
 have e : A * b + d0 = v * (A / v * b) + (A % v * b + d0) := by
  conv => lhs; rw [<- h]
  grind
 constructor
 . rw [e, Nat.mul_add_div hv]
 . rw [e, Nat.mul_add_mod]
theorem scale_div {x y p : Nat} (hp : 0 < p) : x * p / (y * p) = x / y := Nat.mul_div_mul_right x y hp
theorem scale_mod (x y p : Nat) : x * p % (y * p) = x % y * p := Nat.mul_mod_mul_right p x y
theorem recip_guess {B d x1 x0 V q : Nat} (hd0 : 0 < d) (hdB : d <= B) (hx1 : x1 < d) (hx0 : x0 < B) (hV1 : V * d <= B * B) (hV2 : B * B <= V * d + d) (hq : q = (V * x1 + x0) / B) :
  q * d <= x1 * B + x0 /\ x1 * B + x0 < q * d + B + d := by
 have hB : 0 < B := by omega
 have a1 : q * B <= V * x1 + x0 := by subst hq; exact Nat.div_mul_le_self _ _
 have a2 : V * x1 + x0 < q * B + B := by
  have := Nat.lt_div_mul_add (a := V * x1 + x0) hB
  rw [<- hq] at this; exact this
 obtain ⟨e, rfl⟩ : ∃ e, B = d + e := ⟨B - d, by omega⟩
 have b1 : V * d * x1 <= (d + e) * (d + e) * x1 := Nat.mul_le_mul_right _ hV1
 have b2 : (d + e) * (d + e) * x1 <= (V * d + d) * x1 := Nat.mul_le_mul_right _ hV2
 have b3 : x0 * d <= x0 * (d + e) := Nat.mul_le_mul_left _ hdB
 constructor
 .
  have c1 : q * (d + e) * d <= (V * x1 + x0) * d := Nat.mul_le_mul_right _ a1
  have c2 : (d + e) * (q * d) <= (d + e) * (x1 * (d + e) + x0) := by grind
  exact Nat.le_of_mul_le_mul_left c2 hB
 .
  have c1 : (V * x1 + x0 + 1) * d <= (q * (d + e) + (d + e)) * d := Nat.mul_le_mul_right _ a2
  have c3 : d * x1 <= d * d := Nat.mul_le_mul_left _ (Nat.le_of_lt hx1)
  have c4 : e * x0 <= e * (d + e) := Nat.mul_le_mul_left _ (Nat.le_of_lt hx0)
  have c2 : (d + e) * (x1 * (d + e) + x0) < (d + e) * (q * d + (d + e) + d) := by
   have f1 : (d + e) * (x1 * (d + e) + x0) = (d + e) * (d + e) * x1 + (d * x0 + e * x0) := by grind
   have f2 : (V * d + d) * x1 = V * d * x1 + d * x1 := by grind
   have f3 : (d + e) * (q * d + (d + e) + d) = (q * (d + e) + (d + e)) * d + (d * d + d * e + e * (d + e)) := by grind
   have f4 : (V * x1 + x0 + 1) * d = V * d * x1 + d * x0 + d := by grind
   have f5 : 0 <= d * e := Nat.zero_le _
   omega
  exact Nat.lt_of_mul_lt_mul_left c2
theorem recip_fix {B d X q r : Nat} (hd0 : 0 < d) (hdB : d <= B) (hB : B <= 2 * d) (hq : q * d <= X) (hr : r = X - q * d) (hr2 : r < B + d) :
  (B <= r -> r - d < B /\ (d <= r - d -> X / d = q + 2 /\ X % d = r - d - d) /\ (r - d < d -> X / d = q + 1 /\ X % d = r - d)) ∧
  (r < B -> (d <= r -> X / d = q + 1 /\ X % d = r - d) /\ (r < d -> X / d = q /\ X % d = r)) := by
 have key : ∀ k s, X = k * d + s -> s < d -> X / d = k /\ X % d = s := by
  rintro k s rfl hs
  constructor
  . rw [Nat.mul_comm, Nat.mul_add_div hd0, Nat.div_eq_of_lt hs, Nat.add_zero]
  . rw [Nat.mul_comm, Nat.mul_add_mod, Nat.mod_eq_of_lt hs]
 have e1 : (q + 1) * d = q * d + d := by rw [Nat.add_mul, Nat.one_mul]
 have e2 : (q + 2) * d = q * d + 2 * d := by rw [Nat.add_mul]
 refine ⟨fun h => ⟨by omega, fun h1 => key _ _ (by omega) (by omega), fun h1 => key _ _ (by omega) h1⟩, fun h => ⟨fun h1 => key _ _ (by omega) (by omega), fun h1 => key _ _ (by omega) h1⟩⟩
section
variable {B S v1 v2 vl t u2 wl q r : Nat}
theorem guess_start (hv1 : 0 < v1) (hS : 0 < S) (hu2 : u2 < B) (hwl : wl < S) : ((t * B + u2) * S + wl) / ((v1 * B + v2) * S + vl) <= t / v1 := by
 have hB : 0 < B := by omega
 have hv : 0 < (v1 * B + v2) * S + vl := by
  have : 0 < (v1 * B + v2) * S := Nat.mul_pos (by have := Nat.mul_pos hv1 hB; omega) hS
  omega
 rw [Nat.le_div_iff_mul_le hv1]
 have h1 := Nat.div_mul_le_self ((t * B + u2) * S + wl) ((v1 * B + v2) * S + vl)
 generalize ((t * B + u2) * S + wl) / ((v1 * B + v2) * S + vl) = Q at *
 have h2 : Q * v1 * (B * S) <= Q * ((v1 * B + v2) * S + vl) := by
  have : Q * v1 * (B * S) = Q * (v1 * B * S) := by grind
  rw [this]
  refine Nat.mul_le_mul_left _ ?_
  have : v1 * B * S <= (v1 * B + v2) * S := Nat.mul_le_mul_right _ (by omega)
  omega
 have h3 : (t * B + u2) * S + wl < (t + 1) * (B * S) := by
  have : (t * B + u2 + 1) * S <= (t + 1) * B * S := Nat.mul_le_mul_right _ (by rw [Nat.add_mul]; omega)
  rw [Nat.add_mul (t * B + u2) 1] at this
  rw [<- Nat.mul_assoc]; omega
 have h4 : Q * v1 * (B * S) < (t + 1) * (B * S) := by omega
 have := Nat.lt_of_mul_lt_mul_right h4
 omega
theorem guess_down (hI : q * v1 + r = t) (hv : 0 < (v1 * B + v2) * S + vl) (hwl : wl < S) (hc : r * B + u2 < q * v2) : ((t * B + u2) * S + wl) / ((v1 * B + v2) * S + vl) < q := by
 rw [Nat.div_lt_iff_lt_mul hv]
 have h1 : t * B + u2 + 1 <= q * (v1 * B + v2) := by
  subst hI
  have : (q * v1 + r) * B + u2 + q * v2 = q * (v1 * B + v2) + (r * B + u2) := by grind
  omega
 have h2 : (t * B + u2 + 1) * S <= q * (v1 * B + v2) * S := Nat.mul_le_mul_right _ h1
 rw [Nat.add_mul (t * B + u2) 1] at h2
 have h3 : q * ((v1 * B + v2) * S + vl) = q * (v1 * B + v2) * S + q * vl := by grind
 omega
theorem guess_stop (hI : q * v1 + r = t) (hv : 0 < (v1 * B + v2) * S + vl) (hvl : vl < S) (hq : q <= v1 * B + v2 + 1) (hc : q * v2 <= r * B + u2) : q <= ((t * B + u2) * S + wl) / ((v1 * B + v2) * S + vl) + 1 := by
 rcases Nat.eq_zero_or_pos q with h0 | h0
 . rw [h0]; exact Nat.zero_le _
 obtain ⟨p, rfl⟩ : ∃ p, q = p + 1 := ⟨q - 1, by omega⟩
 suffices h : p <= ((t * B + u2) * S + wl) / ((v1 * B + v2) * S + vl) by omega
 rw [Nat.le_div_iff_mul_le hv]
 have h1 : (p + 1) * (v1 * B + v2) <= t * B + u2 := by
  subst hI
  have : ((p + 1) * v1 + r) * B + u2 + (p + 1) * v2 = (p + 1) * (v1 * B + v2) + (r * B + u2) := by grind
  omega
 generalize v1 * B + v2 = V at *
 generalize t * B + u2 = W at *
 have h2 : p * (V * S + vl) <= p * ((V + 1) * S) := Nat.mul_le_mul_left _ (by rw [Nat.add_mul, Nat.one_mul]; omega)
 have h3 : p * ((V + 1) * S) <= W * S := by
  rw [<- Nat.mul_assoc]
  refine Nat.mul_le_mul_right _ ?_
  rw [Nat.add_mul] at h1
  rw [Nat.mul_add]; omega
 omega
theorem guess_top {u1 : Nat} (h2 : B <= 2 * v1) (hv2 : v2 < B) (hvl : vl < S) (hB : 2 <= B) : B - 2 <= (((v1 * B + u1) * B + u2) * S + wl) / ((v1 * B + v2) * S + vl) := by
 have hv : 0 < (v1 * B + v2) * S + vl := by
  have : 0 < (v1 * B + v2) * S := Nat.mul_pos (by have := Nat.mul_pos (show 0 < v1 by omega) (show 0 < B by omega); omega) (by omega)
  omega
 rw [Nat.le_div_iff_mul_le hv]
 obtain ⟨C, rfl⟩ : ∃ C, B = C + 2 := ⟨B - 2, by omega⟩
 rw [show C + 2 - 2 = C by omega]
 have h3 : (v1 * (C + 2) + v2) * S + vl <= (v1 + 1) * ((C + 2) * S) := by
  have : (v1 * (C + 2) + v2 + 1) * S <= (v1 + 1) * (C + 2) * S := Nat.mul_le_mul_right _ (by rw [Nat.add_mul v1 1]; omega)
  rw [Nat.add_mul (v1 * (C + 2) + v2) 1] at this
  rw [<- Nat.mul_assoc]; omega
 have h4 : C * ((v1 * (C + 2) + v2) * S + vl) <= C * ((v1 + 1) * ((C + 2) * S)) := Nat.mul_le_mul_left _ h3
 have h5 : C * ((v1 + 1) * ((C + 2) * S)) <= v1 * (C + 2) * ((C + 2) * S) := by
  have : C * (v1 + 1) <= v1 * (C + 2) := by rw [Nat.mul_add, Nat.mul_add, Nat.mul_comm C v1]; omega
  rw [<- Nat.mul_assoc]; exact Nat.mul_le_mul_right _ this
 have h6 : v1 * (C + 2) * ((C + 2) * S) <= ((v1 * (C + 2) + u1) * (C + 2) + u2) * S := by
  have : v1 * (C + 2) * ((C + 2) * S) = v1 * (C + 2) * (C + 2) * S := by grind
  rw [this]
  refine Nat.mul_le_mul_right _ ?_
  have : v1 * (C + 2) * (C + 2) <= (v1 * (C + 2) + u1) * (C + 2) := Nat.mul_le_mul_right _ (by omega)
  omega
 omega
end
theorem digit_fix {W v q : Nat} (hv : 0 < v) (h1 : W / v <= q) (h2 : q <= W / v + 1) : (q * v <= W -> W / v = q /\ W % v = W - q * v) /\ (W < q * v -> W / v = q - 1 /\ 0 < q /\ W % v = W + v - q * v) := by
 have h := Nat.div_add_mod W v
 have hm := Nat.mod_lt W hv
 have hle := @Nat.le_div_iff_mul_le v q W hv
 have hlt := @Nat.div_lt_iff_lt_mul v W q hv
 generalize W / v = k at *
 generalize W % v = m at *
 constructor
 .
  intro hc
  have : k = q := by have := hle.2 hc; omega
  subst this
  rw [Nat.mul_comm] at h
  exact ⟨rfl, by omega⟩
 .
  intro hc
  have hq : q = k + 1 := by have := hlt.2 hc; omega
  subst hq
  have : (k + 1) * v = k * v + v := by rw [Nat.add_mul, Nat.one_mul]
  rw [Nat.mul_comm] at h
  exact ⟨by omega, by omega, by omega⟩
open Go.RowKit
def nlzN (x : Nat) : Nat := 64 - Lib.bitLen x
theorem nlz_spec {x : Nat} (h0 : x ≠ 0) (hx : x < B64) : nlzN x < 64 /\ 9223372036854775808 <= x * 2 ^ nlzN x /\ x * 2 ^ nlzN x < B64 := by
 have h := Lib.bitLenAux_bounds 64 x hx h0
 have hL : Lib.bitLen x = Lib.bitLenAux 64 x := rfl
 have hle : Lib.bitLen x <= 64 := by
  rcases Nat.lt_or_ge 64 (Lib.bitLen x) with h1 | h1
  .
   exfalso
   have : 2 ^ 64 <= 2 ^ (Lib.bitLen x - 1) := Nat.pow_le_pow_right (by omega) (by omega)
   have h2 := h.2.1
   rw [<- hL] at h2
   have h3 : x < 2 ^ 64 := hx
   omega
  . exact h1
 rw [<- hL] at h
 unfold nlzN
 generalize Lib.bitLen x = L at *
 obtain ⟨m, rfl⟩ : ∃ m, L = m + 1 := ⟨L - 1, by omega⟩
 have e1 : 2 ^ m * 2 ^ (64 - (m + 1)) = 9223372036854775808 := by rw [<- Nat.pow_add, show m + (64 - (m + 1)) = 63 by omega]
 have e2 : 2 ^ (m + 1) * 2 ^ (64 - (m + 1)) = B64 := by rw [<- Nat.pow_add, show m + 1 + (64 - (m + 1)) = 64 by omega]; rfl
 refine ⟨by omega, ?_, ?_⟩
 . rw [<- e1]; exact Nat.mul_le_mul_right _ h.2.1
 . rw [<- e2]; exact (Nat.mul_lt_mul_right (Nat.two_pow_pos _)).2 h.2.2
theorem LeadingZeros_any (x : Nat) (w : World) (hx : x < B64) :
  Calls Tryz.prog 121 #[.int .u64 (x : Int)] w fun e w' => e = .returned (.int .i64 ((nlzN x : Nat) : Int)) /\ w' = w := by
 have hx' : x < 18446744073709551616 := hx
 refine (Any.bits_LeadingZeros Tryz.lays130 (x : Int) w (by omega) (by omega)).mono (fun e w' ⟨h1, h2⟩ => ⟨?_, h2⟩)
 rw [h1]
 have l := Any.bitLen_leU (x : Int) (by omega) (by omega)
 rw [Int.toNat_natCast] at l ⊢
 unfold nlzN
 congr 2
 omega
theorem LeadingZeros64_any (x : Nat) (w : World) (hx : x < B64) :
  Calls Tryz.prog 141 #[.int .u64 (x : Int)] w fun e w' => e = .returned (.int .i64 ((nlzN x : Nat) : Int)) /\ w' = w := by
 have hx' : x < 18446744073709551616 := hx
 refine (Any.bits_LeadingZeros64 Tryz.lays134 (x : Int) w (by omega) (by omega)).mono (fun e w' ⟨h1, h2⟩ => ⟨?_, h2⟩)
 rw [h1]
 have l := Any.bitLen_leU (x : Int) (by omega) (by omega)
 rw [Int.toNat_natCast] at l ⊢
 unfold nlzN
 congr 2
 omega
theorem nlz_any (x : Nat) (w : World) (hx : x < B64) :
  Calls Tryz.prog 100 #[.int .u64 (x : Int)] w fun e w' => e = .returned (.int .u64 ((nlzN x : Nat) : Int)) /\ w' = w := by
 have HL := Qq (LeadingZeros_any x w hx)
 have e : IntKind.u64.wrap ((nlzN x : Nat) : Int) = ((nlzN x : Nat) : Int) := by rw [IntKind.wrap_u64]; unfold nlzN; omega
 generalize nlzN x = s at *
 clear hx
 go_enter Tryz.func100, Tryz.ntmps100
 go_wp2_with fail
 refine HL.out.mono ?_
 rintro e w' ⟨rfl, hw⟩
 cases hw.symm
 go_wp2_with fail
 go_ret
 exact ⟨rfl, rfl⟩
theorem zzDiv_zero (lo y : Nat) (w : World) (hy0 : 0 < y) (hlo : lo < B64) :
  Calls Tryz.prog 123 #[.int .u64 0, .int .u64 (lo : Int), .int .u64 (y : Int)] w fun e w' => e = .returned (.tuple #[.int .u64 ((lo / y : Nat) : Int), .int .u64 ((lo % y : Nat) : Int)]) /\ Drew w w' := by
 have hl : lo < 18446744073709551616 := hlo
 have q1 : ((y : Int) == 0) = false := beq_eq_false_iff_ne.2 (by omega)
 have q2 : ¬ (y : Int) <= 0 := by omega
 have q3 : decide ((y : Int) <= 0) = false := decide_eq_false q2
 have q4 : ¬ (y : Int) = 0 := by omega
 have q5 : ((0 : Int) == 0) = true := rfl
 have q6 : ¬ y = 0 := by omega
 go_enter Tryz.func123, Tryz.ntmps123
 go_wp2_with fail
 go_quiet (fail)
 go_wp2_with fail
 go_ret2
 have r1 : IntKind.u64.wrap ((lo : Int) / (y : Int)) = ((lo / y : Nat) : Int) := by rw [show ((lo : Int) / (y : Int)) = ((lo / y : Nat) : Int) by simp]; exact wrapN _ (Nat.lt_of_le_of_lt (Nat.div_le_self _ _) hl)
 have r2 : (lo : Int) % (y : Int) = ((lo % y : Nat) : Int) := by simp
 exact ⟨by rw [r1, r2]; rfl, by repeat (first | exact ⟨_, rfl⟩ | refine Drew.step ?_ _)⟩
theorem half_rest {U d q Y R : Nat} (hY : 0 < Y) (hYb : Y < 18446744073709551616) (hq : q = (U * 4294967296 + d) / Y) (hR : R = (U * 4294967296 + d) % Y) :
  ∃ x1 x2 x3 : Nat, IntKind.u64.wrap ((U : Int) * 4294967296) = (x1 : Int) /\ IntKind.u64.wrap ((x1 : Int) + (d : Int)) = (x2 : Int) /\ IntKind.u64.wrap ((q : Int) * (Y : Int)) = (x3 : Int) /\ IntKind.u64.wrap ((x2 : Int) - (x3 : Int)) = (R : Int) := by
 have h := Nat.div_add_mod (U * 4294967296 + d) Y
 have hlt := Nat.mod_lt (U * 4294967296 + d) hY
 rw [<- hq, <- hR, Nat.mul_comm] at h
 rw [<- hR] at hlt
 refine ⟨U * 4294967296 % 18446744073709551616, (U * 4294967296 % 18446744073709551616 + d) % 18446744073709551616, q * Y % 18446744073709551616, ?_, ?_, ?_, ?_⟩
 . rw [IntKind.wrap_u64]; omega
 . rw [IntKind.wrap_u64]; omega
 . rw [mulN, wrapM]
 .
  generalize q * Y = M at *
  rw [IntKind.wrap_u64]; omega
theorem zzDiv_pos (hi lo y s t Y v1 v0 H l1 U L L1 L0 Q1 Q0 R1 Q9 R9 : Nat) (w : World) (h0 : 0 < hi) (hhi : hi < y) (hy : y < B64) (hs : nlzN y = s)
  (f0 : IntKind.u64.wrap (s : Int) = (s : Int))
  (f1 : IntKind.u64.wrap ((y : Int) * 2 ^ min s 64) = (Y : Int)) (f2 : (Y : Int) / 4294967296 = (v1 : Int)) (f3 : bits .and .u64 (Y : Int) 4294967295 = (v0 : Int))
  (f4 : IntKind.u64.wrap ((hi : Int) * 2 ^ min s 64) = (H : Int)) (f5 : IntKind.u64.wrap (64 - (s : Int)) = (t : Int)) (f6 : (lo : Int) / 2 ^ min t 64 = (l1 : Int)) (f7 : bits .or .u64 (H : Int) (l1 : Int) = (U : Int))
  (f8 : IntKind.u64.wrap ((lo : Int) * 2 ^ min s 64) = (L : Int)) (f9 : (L : Int) / 4294967296 = (L1 : Int)) (f10 : bits .and .u64 (L : Int) 4294967295 = (L0 : Int))
  (HV : Hid (0 < v1 * 4294967296 + v0 /\ 0 < v1 /\ 4294967296 <= 2 * v1 /\ v1 < 4294967296 /\ v0 < 4294967296 /\ Y = v1 * 4294967296 + v0)) (HU : Hid (U < Y /\ L1 < 4294967296 /\ L0 < 4294967296)) (hQ1 : Q1 = (U * 4294967296 + L1) / Y) (hR1 : R1 = (U * 4294967296 + L1) % Y) (hQ0 : Q0 = (R1 * 4294967296 + L0) / Y) (hs64 : s <= 64) (hQ9 : Q9 = Q1 * 4294967296 + Q0) (hR9 : R9 = (R1 * 4294967296 + L0) % Y / 2 ^ s) :
  Calls Tryz.prog 123 #[.int .u64 (hi : Int), .int .u64 (lo : Int), .int .u64 (y : Int)] w fun e w' => e = .returned (.tuple #[.int .u64 (Q9 : Int), .int .u64 (R9 : Int)]) /\ w' = w := by
 have HZ := Qq (LeadingZeros64_any y w hy)
 rw [hs] at HZ
 have q1 : ((y : Int) == 0) = false := beq_eq_false_iff_ne.2 (by omega)
 have q2 : ¬ (y : Int) <= (hi : Int) := by omega
 have q3 : decide (y <= hi) = false := decide_eq_false (by omega)
 have q4 : ((hi : Int) == 0) = false := beq_eq_false_iff_ne.2 (by omega)
 have q5 : ¬ (v1 : Int) = 0 := by have := HV.out.2.1; omega
 have q6 : ¬ v1 = 0 := by have := HV.out.2.1; omega
 -- the first guess
 have hYb : Y < 18446744073709551616 := by have := HV.out.2.2.2.1; have := HV.out.2.2.2.2.1; have := HV.out.2.2.2.2.2; omega
 have guess : ∀ u : Nat, u < Y -> ∃ q0 r0 : Nat, u / v1 = q0 /\ u % v1 = r0 /\ IntKind.u64.wrap ((u : Int) / (v1 : Int)) = (q0 : Int) /\ IntKind.u64.wrap ((q0 : Int) * (v1 : Int)) = ((q0 * v1 : Nat) : Int) /\ IntKind.u64.wrap ((u : Int) - ((q0 * v1 : Nat) : Int)) = (r0 : Int) := fun u hu => by
  refine ⟨u / v1, u % v1, rfl, rfl, ?_, ?_, ?_⟩
  .
   rw [show ((u : Int) / (v1 : Int)) = ((u / v1 : Nat) : Int) by simp]
   exact wrapN _ (Nat.lt_of_le_of_lt (Nat.div_le_self _ _) (by omega))
  .
   rw [mulN]
   exact wrapN _ (Nat.lt_of_le_of_lt (Nat.div_mul_le_self u v1) (by omega))
  .
   have h := Nat.div_add_mod u v1
   rw [Nat.mul_comm] at h
   generalize u / v1 * v1 = m at *
   rw [IntKind.wrap_u64]; omega
 have hY := HV.out.2.2.2.2.2
 have hR1lt : R1 < Y := by rw [hR1]; exact Nat.mod_lt _ (by omega)
 have mk : ∀ u d q : Nat, u < Y -> d < 4294967296 -> q = (u * 4294967296 + d) / Y -> Hid (d < 4294967296 /\ q = (u * 4294967296 + d) / (v1 * 4294967296 + v0) /\ q <= u / v1 /\ u / v1 <= 4294967297 /\ (u * 4294967296 + d) / (v1 * 4294967296 + v0) < 4294967296) := fun u d q hu hd hq => by
  rw [hY] at hu hq
  refine ⟨hd, hq, ?_, half_top HV.out.2.1 HV.out.2.2.1 HV.out.2.2.2.2.1 hu, half_lt hd hu⟩
  rcases half_start (d := d) HV.out.2.1 hu with h | h
  . omega
  . omega
 have HA := mk U L1 Q1 HU.out.1 HU.out.2.1 hQ1
 have HB := mk R1 L0 Q0 hR1lt HU.out.2.2 hQ0
 have HG := Qq (Qj hY (Qj hQ1 (Qj hR1 (Qj hR1lt (Qj hQ0 (Qj hYb (Qj hs64 (Qj hQ9 hR9))))))))
 obtain ⟨a0, b0, ga, gb, g1, g2, g3⟩ := guess U HU.out.1
 obtain ⟨a1, b1, gc, gd, g4, g5, g6⟩ := guess R1 hR1lt
 obtain ⟨m0, hm0⟩ : ∃ m0, a0 * v1 = m0 := ⟨_, rfl⟩
 obtain ⟨m1, hm1⟩ : ∃ m1, a1 * v1 = m1 := ⟨_, rfl⟩
 rw [hm0] at g2 g3
 rw [hm1] at g5 g6
 have HGG := Qq (Qj ga (Qj gb (Qj gc gd)))
 clear guess mk hY hR1lt hQ1 hR1 hQ0 hQ9 hR9 hs64 h0 hhi hy hYb hs ga gb gc gd hm0 hm1
 go_enter Tryz.func123, Tryz.ntmps123
 go_upto_block 0 with fail
 refine HZ.out.mono ?_
 rintro e w' ⟨rfl, hw⟩
 cases hw.symm
 go_upto_block 0 with fail
 go_cut [15, 16] from 19 to 134 (fun s15 s16 wx => s15 = .int .u64 (Q1 : Int) /\ (∃ r : Nat, s16 = .int .u64 (r : Int)) /\ wx = w)
 case first =>
  go_wp2_with fail
  go_loop [15, 16] (fun a c => ∃ q r : Nat, a = .int .u64 (q : Int) /\ c = .int .u64 (r : Int) /\ Hid (q * v1 + r = U /\ Q1 <= q /\ q <= 4294967297 /\ r < 4294967296)) (fun a _ => (intOf a).toNat)
  case atStart => exact ⟨a0, b0, rfl, rfl, by rw [<- HGG.out.1, <- HGG.out.2.1, Nat.mul_comm]; exact Nat.div_add_mod _ _, by rw [<- HGG.out.1]; exact HA.out.2.2.1, by rw [<- HGG.out.1]; exact HA.out.2.2.2.1, by have := Nat.mod_lt U (show 0 < v1 from HV.out.2.1); have := HV.out.2.2.2.1; rw [<- HGG.out.2.1]; omega⟩
  case round =>
   obtain ⟨q, r, rfl, rfl, HI⟩ := hrel
   have hstep : 4294967296 <= q \/ 4294967296 * r + L1 < q * v0 -> q - 1 + 1 = q /\ (q - 1) * v1 + (r + v1) = U /\ Q1 <= q - 1 := fun h => by
    have h1 := half_down (d := L1) HI.out.1 HV.out.1 HA.out.2.2.2.2 h
    rw [<- HA.out.2.1] at h1
    refine ⟨by omega, ?_, by omega⟩
    have h2 := HI.out.1
    obtain ⟨p, rfl⟩ : ∃ p, q = p + 1 := ⟨q - 1, by omega⟩
    rw [Nat.add_sub_cancel]
    rw [Nat.add_mul, Nat.one_mul] at h2
    omega
   have hend : q * v0 <= 4294967296 * r + L1 -> q = Q1 := fun h => by
    have h1 := half_stop (d := L1) HI.out.1 HV.out.1 h
    rw [<- HA.out.2.1] at h1
    have := HI.out.2.1
    omega
   have hbrk : q <= 4294967296 -> 4294967296 <= r -> q * v0 <= 4294967296 * r + L1 := fun h1 h2 => half_break h1 h2 (by have := HV.out.2.2.2.2.1; omega)
   have hq2 := HI.out.2.2.1
   have hr2 := HI.out.2.2.2
   have HS := Qq hstep
   have HE := Qq hend
   have hD := HA.out.1
   have hv1 := HV.out.2.2.2.1
   clear hstep hend hbrk
   by_cases hbig : 4294967296 <= q
   .
    have q1 : (4294967296 : Int) <= (q : Int) := by omega
    have q2 : decide (4294967296 <= q) = true := decide_eq_true hbig
    have st := HS.out (Or.inl hbig)
    have q4 : IntKind.u64.wrap ((q : Int) - 1) = ((q - 1 : Nat) : Int) := by rw [IntKind.wrap_u64]; omega
    have q9 : IntKind.u64.wrap ((r : Int) + (v1 : Int)) = ((r + v1 : Nat) : Int) := by rw [IntKind.wrap_u64]; omega
    obtain ⟨q', hq'⟩ : ∃ q', q - 1 = q' := ⟨_, rfl⟩
    obtain ⟨r', hr'⟩ : ∃ r', r + v1 = r' := ⟨_, rfl⟩
    rw [hq'] at q4 st
    rw [hr'] at q9 st
    have HST := Qq (Qj st (Qj hq' (Qj hr' (Qj hq2 hr2))))
    clear hq' hr' st hq2 hr2 HS HE
    by_cases hbr : 4294967296 <= r'
    .
     have q10 : (4294967296 : Int) <= (r' : Int) := by omega
     have q11 : decide (4294967296 <= r') = true := decide_eq_true hbr
     go_wp2_with fail
     go_meet
     case rel =>
      have h1 := half_stop (d := L1) HST.out.1.2.1 HV.out.1 (half_break (by have := HST.out.2.1; have := HST.out.2.2.2.1; omega) hbr (by have := HV.out.2.2.2.2.1; omega))
      rw [<- HA.out.2.1] at h1
      have h2 := HST.out.1.2.2
      exact ⟨by rw [show q' = Q1 by omega], ⟨_, rfl⟩, rfl⟩
    .
     have q10 : ¬ (4294967296 : Int) <= (r' : Int) := by omega
     have q11 : decide (4294967296 <= r') = false := decide_eq_false hbr
     go_wp2_with fail
     go_round
     case rel => exact ⟨q', r', rfl, rfl, HST.out.1.2.1, HST.out.1.2.2, by have := HST.out.2.1; have := HST.out.2.2.2.1; omega, by omega⟩
     case measure => simp [intOf]; have := HST.out.1.1; have := HST.out.2.1; omega
   .
    have q1 : ¬ (4294967296 : Int) <= (q : Int) := by omega
    have q2 : decide (4294967296 <= q) = false := decide_eq_false hbig
    have hm1 : q * v0 <= 4294967295 * 4294967295 := Nat.mul_le_mul (by omega) (by have := HV.out.2.2.2.2.1; omega)
    have e1 : (q : Int) * (v0 : Int) = ((q * v0 : Nat) : Int) := by push_cast; rfl
    have q3 : IntKind.u64.wrap ((q : Int) * (v0 : Int)) = ((q * v0 : Nat) : Int) := by rw [e1, IntKind.wrap_u64]; omega
    have q5 : IntKind.u64.wrap (4294967296 * (r : Int)) = ((4294967296 * r : Nat) : Int) := by rw [IntKind.wrap_u64]; omega
    have q6 : IntKind.u64.wrap (((4294967296 * r : Nat) : Int) + (L1 : Int)) = ((4294967296 * r + L1 : Nat) : Int) := by rw [IntKind.wrap_u64]; omega
    obtain ⟨m, hm⟩ : ∃ m, q * v0 = m := ⟨_, rfl⟩
    obtain ⟨n, hn⟩ : ∃ n, 4294967296 * r + L1 = n := ⟨_, rfl⟩
    obtain ⟨n', hn'⟩ : ∃ n', 4294967296 * r = n' := ⟨_, rfl⟩
    rw [hm] at q3
    rw [hn'] at q5 q6
    rw [<- hn', hn] at q6
    rw [hn'] at q6
    by_cases hgt : n < m
    .
     have q7 : (n : Int) < (m : Int) := by omega
     have q8 : decide (n < m) = true := decide_eq_true hgt
     have st := HS.out (Or.inr (by rw [hn, hm]; exact hgt))
     have q4 : IntKind.u64.wrap ((q : Int) - 1) = ((q - 1 : Nat) : Int) := by rw [IntKind.wrap_u64]; omega
     clear hm hn hn' e1 hm1
     have q9 : IntKind.u64.wrap ((r : Int) + (v1 : Int)) = ((r + v1 : Nat) : Int) := by rw [IntKind.wrap_u64]; omega
     obtain ⟨q', hq'⟩ : ∃ q', q - 1 = q' := ⟨_, rfl⟩
     obtain ⟨r', hr'⟩ : ∃ r', r + v1 = r' := ⟨_, rfl⟩
     rw [hq'] at q4 st
     rw [hr'] at q9 st
     have HST := Qq (Qj st (Qj hq' (Qj hr' (Qj hq2 hr2))))
     clear hq' hr' st hq2 hr2 HS HE
     by_cases hbr : 4294967296 <= r'
     .
      have q10 : (4294967296 : Int) <= (r' : Int) := by omega
      have q11 : decide (4294967296 <= r') = true := decide_eq_true hbr
      go_wp2_with fail
      go_meet
      case rel =>
       have h1 := half_stop (d := L1) HST.out.1.2.1 HV.out.1 (half_break (by have := HST.out.2.1; have := HST.out.2.2.2.1; omega) hbr (by have := HV.out.2.2.2.2.1; omega))
       rw [<- HA.out.2.1] at h1
       have h2 := HST.out.1.2.2
       exact ⟨by rw [show q' = Q1 by omega], ⟨_, rfl⟩, rfl⟩
     .
      have q10 : ¬ (4294967296 : Int) <= (r' : Int) := by omega
      have q11 : decide (4294967296 <= r') = false := decide_eq_false hbr
      go_wp2_with fail
      go_round
      case rel => exact ⟨q', r', rfl, rfl, HST.out.1.2.1, HST.out.1.2.2, by have := HST.out.2.1; have := HST.out.2.2.2.1; omega, by omega⟩
      case measure => simp [intOf]; have := HST.out.1.1; have := HST.out.2.1; omega
    .
     have q7 : ¬ (n : Int) < (m : Int) := by omega
     have q8 : decide (n < m) = false := decide_eq_false hgt
     have hf := Qq (HE.out (by rw [hn, hm]; omega))
     clear hm hn hn' e1 hm1 HS HE
     go_wp2_with fail
     go_meet
     case rel => exact ⟨by rw [hf.out], ⟨_, rfl⟩, rfl⟩
 case rest =>
  obtain ⟨rfl, ⟨r9, rfl⟩, rfl⟩ := hcut
  have hY0 : 0 < Y := by have := HV.out.1; have := HV.out.2.2.2.2.2; omega
  obtain ⟨x1, x2, x3, j1, j2, j3, j4⟩ := half_rest hY0 HG.out.2.2.2.2.2.1 HG.out.2.1 HG.out.2.2.1
  clear g1 g2 g3
  go_upto_block 2 with fail
  clear j1 j2 j3 j4
  go_cut [18, 16] from 19 to 134 (fun s18 s16 wx => s18 = .int .u64 (Q0 : Int) /\ (∃ r : Nat, s16 = .int .u64 (r : Int)) /\ wx = wc)
  case first =>
   go_wp2_with fail
   go_loop [18, 16] (fun a c => ∃ q r : Nat, a = .int .u64 (q : Int) /\ c = .int .u64 (r : Int) /\ Hid (q * v1 + r = R1 /\ Q0 <= q /\ q <= 4294967297 /\ r < 4294967296)) (fun a _ => (intOf a).toNat)
   case atStart => exact ⟨a1, b1, rfl, rfl, by rw [<- HGG.out.2.2.1, <- HGG.out.2.2.2, Nat.mul_comm]; exact Nat.div_add_mod _ _, by rw [<- HGG.out.2.2.1]; exact HB.out.2.2.1, by rw [<- HGG.out.2.2.1]; exact HB.out.2.2.2.1, by have := Nat.mod_lt R1 (show 0 < v1 from HV.out.2.1); have := HV.out.2.2.2.1; rw [<- HGG.out.2.2.2]; omega⟩
   case round =>
    obtain ⟨q, r, rfl, rfl, HI⟩ := hrel
    have hstep : 4294967296 <= q \/ 4294967296 * r + L0 < q * v0 -> q - 1 + 1 = q /\ (q - 1) * v1 + (r + v1) = R1 /\ Q0 <= q - 1 := fun h => by
     have h1 := half_down (d := L0) HI.out.1 HV.out.1 HB.out.2.2.2.2 h
     rw [<- HB.out.2.1] at h1
     refine ⟨by omega, ?_, by omega⟩
     have h2 := HI.out.1
     obtain ⟨p, rfl⟩ : ∃ p, q = p + 1 := ⟨q - 1, by omega⟩
     rw [Nat.add_sub_cancel]
     rw [Nat.add_mul, Nat.one_mul] at h2
     omega
    have hend : q * v0 <= 4294967296 * r + L0 -> q = Q0 := fun h => by
     have h1 := half_stop (d := L0) HI.out.1 HV.out.1 h
     rw [<- HB.out.2.1] at h1
     have := HI.out.2.1
     omega
    have hbrk : q <= 4294967296 -> 4294967296 <= r -> q * v0 <= 4294967296 * r + L0 := fun h1 h2 => half_break h1 h2 (by have := HV.out.2.2.2.2.1; omega)
    have hq2 := HI.out.2.2.1
    have hr2 := HI.out.2.2.2
    have HS := Qq hstep
    have HE := Qq hend
    have hD := HB.out.1
    have hv1 := HV.out.2.2.2.1
    clear hstep hend hbrk
    by_cases hbig : 4294967296 <= q
    .
     have q1 : (4294967296 : Int) <= (q : Int) := by omega
     have q2 : decide (4294967296 <= q) = true := decide_eq_true hbig
     have st := HS.out (Or.inl hbig)
     have q4 : IntKind.u64.wrap ((q : Int) - 1) = ((q - 1 : Nat) : Int) := by rw [IntKind.wrap_u64]; omega
     have q9 : IntKind.u64.wrap ((r : Int) + (v1 : Int)) = ((r + v1 : Nat) : Int) := by rw [IntKind.wrap_u64]; omega
     obtain ⟨q', hq'⟩ : ∃ q', q - 1 = q' := ⟨_, rfl⟩
     obtain ⟨r', hr'⟩ : ∃ r', r + v1 = r' := ⟨_, rfl⟩
     rw [hq'] at q4 st
     rw [hr'] at q9 st
     have HST := Qq (Qj st (Qj hq' (Qj hr' (Qj hq2 hr2))))
     clear hq' hr' st hq2 hr2 HS HE
     by_cases hbr : 4294967296 <= r'
     .
      have q10 : (4294967296 : Int) <= (r' : Int) := by omega
      have q11 : decide (4294967296 <= r') = true := decide_eq_true hbr
      go_wp2_with fail
      go_meet
      case rel =>
       have h1 := half_stop (d := L0) HST.out.1.2.1 HV.out.1 (half_break (by have := HST.out.2.1; have := HST.out.2.2.2.1; omega) hbr (by have := HV.out.2.2.2.2.1; omega))
       rw [<- HB.out.2.1] at h1
       have h2 := HST.out.1.2.2
       exact ⟨by rw [show q' = Q0 by omega], ⟨_, rfl⟩, rfl⟩
     .
      have q10 : ¬ (4294967296 : Int) <= (r' : Int) := by omega
      have q11 : decide (4294967296 <= r') = false := decide_eq_false hbr
      go_wp2_with fail
      go_round
      case rel => exact ⟨q', r', rfl, rfl, HST.out.1.2.1, HST.out.1.2.2, by have := HST.out.2.1; have := HST.out.2.2.2.1; omega, by omega⟩
      case measure => simp [intOf]; have := HST.out.1.1; have := HST.out.2.1; omega
    .
     have q1 : ¬ (4294967296 : Int) <= (q : Int) := by omega
     have q2 : decide (4294967296 <= q) = false := decide_eq_false hbig
     have hm1 : q * v0 <= 4294967295 * 4294967295 := Nat.mul_le_mul (by omega) (by have := HV.out.2.2.2.2.1; omega)
     have e1 : (q : Int) * (v0 : Int) = ((q * v0 : Nat) : Int) := by push_cast; rfl
     have q3 : IntKind.u64.wrap ((q : Int) * (v0 : Int)) = ((q * v0 : Nat) : Int) := by rw [e1, IntKind.wrap_u64]; omega
     have q5 : IntKind.u64.wrap (4294967296 * (r : Int)) = ((4294967296 * r : Nat) : Int) := by rw [IntKind.wrap_u64]; omega
     have q6 : IntKind.u64.wrap (((4294967296 * r : Nat) : Int) + (L0 : Int)) = ((4294967296 * r + L0 : Nat) : Int) := by rw [IntKind.wrap_u64]; omega
     obtain ⟨m, hm⟩ : ∃ m, q * v0 = m := ⟨_, rfl⟩
     obtain ⟨n, hn⟩ : ∃ n, 4294967296 * r + L0 = n := ⟨_, rfl⟩
     obtain ⟨n', hn'⟩ : ∃ n', 4294967296 * r = n' := ⟨_, rfl⟩
     rw [hm] at q3
     rw [hn'] at q5 q6
     rw [<- hn', hn] at q6
     rw [hn'] at q6
     by_cases hgt : n < m
     .
      have q7 : (n : Int) < (m : Int) := by omega
      have q8 : decide (n < m) = true := decide_eq_true hgt
      have st := HS.out (Or.inr (by rw [hn, hm]; exact hgt))
      have q4 : IntKind.u64.wrap ((q : Int) - 1) = ((q - 1 : Nat) : Int) := by rw [IntKind.wrap_u64]; omega
      clear hm hn hn' e1 hm1
      have q9 : IntKind.u64.wrap ((r : Int) + (v1 : Int)) = ((r + v1 : Nat) : Int) := by rw [IntKind.wrap_u64]; omega
      obtain ⟨q', hq'⟩ : ∃ q', q - 1 = q' := ⟨_, rfl⟩
      obtain ⟨r', hr'⟩ : ∃ r', r + v1 = r' := ⟨_, rfl⟩
      rw [hq'] at q4 st
      rw [hr'] at q9 st
      have HST := Qq (Qj st (Qj hq' (Qj hr' (Qj hq2 hr2))))
      clear hq' hr' st hq2 hr2 HS HE
      by_cases hbr : 4294967296 <= r'
      .
       have q10 : (4294967296 : Int) <= (r' : Int) := by omega
       have q11 : decide (4294967296 <= r') = true := decide_eq_true hbr
       go_wp2_with fail
       go_meet
       case rel =>
        have h1 := half_stop (d := L0) HST.out.1.2.1 HV.out.1 (half_break (by have := HST.out.2.1; have := HST.out.2.2.2.1; omega) hbr (by have := HV.out.2.2.2.2.1; omega))
        rw [<- HB.out.2.1] at h1
        have h2 := HST.out.1.2.2
        exact ⟨by rw [show q' = Q0 by omega], ⟨_, rfl⟩, rfl⟩
      .
       have q10 : ¬ (4294967296 : Int) <= (r' : Int) := by omega
       have q11 : decide (4294967296 <= r') = false := decide_eq_false hbr
       go_wp2_with fail
       go_round
       case rel => exact ⟨q', r', rfl, rfl, HST.out.1.2.1, HST.out.1.2.2, by have := HST.out.2.1; have := HST.out.2.2.2.1; omega, by omega⟩
       case measure => simp [intOf]; have := HST.out.1.1; have := HST.out.2.1; omega
     .
      have q7 : ¬ (n : Int) < (m : Int) := by omega
      have q8 : decide (n < m) = false := decide_eq_false hgt
      have hf := Qq (HE.out (by rw [hn, hm]; omega))
      clear hm hn hn' e1 hm1 HS HE
      go_wp2_with fail
      go_meet
      case rel => exact ⟨by rw [hf.out], ⟨_, rfl⟩, rfl⟩
  case rest =>
   obtain ⟨rfl, ⟨r8, rfl⟩, rfl⟩ := hcut
   obtain ⟨y1, y2, y3, k1, k2, k3, k4⟩ := half_rest (R := (R1 * 4294967296 + L0) % Y) hY0 HG.out.2.2.2.2.2.1 HG.out.2.2.2.2.1 rfl
   have k5 : ((((R1 * 4294967296 + L0) % Y : Nat) : Int)) / 2 ^ min s 64 = (R9 : Int) := by rw [shrW_form s HG.out.2.2.2.2.2.2.1, HG.out.2.2.2.2.2.2.2.2]; rfl
   obtain ⟨R0, hR0⟩ : ∃ R0, (R1 * 4294967296 + L0) % Y = R0 := ⟨_, rfl⟩
   rw [hR0] at k4 k5
   have hq1 : Q1 < 4294967296 := by rw [HA.out.2.1]; exact HA.out.2.2.2.2
   have hq0 : Q0 < 4294967296 := by rw [HB.out.2.1]; exact HB.out.2.2.2.2
   have k6 : IntKind.u64.wrap ((Q1 : Int) * 4294967296) = (Q1 : Int) * 4294967296 := by rw [IntKind.wrap_u64]; omega
   have k7 : IntKind.u64.wrap ((Q1 : Int) * 4294967296 + (Q0 : Int)) = (Q9 : Int) := by rw [IntKind.wrap_u64, HG.out.2.2.2.2.2.2.2.1]; omega
   clear hY0 hR0 g4 g5 g6
   go_wp2_with fail
   go_ret2
   exact ⟨rfl, rfl⟩
theorem zzDiv_any (hi lo y : Nat) (w : World) (hhi : hi < y) (hy : y < B64) (hlo : lo < B64) :
  Calls Tryz.prog 123 #[.int .u64 (hi : Int), .int .u64 (lo : Int), .int .u64 (y : Int)] w fun e w' => e = .returned (.tuple #[.int .u64 (((hi * B64 + lo) / y : Nat) : Int), .int .u64 (((hi * B64 + lo) % y : Nat) : Int)]) /\ Drew w w' := by
 by_cases h0 : hi = 0
 .
  subst h0
  rw [Nat.zero_mul, Nat.zero_add]
  exact zzDiv_zero lo y w hhi hlo
 obtain ⟨n1, n2, n3⟩ := nlz_spec (x := y) (by omega) hy
 obtain ⟨s, hs⟩ : ∃ s, nlzN y = s := ⟨_, rfl⟩
 rw [hs] at n1 n2 n3
 obtain ⟨t, ht⟩ : ∃ t, s + t = 64 := ⟨64 - s, by omega⟩
 have hB : B64 = 2 ^ s * 2 ^ t := by rw [<- Nat.pow_add, ht]; rfl
 have hps := Nat.two_pow_pos s
 have hpt := Nat.two_pow_pos t
 obtain ⟨Y, hY⟩ : ∃ Y, y * 2 ^ s = Y := ⟨_, rfl⟩
 rw [hY] at n2 n3
 have eY : shlW y s = Y := by unfold shlW; rw [hY]; exact Nat.mod_eq_of_lt n3
 have hH : hi * 2 ^ s < B64 := Nat.lt_of_le_of_lt (Nat.mul_le_mul_right _ (Nat.le_of_lt hhi)) (by rw [hY]; exact n3)
 have eH : shlW hi s = hi * 2 ^ s := Nat.mod_eq_of_lt hH
 have eh0 : shrW hi t = 0 := by
  unfold shrW
  rw [Nat.div_eq_zero_iff]
  right
  rw [hB, Nat.mul_comm (2 ^ s)] at hH
  exact Nat.lt_of_mul_lt_mul_right hH
 obtain ⟨U, o1, o2, o3⟩ := shl_or hi s t (shrW lo t) ht (shrW_lt lo s t ht hlo)
 rw [eh0, Nat.mul_zero, Nat.add_zero] at o3
 obtain ⟨L, hL⟩ : ∃ L, shlW lo s = L := ⟨_, rfl⟩
 have hLlt : L < B64 := by rw [<- hL]; exact shlW_lt lo s
 have eN : (hi * B64 + lo) * 2 ^ s = U * B64 + L := by
  have h1 := Nat.mod_add_div (lo * 2 ^ s) B64
  have h2 : lo * 2 ^ s / B64 = shrW lo t := by
   unfold shrW
   rw [hB, Nat.mul_comm lo, Nat.mul_div_mul_left _ _ hps]
  rw [h2] at h1
  have h3 : lo * 2 ^ s % B64 = L := hL
  rw [h3] at h1
  rw [Nat.add_mul, <- h1, <- o3]
  grind
 have hU : U < Y := by
  have h1 : (hi * B64 + lo) < y * B64 := by
   have : (hi + 1) * B64 <= y * B64 := Nat.mul_le_mul_right _ hhi
   rw [Nat.add_mul] at this
   omega
  have h2 : (hi * B64 + lo) * 2 ^ s < y * B64 * 2 ^ s := (Nat.mul_lt_mul_right hps).2 h1
  rw [eN, show y * B64 * 2 ^ s = Y * B64 by rw [<- hY]; grind] at h2
  exact Nat.lt_of_mul_lt_mul_right (Nat.lt_of_le_of_lt (Nat.le_add_right _ _) h2)
 have hY0 : 0 < Y := by omega
 have two := two_steps (b := 4294967296) (A := U * 4294967296 + L / 4294967296) (d0 := L % 4294967296) hY0
 have eL : (U * 4294967296 + L / 4294967296) * 4294967296 + L % 4294967296 = U * B64 + L := by
  have := Nat.div_add_mod L 4294967296
  rw [Zs]; omega
 rw [eL, <- eN, <- hY, scale_div hps, scale_mod, hY] at two
 have hw : Y < 18446744073709551616 := n3
 have hw2 : L < 18446744073709551616 := hLlt
 have hdm := Nat.div_add_mod Y 4294967296
 have hv0 := Nat.mod_lt Y (show 0 < 4294967296 by omega)
 refine (zzDiv_pos hi lo y s t Y (Y / 4294967296) (Y % 4294967296) (hi * 2 ^ s) (shrW lo t) U L (L / 4294967296) (L % 4294967296) ((U * 4294967296 + L / 4294967296) / Y) (((U * 4294967296 + L / 4294967296) % Y * 4294967296 + L % 4294967296) / Y) ((U * 4294967296 + L / 4294967296) % Y)
  ((hi * B64 + lo) / y) ((hi * B64 + lo) % y) w (by omega) hhi hy hs ?_ ?_ (divN Y) (maskN Y hw) ?_ ?_ ?_ ?_ ?_ (divN L) (maskN L hw2) ?_ ?_ rfl rfl rfl (by omega) two.1 ?_).mono (fun e w' ⟨h1, h2⟩ => ⟨h1, by rw [h2]; exact Drew.refl w⟩)
 . rw [IntKind.wrap_u64]; omega
 . rw [shlW_form s (by omega), eY]
 . rw [shlW_form s (by omega), eH]
 . rw [IntKind.wrap_u64]; omega
 . exact shrW_form t (by omega) lo
 .
  have hs1 : shrW lo t < 18446744073709551616 := shrW_le lo t hlo
  rw [bits_or_u64_nat _ _ (by exact hH) hs1, <- eH, o1]
 . rw [shlW_form s (by omega), hL]
 . exact ⟨by omega, by omega, by omega, by omega, by omega, by omega⟩
 . exact ⟨hU, by omega, by omega⟩
 . rw [<- two.2, Nat.mul_div_cancel _ hps]
end Go.Proofs.YthkklkjldpcbkaaGreatDoor
