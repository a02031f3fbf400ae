/- For the claim of laws.FnInverse: SpecV, SpecG. -/
import Derived.Test.YthkklkjldpcbkaaGreatDoorLiSpec4
import Derived.Test.YthkklkjldpcbkaaGreatDoorLiL1
import Derived.Test.YthkklkjldpcbkaaGreatDoorLiD5
import Derived.Test.YthkklkjldpcbkaaGreatDoorLiDs
import Derived.Test.YthkklkjldpcbkaaGreatDoorLiG4
set_option linter.unusedVariables false
set_option linter.unusedSimpArgs false
namespace Go.Proofs.YthkklkjldpcbkaaGreatDoor
open Go.RowKit Go.Proofs.YthkklkjldpcbkaaGreatDoor.PSpec Go.Proofs.YthkklkjldpcbkaaGreatDoorW.PrintWords Go.Proofs.YthkklkjldpcbkaaGreatDoorW.PrintLast Go.Proofs.YthkklkjldpcbkaaGreatDoorW.PrintMore
theorem mul_up (a b : Nat) (h : (ds a).length + (ds b).length <= 35184372088832) : ∃ k, ∀ j, k <= j -> spec_Mul.f j (ints (ds a)) (ints (ds b)) = some (ints (ds (a * b))) := by
 obtain ⟨k, e⟩ := spec_Mul_any (ds a) (ds b) (ds_ds _) (ds_ds _) h
 rw [val_ds, val_ds] at e
 exact ⟨k, leO_up (f := fun k => spec_Mul.f k (ints (ds a)) (ints (ds b))) (fun k => spec_Mul.mono _ _ k) e⟩
theorem sub_up (a b : Nat) (h : b <= a) (hl : (ds a).length <= 1099511627776) : ∃ k, ∀ j, k <= j -> spec_Sub.f j (ints (ds a)) (ints (ds b)) = some (ints (ds (a - b))) := by
 obtain ⟨k, e⟩ := spec_Sub_any a b h hl
 exact ⟨k, leO_up (f := fun k => spec_Sub.f k (ints (ds a)) (ints (ds b))) (fun k => spec_Sub.mono _ _ k) e⟩
theorem small_up (n : Nat) (h : n < 9223372036854775808) : ∃ k, ∀ j, k <= j -> spec_Small.f j (n : Int) = some (ints (ds n)) := by
 obtain ⟨k, e⟩ := spec_Small_any n h
 exact ⟨k, leO_up (f := fun k => spec_Small.f k (n : Int)) (fun k => spec_Small.mono _ k) e⟩
theorem byDigit_up (a d : Nat) (h0 : 0 < d) (hd : d < 65536) (hl : (ds a).length <= 35184372088832) : ∃ k, ∀ j, k <= j -> spec_byDigit.f j (ints (ds a)) (ints (ds d)) = some (ints (ds (a / d)), ((a % d : Nat) : Int)) := by
 obtain ⟨k, e⟩ := spec_byDigit_any (ds a) d (ds_ds _) h0 hd hl
 rw [val_ds, <- ds_small (show d < B16 from hd) (by omega)] at e
 exact ⟨k, leO_up (f := fun k => spec_byDigit.f k (ints (ds a)) (ints (ds d))) (fun k => spec_byDigit.mono _ _ k) e⟩
theorem dm_l1 (x8 x9 q : List Int) (R V i : Nat) (res : List Int × List Int) (hV : 0 < V) (hi : i < q.length) (hib : i < 1000000000) (hR : (ds R).length <= 1000000) (hVl : (ds V).length <= 1000000)
  (hnext : ∃ k, ∀ j, k <= j -> spec_DivMod.l0 j x8 x9 (ints (ds V)) (q.set i ((R / V : Nat) : Int)) (ints (ds (R % V))) ((i : Int) - 1) = some res) :
  ∀ n : Nat, n <= 65535 -> R / V <= n -> ∃ k, ∀ j, k <= j -> spec_DivMod.l1 j x8 x9 (ints (ds V)) q (ints (ds R)) (i : Int) (n : Int) (ints (ds (V * n))) = some res := by
 intro n
 induction n with
 | zero =>
  intro _ hle
  obtain ⟨d1, d2⟩ := dm_eq (n := 0) hV hle (by omega)
  obtain ⟨k1, e1⟩ := hnext
  rw [d1, <- d2] at e1
  obtain ⟨k2, e2⟩ := sub_up R (V * 0) (by omega) (by omega)
  refine ⟨k1 + k2 + 2 + (ds (V * 0)).length, fun j hj => ?_⟩
  obtain ⟨j, rfl⟩ : ∃ j', j = j' + 1 := ⟨j - 1, by omega⟩
  have hl0 : (ds (V * 0)).length <= 1099511627776 := by have := ds_mul_len V 0; have : (ds 0).length = 0 := ds_len_eq_zero.2 rfl; omega
  obtain ⟨r, c1, c2⟩ := spec_Cmp_any (V * 0) R hl0 (by omega) j (by omega)
  have W1 := Qq (wr64 (z := (i : Int) - 1) (by omega) (by omega))
  rw [spec_DivMod.l1, c1, Option.bind_some, if_neg (by have := c2.2 (by omega); omega), e2 j (by omega), Option.bind_some, if_pos (by omega), if_pos (by omega), Int.toNat_natCast, W1.out]
  exact e1 j (by omega)
 | succ n ih =>
  intro hn hle
  have hl1 : (ds (V * (n + 1))).length <= 1000004 := by
   have h1 := ds_mul_len V (n + 1)
   have h2 : (ds (n + 1)).length <= 1 := ds_len_of_lt (by rw [Nat.pow_one]; show n + 1 < 65536; omega)
   omega
  by_cases hgt : R < V * (n + 1)
  .
   obtain ⟨_, d2⟩ := dm_dec hV hle hgt
   obtain ⟨k1, e1⟩ := ih (by omega) d2
   obtain ⟨k2, e2⟩ := sub_up (V * (n + 1)) V (by rw [Nat.mul_add]; omega) (by omega)
   rw [show V * (n + 1) - V = V * n by rw [Nat.mul_add]; omega] at e2
   refine ⟨k1 + k2 + 2 + (ds (V * (n + 1))).length, fun j hj => ?_⟩
   obtain ⟨j, rfl⟩ : ∃ j', j = j' + 1 := ⟨j - 1, by omega⟩
   obtain ⟨r, c1, c2⟩ := spec_Cmp_any (V * (n + 1)) R (by omega) (by omega) j (by omega)
   have W1 := Qq (wr64 (z := ((n + 1 : Nat) : Int) - 1) (by omega) (by omega))
   rw [spec_DivMod.l1, c1, Option.bind_some, if_pos (by have := mt c2.1 (show ¬ V * (n + 1) <= R by omega); omega), e2 j (by omega), Option.bind_some, W1.out, show ((n + 1 : Nat) : Int) - 1 = (n : Int) by omega]
   exact e1 j (by omega)
  .
   obtain ⟨d1, d2⟩ := dm_eq hV hle (show V * (n + 1) <= R by omega)
   obtain ⟨k1, e1⟩ := hnext
   rw [d1, <- d2] at e1
   obtain ⟨k2, e2⟩ := sub_up R (V * (n + 1)) (by omega) (by omega)
   refine ⟨k1 + k2 + 2 + (ds (V * (n + 1))).length, fun j hj => ?_⟩
   obtain ⟨j, rfl⟩ : ∃ j', j = j' + 1 := ⟨j - 1, by omega⟩
   obtain ⟨r, c1, c2⟩ := spec_Cmp_any (V * (n + 1)) R (by omega) (by omega) j (by omega)
   have W1 := Qq (wr64 (z := (i : Int) - 1) (by omega) (by omega))
   rw [spec_DivMod.l1, c1, Option.bind_some, if_neg (by have := c2.2 (by omega); omega), e2 j (by omega), Option.bind_some, if_pos (by omega), if_pos (by omega), Int.toNat_natCast, W1.out]
   exact e1 j (by omega)
theorem dm_j1 (x8 x9 q : List Int) (R V i n : Nat) (res : List Int × List Int) (hV : 0 < V) (hi : i < q.length) (hib : i < 1000000000) (hR : (ds R).length <= 1000000) (hVl : (ds V).length <= 1000000)
  (hnext : ∃ k, ∀ j, k <= j -> spec_DivMod.l0 j x8 x9 (ints (ds V)) (q.set i ((R / V : Nat) : Int)) (ints (ds (R % V))) ((i : Int) - 1) = some res) (hn : n <= 65535) (hle : R / V <= n) :
  ∃ k, ∀ j, k <= j -> spec_DivMod.j1 j x8 x9 (ints (ds V)) q (ints (ds R)) (i : Int) (n : Int) = some res := by
 obtain ⟨k1, e1⟩ := dm_l1 x8 x9 q R V i res hV hi hib hR hVl hnext n hn hle
 obtain ⟨k2, e2⟩ := small_up n (by omega)
 have hl1 : (ds n).length <= 1 := ds_len_of_lt (by rw [Nat.pow_one]; show n < 65536; omega)
 obtain ⟨k3, e3⟩ := mul_up V n (by omega)
 refine ⟨k1 + k2 + k3 + 2, fun j hj => ?_⟩
 obtain ⟨j, rfl⟩ : ∃ j', j = j' + 1 := ⟨j - 1, by omega⟩
 rw [spec_DivMod.j1, e2 j (by omega), Option.bind_some, e3 j (by omega), Option.bind_some]
 exact e1 j (by omega)
theorem dm_nums {a b v : Nat} (ha : a < 65536) (hb : b < 65536) (hv : 0 < v) : wrap64 (Int.tdiv (wrap64 ((a : Int) + wrap64 (65536 * (b : Int)))) (v : Int)) = (((a + 65536 * b) / v : Nat) : Int) /\ wrap64 (Int.tdiv (a : Int) (v : Int)) = ((a / v : Nat) : Int) := by
 have h1 : (a + 65536 * b) / v <= a + 65536 * b := Nat.div_le_self _ _
 have h2 : a / v <= a := Nat.div_le_self _ _
 have e1 : (65536 : Int) * (b : Int) = ((65536 * b : Nat) : Int) := by omega
 have e2 : wrap64 ((65536 : Int) * (b : Int)) = ((65536 * b : Nat) : Int) := (wr64 (by omega) (by omega)).trans e1
 have e3 : wrap64 ((a : Int) + ((65536 * b : Nat) : Int)) = ((a + 65536 * b : Nat) : Int) := (wr64 (by omega) (by omega)).trans (by omega)
 have e4 : Int.tdiv ((a + 65536 * b : Nat) : Int) (v : Int) = (((a + 65536 * b) / v : Nat) : Int) := rfl
 have e5 : Int.tdiv (a : Int) (v : Int) = ((a / v : Nat) : Int) := rfl
 rw [e2, e3, e4, e5]
 generalize (a + 65536 * b) / v = q1 at *
 generalize a / v = q2 at *
 exact ⟨wr64 (by omega) (by omega), wr64 (by omega) (by omega)⟩
theorem mn_nat (a : Nat) : mn (a : Int) 65535 = ((min a 65535 : Nat) : Int) := by
 unfold mn
 split <;> omega
theorem dm_l0 (U V m : Nat) (hm0 : 0 < m) (hm : m < 65536) (hV : 0 < V) (hU : (ds U).length <= 900000) (hVl : (ds V).length <= 900000) : ∀ (i : Nat) (T : List Nat), T.length + i = (ds U).length -> Digs B16 T -> val B16 T = U / B16 ^ i / V →
  ∃ k, ∀ j, k <= j -> spec_DivMod.l0 j (ints (ds m)) (ints (ds U)) (ints (ds V)) (ints (List.replicate i 0 ++ T)) (ints (ds (U / B16 ^ i % V))) ((i : Int) - 1) = some (ints (ds (U / V)), ints (ds (U % V / m))) := by
 intro i
 induction i with
 | zero =>
  intro T hT dT hv
  rw [Nat.pow_zero, Nat.div_one] at hv ⊢
  have hlR : (ds (U % V)).length <= 900000 := Nat.le_trans (ds_len_mono (Nat.mod_le _ _)) hU
  obtain ⟨k1, e1⟩ := byDigit_up (U % V) m hm0 hm (by omega)
  refine ⟨k1 + T.length + 2, fun j hj => ?_⟩
  obtain ⟨j, rfl⟩ : ∃ j', j = j' + 1 := ⟨j - 1, by omega⟩
  have e2 := spec_cut_f (k := j) (xs := T) (by omega) (by omega) dT
  rw [hv] at e2
  rw [spec_DivMod.l0, if_neg (by omega), e1 j (by omega), Option.bind_some, List.replicate_zero, List.nil_append, e2, Option.bind_some]
 | succ i ih =>
  intro T hT dT hv
  obtain ⟨R, hR⟩ : ∃ R, U / B16 ^ (i + 1) % V = R := ⟨_, rfl⟩
  obtain ⟨u, hu⟩ : ∃ u, (ds U).getD i 0 = u := ⟨_, rfl⟩
  obtain ⟨P, hP⟩ : ∃ P, U / B16 ^ (i + 1) = P := ⟨_, rfl⟩
  have huB : u < 65536 := hu ▸ getD_lt (ds_ds U) i
  have hRV : R < V := hR ▸ Nat.mod_lt _ hV
  have hPi : U / B16 ^ i = B16 * P + u := by
   rw [<- hP, Nat.pow_succ, <- Nat.div_div_eq_div_mul, <- hu, getD_ds]
   have := Nat.div_add_mod (U / B16 ^ i) B16
   omega
  rw [hP] at hv hR
  rw [hP, hR]
  have hPd := Nat.div_add_mod P V
  rw [hR] at hPd
  obtain ⟨S, hS⟩ : ∃ S, B16 * R + u = S := ⟨_, rfl⟩
  have hSV : S < V * 65536 := by
   rw [<- hS]
   have h1 : B16 * (R + 1) <= B16 * V := Nat.mul_le_mul_left _ hRV
   rw [B16_eq] at h1 ⊢
   omega
  have hq : (B16 * P + u) / V = B16 * (P / V) + S / V /\ (B16 * P + u) % V = S % V := by
   have e : B16 * P + u = S + V * (B16 * (P / V)) := by
    have : B16 * P = B16 * (V * (P / V)) + B16 * R := by rw [<- Nat.mul_add, hPd]
    have h2 : V * (B16 * (P / V)) = B16 * (V * (P / V)) := by grind
    omega
   rw [e, Nat.add_mul_div_left _ _ hV, Nat.add_mul_mod_self_left]
   exact ⟨by omega, rfl⟩
  have hdB : S / V < 65536 := by rw [Nat.div_lt_iff_lt_mul hV, Nat.mul_comm]; exact hSV
  have hlV : ∃ L, (ds V).length = L + 1 := ⟨(ds V).length - 1, by have := mt (ds_len_eq_zero (n := V)).1 (by omega); omega⟩
  obtain ⟨L, hL⟩ := hlV
  have hSp : S < B16 ^ (L + 2) := by
   have h1 := lt_of_ds_len V
   rw [hL] at h1
   have h2 : B16 ^ (L + 2) = B16 ^ (L + 1) * 65536 := by rw [Nat.pow_succ]; rfl
   rw [h2]
   exact Nat.lt_of_lt_of_le hSV (Nat.mul_le_mul_right _ (Nat.le_of_lt h1))
  have hlS : (ds S).length <= L + 2 := ds_len_of_lt hSp
  have hlR : (ds R).length <= L + 1 := by rw [<- hL]; exact ds_len_mono (Nat.le_of_lt hRV)
  obtain ⟨k1, e1⟩ := ih (S / V :: T) (by simp only [List.length_cons]; omega) (Digs.cons hdB dT) (by rw [Ye, hv, hPi, hq.1]; omega)
  rw [hPi, hq.2] at e1
  have hset : (ints (List.replicate (i + 1) 0 ++ T)).set i ((S / V : Nat) : Int) = ints (List.replicate i 0 ++ S / V :: T) := by rw [ints_set, rep_set]
  have hJ : ∀ n : Nat, n <= 65535 -> S / V <= n -> ∃ k, ∀ j, k <= j -> spec_DivMod.j1 j (ints (ds m)) (ints (ds U)) (ints (ds V)) (ints (List.replicate (i + 1) 0 ++ T)) (ints (ds S)) (i : Int) (n : Int) = some (ints (ds (U / V)), ints (ds (U % V / m))) := fun n h1 h2 =>
   dm_j1 _ _ _ S V i n _ hV (by rw [Zf, List.length_append, List.length_replicate]; omega) (by omega) (by omega) (by omega) ⟨k1, by rw [hset]; exact e1⟩ h1 h2
  have hcat : ([rd (ints (ds U)) (i : Int)] : List Int) ++ ints (ds R) = ints (u :: ds R) := by rw [rd_getD, hu]; rfl
  have hcv : val B16 (u :: ds R) = S := by rw [Ye, val_ds, <- hS]; omega
  have hcd : Digs B16 (u :: ds R) := Digs.cons huB (ds_ds R)
  have hvt := dm_vtop hL
  have hW := Qq (wr64 (z := ((L + 1 : Nat) : Int) - 1) (by omega) (by omega))
  have eL : ((L + 1 : Nat) : Int) - 1 = (L : Int) := by omega
  rw [eL] at hW
  by_cases hge : L + 1 <= (ds S).length
  .
   have ha := getD_lt (ds_ds S) L
   have hb := getD_lt (ds_ds S) (L + 1)
   have htop := dm_top hSp
   have hgs := dm_guess (Nat.pow_pos B16_pos (n := L)) hvt.2 hSV
   obtain ⟨vt, hvt1⟩ : ∃ vt, V / B16 ^ L = vt := ⟨_, rfl⟩
   rw [hvt1] at hvt hgs
   rw [<- htop] at hgs
   have N := dm_nums ha hb hvt.2
   obtain ⟨k2, e2⟩ := hJ _ (Nat.min_le_right _ _) hgs
   rw [<- mn_nat, <- N.1] at e2
   refine ⟨k2 + (ds R).length + 4, fun j hj => ?_⟩
   obtain ⟨j, rfl⟩ : ∃ j', j = j' + 1 := ⟨j - 1, by omega⟩
   have e3 := spec_cut_f (k := j) (xs := u :: ds R) (by simp only [List.length_cons]; omega) (by simp only [List.length_cons]; omega) hcd
   rw [hcv] at e3
   rw [show ((i + 1 : Nat) : Int) - 1 = (i : Int) by omega, spec_DivMod.l0, if_pos (by omega), if_pos (by omega), if_pos (by rw [Zf]; omega), Option.bind_some, if_pos (by simp only [List.length_cons, List.length_nil, Zf]; omega), hcat, e3, Option.bind_some,
    Zf, Zf, hL, if_pos (by omega), eL, hW.out, if_pos (by omega), if_pos (by omega)]
   have hrv : rd (ints (ds V)) (L : Int) = (vt : Int) := by rw [rd_getD, hvt.1]
   by_cases hgt : L + 1 < (ds S).length
   .
    rw [if_pos (by omega), if_pos (by omega), if_pos (by omega), if_pos (by omega), hrv, if_neg (by omega), rd_getD, rd_getD]
    exact e2 j (by omega)
   .
    have hb0 : (ds S).getD (L + 1) 0 = 0 := by rw [List.getD_eq_getElem?_getD, List.getElem?_eq_none (by omega)]; rfl
    have e4 := e2 j (by omega)
    rw [N.1, hb0] at e4
    simp only [Nat.mul_zero, Nat.add_zero] at e4
    rw [<- N.2] at e4
    rw [if_neg (by omega), if_pos (by omega), hrv, if_neg (by omega), rd_getD]
    exact e4
  .
   have h0 := dm_short (R := S) (V := V) (by omega)
   obtain ⟨k2, e2⟩ := hJ 0 (by omega) (by omega)
   refine ⟨k2 + (ds R).length + 4, fun j hj => ?_⟩
   obtain ⟨j, rfl⟩ : ∃ j', j = j' + 1 := ⟨j - 1, by omega⟩
   have e3 := spec_cut_f (k := j) (xs := u :: ds R) (by simp only [List.length_cons]; omega) (by simp only [List.length_cons]; omega) hcd
   rw [hcv] at e3
   rw [show ((i + 1 : Nat) : Int) - 1 = (i : Int) by omega, spec_DivMod.l0, if_pos (by omega), if_pos (by omega), if_pos (by rw [Zf]; omega), Option.bind_some, if_pos (by simp only [List.length_cons, List.length_nil, Zf]; omega), hcat, e3, Option.bind_some,
    Zf, Zf, hL, if_neg (by omega)]
   exact e2 j (by omega)
set_option maxHeartbeats 2000000 in
theorem spec_DivMod_any (X Y : Nat) (hY : 0 < Y) (hX : (ds X).length <= 800000) (hYl : (ds Y).length <= 800000) : ∃ k, spec_DivMod.f k (ints (ds X)) (ints (ds Y)) = some (ints (ds (X / Y)), ints (ds (X % Y))) := by
 unfold spec_DivMod.f
 by_cases h1 : (ds Y).length = 1
 .
  have hY2 : Y < 65536 := by
   have := lt_of_ds_len Y
   rwa [h1, Nat.pow_one] at this
  obtain ⟨k1, e1⟩ := byDigit_up X Y hY hY2 (by omega)
  obtain ⟨k2, e2⟩ := small_up (X % Y) (by have := Nat.mod_lt X hY; omega)
  refine ⟨k1 + k2, ?_⟩
  rw [if_pos (by rw [Zf]; omega), e1 _ (by omega), Option.bind_some, e2 _ (by omega), Option.bind_some]
 .
  obtain ⟨L, hL⟩ : ∃ L, (ds Y).length = L + 1 := ⟨(ds Y).length - 1, by have := mt (ds_len_eq_zero (n := Y)).1 (by omega); omega⟩
  have ht := dm_vtop hL
  have htB := getD_lt (ds_ds Y) L
  obtain ⟨t, ht1⟩ : ∃ t, Y / B16 ^ L = t := ⟨_, rfl⟩
  rw [ht1] at ht
  rw [ht.1] at htB
  obtain ⟨m, hm⟩ : ∃ m, 65536 / (t + 1) = m := ⟨_, rfl⟩
  have hmm := dm_more htB
  rw [hm] at hmm
  have hm0 := hmm.1
  have hmB := hmm.2 ht.2
  have hlm : (ds m).length <= 1 := ds_len_of_lt (by rw [Nat.pow_one]; exact hmB)
  have hW := Qq (wr64 (z := ((L + 1 : Nat) : Int) - 1) (by omega) (by omega))
  have eL : ((L + 1 : Nat) : Int) - 1 = (L : Int) := by omega
  rw [eL] at hW
  have hrt := Qq (show rd (ints (ds Y)) (L : Int) = (t : Int) by rw [rd_getD, ht.1])
  have hW2 := Qq (show wrap64 ((t : Int) + 1) = ((t + 1 : Nat) : Int) from (wr64 (by omega) (by omega)).trans (by omega))
  have hW3 := Qq (show wrap64 (Int.tdiv (65536 : Int) ((t + 1 : Nat) : Int)) = (m : Int) by
   have e : ∀ a b : Nat, Int.tdiv (a : Int) (b : Int) = ((a / b : Nat) : Int) := fun _ _ => rfl
   rw [show (65536 : Int) = ((65536 : Nat) : Int) from rfl, e, hm]
   exact wr64 (by omega) (by omega))
  clear hm ht1
  obtain ⟨k1, e1⟩ := small_up m (by omega)
  obtain ⟨k2, e2⟩ := mul_up X m (by omega)
  obtain ⟨k3, e3⟩ := mul_up Y m (by omega)
  have hlU : (ds (X * m)).length <= 900000 := by have := ds_mul_len X m; omega
  have hlV : (ds (Y * m)).length <= 900000 := by have := ds_mul_len Y m; omega
  have hVp : 0 < Y * m := Nat.mul_pos hY hm0
  obtain ⟨hu1, hu2, _⟩ := dm_undo (A := X) (B := Y) hm0
  have hlt : X * m / B16 ^ (ds (X * m)).length = 0 := Nat.div_eq_of_lt (lt_of_ds_len _)
  obtain ⟨k4, e4⟩ := dm_l0 (X * m) (Y * m) m hm0 hmB hVp hlU hlV (ds (X * m)).length [] (by simp) (fun _ h => by cases h) (by rw [hlt, Nat.zero_div]; rfl)
  rw [hlt, Nat.zero_mod, ds_zero, List.append_nil, hu1, hu2] at e4
  have hW4 := Qq (wr64 (z := ((ds (X * m)).length : Int) - 1) (by omega) (by omega))
  have hrep : ints (List.replicate (ds (X * m)).length 0) = List.replicate (ds (X * m)).length (0 : Int) := by unfold ints; rw [List.map_replicate]; rfl
  rw [hrep] at e4
  refine ⟨k1 + k2 + k3 + k4, ?_⟩
  rw [if_neg (by rw [Zf]; omega), Zf, hL, eL, hW.out, if_pos (by omega), if_pos (by omega), hrt.out, hW2.out, if_neg (by omega), hW3.out, e1 _ (by omega), Option.bind_some, e2 _ (by omega), Option.bind_some, e3 _ (by omega), Option.bind_some, Zf, if_pos (by omega), if_pos (by omega), hW4.out, Int.toNat_natCast]
  exact e4 _ (by omega)
theorem F_any {w : World} {A : Option Addr} {n : Nat} {xs : List Int} (h : Kd.C (Kd.int .i64) w A n xs) : Kd.F (Kd.int .i64) w (fun _ => True) A n xs :=
 fun _ hW => (Kd.heap_int .i64).C (fun k hk => hW k trivial hk) h
theorem V_any {w : World} {A : Option Addr} {n c base e : Nat} {xs : List Int} (h : Kd.C (Kd.int .i64) w A n xs) (hn : xs.length = n) (hc : n <= c) : Kd.V (Kd.int .i64) e w base (fun _ => True) (.slice A xs.length c) xs := by
 subst hn
 exact ⟨A, c, rfl, hc, F_any h⟩
theorem divmod_up (X Y : Nat) (hY : 0 < Y) (hX : (ds X).length <= 800000) (hYl : (ds Y).length <= 800000) : ∃ k, ∀ j, k <= j -> spec_DivMod.f j (ints (ds X)) (ints (ds Y)) = some (ints (ds (X / Y)), ints (ds (X % Y))) := by
 obtain ⟨k, e⟩ := spec_DivMod_any X Y hY hX hYl
 exact ⟨k, leO_up (f := fun k => spec_DivMod.f k (ints (ds X)) (ints (ds Y))) (fun k => spec_DivMod.mono _ _ k) e⟩
theorem smod_up (X Y : Nat) (hY : 0 < Y) (hX : (ds X).length <= 800000) (hYl : (ds Y).length <= 800000) : ∃ k, ∀ j, k <= j -> spec_Mod.f j (ints (ds X)) (ints (ds Y)) = some (ints (ds (X % Y))) := by
 obtain ⟨k, e⟩ := divmod_up X Y hY hX hYl
 exact ⟨k, fun j hj => by rw [spec_Mod.f, e j hj]; rfl⟩
theorem sgcd_up (Y : Nat) : ∀ X : Nat, (ds X).length <= 800000 -> (ds Y).length <= 800000 -> ∃ k, ∀ j, k <= j -> spec_Gcd.l0 j (ints (ds X)) (ints (ds Y)) = some (ints (ds (Nat.gcd X Y))) := by
 induction Y using Nat.strongRecOn with
 | ind Y ih =>
  intro X hX hYl
  by_cases hY : Y = 0
  .
   subst hY
   refine ⟨1, fun j hj => ?_⟩
   obtain ⟨j, rfl⟩ : ∃ j', j = j' + 1 := ⟨j - 1, by omega⟩
   rw [spec_Gcd.l0, ds_zero, if_neg (by simp [ints]), Nat.gcd_zero_right]
  .
   have hY0 : 0 < Y := Nat.pos_of_ne_zero hY
   have hlt := Nat.mod_lt X hY0
   obtain ⟨k1, e1⟩ := smod_up X Y hY0 hX hYl
   obtain ⟨k2, e2⟩ := ih (X % Y) hlt Y hYl (Nat.le_trans (ds_len_mono (Nat.le_of_lt hlt)) hYl)
   refine ⟨k1 + k2 + 1, fun j hj => ?_⟩
   obtain ⟨j, rfl⟩ : ∃ j', j = j' + 1 := ⟨j - 1, by omega⟩
   have hl : (ds Y).length ≠ 0 := mt (ds_len_eq_zero (n := Y)).1 hY
   rw [spec_Gcd.l0, if_pos (by rw [Zf]; omega), e1 j (by omega), Option.bind_some, e2 j (by omega)]
   rw [Nat.gcd_comm X Y, Nat.gcd_rec Y X, Nat.gcd_comm Y (X % Y)]
theorem mod_sp (v1 v2 : Value) (X d : Nat) (w : World) (h1 : SpN w v1 X) (h2 : SpN w v2 d) (h0 : 0 < d) (hl : (ds X).length <= 800000) (hd : (ds d).length <= 800000) :
  Calls Tryz.prog 25 #[v1, v2] w fun e w' => ∃ v, e = .returned v /\ SpN w' v (X % d) /\ Upd NoF w w' := by
 obtain ⟨A1, c1, rfl, a1, a2⟩ := h1
 obtain ⟨A2, c2, rfl, b1, b2⟩ := h2
 obtain ⟨k, hk⟩ := smod_up X d h0 hl hd
 have h := spec_Mod.calls k A1 c1 (ints (ds X)) A2 c2 (ints (ds d)) _ w (by rw [Zf]; exact a2) (by rw [Zf]; exact a1) (by rw [Zf]; exact b2) (by rw [Zf]; exact b1) (hk k (Nat.le_refl _))
 rw [Zf, Zf] at h
 exact h.mono (fun e w' ⟨q, he, hq, hb⟩ => ⟨q, he, SpN.ofV hq, Upd.ofBelow hb⟩)
theorem gcd_sp (v1 v2 : Value) (X Y : Nat) (w : World) (h1 : SpN w v1 X) (h2 : SpN w v2 Y) (hl : (ds X).length <= 800000) (hd : (ds Y).length <= 800000) :
  Calls Tryz.prog 12 #[v1, v2] w fun e w' => ∃ v, e = .returned v /\ SpN w' v (Nat.gcd X Y) /\ Upd NoF w w' := by
 obtain ⟨A1, c1, rfl, a1, a2⟩ := h1
 obtain ⟨A2, c2, rfl, b1, b2⟩ := h2
 obtain ⟨k, hk⟩ := sgcd_up Y X hl hd
 have h := spec_Gcd.calls k (fun _ => True) A1 c1 (ints (ds X)) (fun _ => True) A2 c2 (ints (ds Y)) _ w (V_any a2 (Zf _) a1) (V_any b2 (Zf _) b1) (hk k (Nat.le_refl _))
 rw [Zf, Zf] at h
 exact h.mono (fun e w' ⟨q, he, hq, hb⟩ => ⟨q, he, SpN.ofV hq, Upd.ofBelow hb⟩)
theorem emod_nat (X : Int) (d : Nat) (h0 : 0 < d) : (X % (d : Int)).toNat = if X < 0 then (if X.natAbs % d ≠ 0 then d - X.natAbs % d else X.natAbs % d) else X.natAbs % d := by
 rw [emod_digit X d h0]
 by_cases h : X < 0
 .
  by_cases h2 : X.natAbs % d = 0
  . rw [if_neg (fun h => h.2 h2), if_pos h, if_neg (fun h => h h2), Int.toNat_natCast]
  . rw [if_pos ⟨h, h2⟩, if_pos h, if_pos h2, Int.toNat_natCast]
 . rw [if_neg (fun h2 => h h2.1), if_neg h, Int.toNat_natCast]
theorem srest_sp (v1 v2 : Value) (X : Int) (d : Nat) (w : World) (h1 : SpI w v1 X) (h2 : SpN w v2 d) (h0 : 0 < d) (hl : (ds X.natAbs).length <= 800000) (hd : (ds d).length <= 800000) :
  Calls Tryz.prog 24 #[v1, v2] w fun e w' => ∃ v, e = .returned v /\ SpN w' v (X % (d : Int)).toNat /\ Upd NoF w w' := by
 obtain ⟨A1, c1, rfl, a1, a2⟩ := h1
 obtain ⟨A2, c2, rfl, b1, b2⟩ := h2
 have hlt := Nat.mod_lt X.natAbs h0
 obtain ⟨k1, e1⟩ := smod_up X.natAbs d h0 hl hd
 obtain ⟨k2, e2⟩ := sub_up d (X.natAbs % d) (Nat.le_of_lt hlt) (by omega)
 have hk : spec_Rest.f (k1 + k2) (decide (X < 0)) (ints (ds X.natAbs)) (ints (ds d)) = some (ints (ds (X % (d : Int)).toNat)) := by
  rw [spec_Rest.f, e1 _ (by omega), Option.bind_some, emod_nat X d h0, Zf]
  by_cases h : X < 0
  .
   by_cases h2 : X.natAbs % d = 0
   . rw [if_pos (decide_eq_true h), if_pos h, if_neg (show ¬ (((ds (X.natAbs % d)).length : Int) > 0) by rw [(ds_len_eq_zero (n := X.natAbs % d)).2 h2]; omega), if_neg (fun h => h h2)]
   .
    have hl : (ds (X.natAbs % d)).length ≠ 0 := mt (ds_len_eq_zero (n := X.natAbs % d)).1 h2
    rw [if_pos (decide_eq_true h), if_pos h, if_pos (show ((ds (X.natAbs % d)).length : Int) > 0 by omega), if_pos h2, e2 _ (by omega), Option.bind_some]
  . rw [if_neg (fun h2 => h (of_decide_eq_true h2)), if_neg h]
 have h := spec_Rest.calls (k1 + k2) (decide (X < 0)) A1 c1 (ints (ds X.natAbs)) A2 c2 (ints (ds d)) _ w (by rw [Zf]; exact a2) (by rw [Zf]; exact a1) (by rw [Zf]; exact b2) (by rw [Zf]; exact b1) hk
 rw [Zf, Zf] at h
 exact h.mono (fun e w' ⟨q, he, hq, hb⟩ => ⟨q, he, SpN.ofV hq, Upd.ofBelow hb⟩)
theorem scmp_sp (v1 v2 : Value) (X Y : Nat) (w : World) (h1 : SpN w v1 X) (h2 : SpN w v2 Y) (hx : (ds X).length <= 1099511627776) (hy : (ds Y).length <= 1099511627776) :
  Calls Tryz.prog 16 #[v1, v2] w fun e w' => ∃ r : Int, e = .returned (.int .i64 r) /\ (r <= 0 ↔ X <= Y) /\ (0 <= r ↔ Y <= X) /\ Upd NoF w w' := by
 obtain ⟨A1, c1, rfl, a1, a2⟩ := h1
 obtain ⟨A2, c2, rfl, b1, b2⟩ := h2
 obtain ⟨r, hk, hr⟩ := spec_Cmp_both X Y hx hy ((ds X).length + 1) (by omega)
 have h := spec_Cmp.calls _ A1 c1 (ints (ds X)) A2 c2 (ints (ds Y)) _ w (by rw [Zf]; exact a2) (by rw [Zf]; exact a1) (by rw [Zf]; exact b2) (by rw [Zf]; exact b1) hk
 rw [Zf, Zf] at h
 exact h.mono (fun e w' ⟨he, n, hn⟩ => ⟨r, he, hr.1, hr.2, hn ▸ (Upd.refl NoF w).drewN n⟩)
end Go.Proofs.YthkklkjldpcbkaaGreatDoor
