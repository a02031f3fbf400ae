/- For the claim of laws.FnInverse: SpecD, Plus, SpE, SpecS, PlusD. -/
import Derived.Test.YthkklkjldpcbkaaGreatDoorLiB3
import Derived.Test.YthkklkjldpcbkaaGreatDoorLiSpec1
import Derived.Test.YthkklkjldpcbkaaGreatDoorLiD2
import Derived.Test.YthkklkjldpcbkaaGreatDoorLiB4
set_option linter.unusedVariables false
set_option linter.unusedSimpArgs false
namespace Go.Proofs.YthkklkjldpcbkaaGreatDoor
open Go.RowKit Go.Proofs.YthkklkjldpcbkaaGreatDoor.PSpec Go.Proofs.YthkklkjldpcbkaaGreatDoorW.PrintWords Go.Proofs.YthkklkjldpcbkaaGreatDoorW.PrintLast Go.Proofs.YthkklkjldpcbkaaGreatDoorW.PrintMore
theorem rep_set (j q : Nat) (qs : List Nat) : (List.replicate (j + 1) 0 ++ qs).set j q = List.replicate j 0 ++ q :: qs := by
 rw [List.replicate_succ', List.append_assoc]
 have h := set_at (List.replicate j 0) qs 0 q
 rw [List.length_replicate] at h
 exact h
theorem rd_one (d : Nat) : rd (ints [d]) 0 = (d : Int) := rfl
theorem spec_byDigit_l0 (xs : List Nat) (n d : Nat) (hn : xs.length = n) (dx : Digs B16 xs) (hd0 : 0 < d) (hd : d < 65536) (hb : n <= 35184372088832) : ∀ (j k rest : Nat) (qs : List Nat), qs.length + j = n -> rest < d -> Digs B16 qs -> val B16 (xs.drop j) = val B16 qs * d + rest →
  spec_byDigit.l0 (k + n + j + 2) (ints xs) (ints [d]) (ints (List.replicate j 0 ++ qs)) (rest : Int) ((j : Int) - 1) = some (ints (ds (val B16 xs / d)), ((val B16 xs % d : Nat) : Int)) := by
 intro j
 induction j with
 | zero =>
  intro k rest qs hl hr hq hv
  rw [show k + n + 0 + 2 = (k + n + 1) + 1 by omega]
  simp only [spec_byDigit.l0]
  rw [if_neg (by omega), List.replicate_zero, List.nil_append, spec_cut_f (by omega) (by omega) hq]
  rw [List.drop_zero] at hv
  obtain ⟨e1, e2⟩ := quo_rest hv hr
  rw [<- e1, <- e2]; rfl
 | succ j ih =>
  intro k rest qs hl hr hq hv
  obtain ⟨x, hx⟩ : ∃ x, xs[j]'(by omega) = x := ⟨_, rfl⟩
  have hxB : x < 65536 := hx ▸ dx.get j (by omega)
  obtain ⟨K, hK⟩ : ∃ K, k + n + j + 2 = K := ⟨_, rfl⟩
  rw [show k + n + (j + 1) + 2 = K + 1 by omega]
  have hrd : rd (ints xs) (j : Int) = (x : Int) := by rw [rd_ints _ _ (by omega), hx]
  have hlt : rest * 65536 + x < d * 65536 := by
   have : (rest + 1) * 65536 <= d * 65536 := Nat.mul_le_mul_right _ hr
   omega
  have e1 : wrap64 (wrap64 ((rest : Int) * 65536) + (x : Int)) = ((rest * 65536 + x : Nat) : Int) := by
   rw [Yh ((rest : Int) * 65536) (by omega) (by omega), Yh _ (by omega) (by omega)]; omega
  obtain ⟨t, ht⟩ : ∃ t, rest * 65536 + x = t := ⟨_, rfl⟩
  rw [ht] at e1 hlt
  have hq2 : t / d < 65536 := by rw [Nat.div_lt_iff_lt_mul hd0, Nat.mul_comm]; exact hlt
  have hr2 : t % d < d := Nat.mod_lt _ hd0
  have hdm := Nat.div_add_mod t d
  have h1 : Int.tdiv (t : Int) (d : Int) = ((t / d : Nat) : Int) := rfl
  have e3 : Int.tmod (t : Int) (d : Int) = ((t % d : Nat) : Int) := rfl
  obtain ⟨q, hq1⟩ : ∃ q, t / d = q := ⟨_, rfl⟩
  obtain ⟨r, hr1⟩ : ∃ r, t % d = r := ⟨_, rfl⟩
  rw [hq1] at hq2 h1 hdm
  rw [hr1] at hr2 e3 hdm
  clear hq1 hr1
  have e2 : wrap64 (Int.tdiv (t : Int) (d : Int)) = (q : Int) := by rw [h1, Yh _ (by omega) (by omega)]
  have e5 : wrap64 ((j : Int) - 1) = (j : Int) - 1 := Yh _ (by omega) (by omega)
  simp only [spec_byDigit.l0]
  rw [show (((j + 1 : Nat) : Int) - 1) = (j : Int) by omega]
  rw [if_pos (by omega), if_pos (by omega), if_pos (by rw [Zf]; omega), if_pos (by simp), rd_one, if_neg (by omega), if_pos (by simp only [Zf, List.length_append, List.length_replicate]; omega), hrd, e1, e2, e3, e5, Int.toNat_natCast, ints_set, rep_set]
  have hex : xs[j]? = some x := by rw [<- hx]; exact List.getElem?_eq_getElem (by omega)
  have hI : 0 + val B16 (xs.drop (j + 1)) = val B16 qs * d + rest := by rw [Nat.zero_add]; exact hv
  have hX : rest * B16 + x = q * d + r := by
   rw [Nat.mul_comm d] at hdm
   rw [hdm, <- ht]; rfl
  have h := divW_step (P := 0) (P' := 0) (B := B16) (q := q) (r' := r) (x := x) (V' := val B16 (xs.drop j)) hI hX (Nat.mul_zero _).symm (val_drop_at hex)
  have h2 := ih k r (q :: qs) (by simp only [List.length_cons]; omega) hr2 (Digs.cons hq2 hq) (by rw [Ye, <- h, Nat.zero_add])
  rw [hK] at h2
  exact h2
theorem spec_byDigit_any (xs : List Nat) (d : Nat) (dx : Digs B16 xs) (hd0 : 0 < d) (hd : d < 65536) (hb : xs.length <= 35184372088832) : ∃ k, spec_byDigit.f k (ints xs) (ints [d]) = some (ints (ds (val B16 xs / d)), ((val B16 xs % d : Nat) : Int)) := by
 refine ⟨0 + xs.length + xs.length + 2, ?_⟩
 have h := spec_byDigit_l0 xs xs.length d rfl dx hd0 hd hb xs.length 0 0 [] (by simp) hd0 Digs.nil (by simp)
 unfold spec_byDigit.f
 rw [if_pos (by omega), Zf, Int.toNat_natCast, if_pos hb, Yh _ (by omega) (by omega)]
 rw [List.append_nil] at h
 have e : ints (List.replicate xs.length 0) = List.replicate xs.length 0 := by simp [ints]
 rw [e] at h
 exact h
theorem val_take_getD (b : Nat) : ∀ (xs : List Nat) (i : Nat), val b (xs.take (i + 1)) = val b (xs.take i) + xs.getD i 0 * b ^ i
 | [], i => by simp
 | x :: xs, 0 => by simp
 | x :: xs, i + 1 => by
  rw [List.take_succ_cons, List.take_succ_cons, Ye, Ye, val_take_getD b xs i, List.getD_cons_succ, Nat.pow_succ]
  grind
theorem getD_lt {xs : List Nat} (h : Digs B16 xs) (i : Nat) : xs.getD i 0 < 65536 := by
 rcases Nat.lt_or_ge i xs.length with hi | hi
 . rw [List.getD_eq_getElem?_getD, List.getElem?_eq_getElem hi]; exact h.get i hi
 . rw [List.getD_eq_getElem?_getD, List.getElem?_eq_none hi]; show 0 < 65536; omega
theorem rd_getD (xs : List Nat) (i : Nat) : rd (ints xs) (i : Int) = ((xs.getD i 0 : Nat) : Int) := by
 unfold rd ints
 rw [Int.toNat_natCast, List.getD_eq_getElem?_getD, List.getD_eq_getElem?_getD, List.getElem?_map]
 cases xs[i]? <;> rfl
theorem sub_dig_step {O X Y c c2 x y t i : Nat} (ht : t + y + c = x + 65536 * c2) (hv : O + Y = X + c * B16 ^ i) :
  O + B16 ^ i * t + (Y + y * B16 ^ i) = X + x * B16 ^ i + c2 * B16 ^ (i + 1) := by
 rw [Nat.pow_succ, B16_eq]
 rw [B16_eq] at hv
 generalize 65536 ^ i = P at hv ⊢
 have h1 : P * (t + y + c) = P * (x + 65536 * c2) := by rw [ht]
 have h2 : P * t + P * y + P * c = P * x + c2 * (P * 65536) := by grind
 have e1 : y * P = P * y := Nat.mul_comm _ _
 have e2 : x * P = P * x := Nat.mul_comm _ _
 have e3 : c * P = P * c := Nat.mul_comm _ _
 rw [e3] at hv
 rw [e1, e2]
 omega
theorem wr64 {z : Int} (h1 : -9223372036854775808 <= z) (h2 : z < 9223372036854775808) : wrap64 z = z := Yh _ (by omega) (by omega)
theorem spec_Sub_l0 (xs ys : List Nat) (n : Nat) (hn : xs.length = n) (hm : ys.length <= n) (dx : Digs B16 xs) (dy : Digs B16 ys) (hle : val B16 ys <= val B16 xs) (hb : n <= 1099511627776) : ∀ (d i k c : Nat) (out : List Nat), d = n - i -> i <= n -> out.length = i -> c < 2 -> Digs B16 out →
  val B16 out + val B16 (ys.take i) = val B16 (xs.take i) + c * B16 ^ i →
  spec_Sub.l0 (k + n + d + 5) (ints xs) (ints ys) (ints out) (c : Int) (n : Int) (i : Int) = some (ints (ds (val B16 xs - val B16 ys))) := by
 intro d
 induction d with
 | zero =>
  intro i k c out hd hi ho hc hD hv
  have h1 : i = n := by omega
  subst h1
  rw [show k + i + 0 + 5 = (k + i + 4) + 1 by omega]
  simp only [spec_Sub.l0, Zf]
  rw [if_neg (by omega)]
  rw [spec_cut_f (by omega) (by omega) hD]
  rw [List.take_of_length_le (show xs.length <= i by omega), List.take_of_length_le hm] at hv
  have hlt := val_lt _ hD
  rw [ho] at hlt
  have hc0 : c = 0 := by
   rcases Nat.eq_zero_or_pos c with h | h
   . exact h
   .
    obtain rfl : c = 1 := by omega
    omega
  subst hc0
  have : val B16 out = val B16 xs - val B16 ys := by omega
  rw [this]; rfl
 | succ d ih =>
  intro i k c out hd hi ho hc hD hv
  obtain ⟨x, hx⟩ : ∃ x, xs.getD i 0 = x := ⟨_, rfl⟩
  obtain ⟨y, hy⟩ : ∃ y, ys.getD i 0 = y := ⟨_, rfl⟩
  have hxB : x < 65536 := hx ▸ getD_lt dx i
  have hyB : y < 65536 := hy ▸ getD_lt dy i
  have hrx : rd (ints xs) (i : Int) = (x : Int) := by rw [rd_getD, hx]
  have hry : rd (ints ys) (i : Int) = (y : Int) := by rw [rd_getD, hy]
  have HVV := Qq hv
  clear hv
  have hin : i < n := by omega
  have key : ∀ t c2 : Nat, t < 65536 -> c2 < 2 -> t + y + c = x + 65536 * c2 -> spec_Sub.l0 (k + n + d + 5) (ints xs) (ints ys) (ints out ++ [(t : Int)]) (c2 : Int) (n : Int) ((i + 1 : Nat) : Int) = some (ints (ds (val B16 xs - val B16 ys))) := by
   intro t c2 ht hc2 he
   have e4 : ints out ++ [(t : Int)] = ints (out ++ [t]) := by rw [ints_append]; rfl
   rw [e4]
   refine ih (i + 1) k c2 (out ++ [t]) (by omega) (by omega) (by rw [List.length_append, List.length_singleton, ho]) hc2 (hD.snoc (by show t < 65536; exact ht)) ?_
   rw [Yi, val_take_getD, val_take_getD, hx, hy, ho]
   exact sub_dig_step he HVV.out
  have KEY := Qq key
  have E3 := Qq (wr64 (z := (i : Int) + 1) (by omega) (by omega))
  have hol : (ints out).length < 17592186044416 := by rw [Zf]; omega
  rw [show k + n + (d + 1) + 5 = (k + n + d + 5) + 1 by omega]
  obtain ⟨K, hK⟩ : ∃ K, k + n + d + 5 = K := ⟨_, rfl⟩
  rw [hK] at KEY ⊢
  clear key ih hD HVV
  have W1 := Qq (wr64 (z := (x : Int) - (c : Int)) (by omega) (by omega))
  have W2 := Qq (wr64 (z := (x : Int) - (c : Int) - (y : Int)) (by omega) (by omega))
  have W3 := Qq (wr64 (z := (x : Int) - (c : Int) - (y : Int) + 65536) (by omega) (by omega))
  have W4 := Qq (wr64 (z := (x : Int) - (c : Int) + 65536) (by omega) (by omega))
  have I1 : (i : Int) < (n : Int) := by omega
  have I2 : (0 : Int) <= (i : Int) := by omega
  have I3 : (i : Int) < ((ints xs).length : Int) := by rw [Zf]; omega
  have I4 : (i : Int) + 1 = ((i + 1 : Nat) : Int) := by omega
  simp only [spec_Sub.l0]
  rw [if_pos I1, if_pos I2, if_pos I3, hrx, hry, W1.out, W2.out, W3.out, W4.out, E3.out, I4]
  by_cases h3 : (i : Int) < ((ints ys).length : Int)
  .
   rw [if_pos h3]
   by_cases h4 : (x : Int) - (c : Int) - (y : Int) < 0
   .
    rw [if_pos h4, if_pos hol]
    have := KEY.out (x + 65536 - c - y) 1 (by omega) (by omega) (by omega)
    rw [show ((x + 65536 - c - y : Nat) : Int) = (x : Int) - (c : Int) - (y : Int) + 65536 by omega] at this
    exact this
   .
    rw [if_neg h4, if_pos hol]
    have := KEY.out (x - c - y) 0 (by omega) (by omega) (by omega)
    rw [show ((x - c - y : Nat) : Int) = (x : Int) - (c : Int) - (y : Int) by omega] at this
    exact this
  .
   rw [if_neg h3]
   have hy0 : y = 0 := by
    rw [Zf] at h3
    rw [<- hy, List.getD_eq_getElem?_getD, List.getElem?_eq_none (by omega)]; rfl
   subst hy0
   by_cases h4 : (x : Int) - (c : Int) < 0
   .
    rw [if_pos h4, if_pos hol]
    have := KEY.out (x + 65536 - c) 1 (by omega) (by omega) (by omega)
    rw [show ((x + 65536 - c : Nat) : Int) = (x : Int) - (c : Int) + 65536 by omega] at this
    exact this
   .
    rw [if_neg h4, if_pos hol]
    have := KEY.out (x - c) 0 (by omega) (by omega) (by omega)
    rw [show ((x - c : Nat) : Int) = (x : Int) - (c : Int) by omega] at this
    exact this
theorem spec_Sub_any (X Y : Nat) (h : Y <= X) (hl : (ds X).length <= 1099511627776) : ∃ k, spec_Sub.f k (ints (ds X)) (ints (ds Y)) = some (ints (ds (X - Y))) := by
 refine ⟨0 + (ds X).length + (ds X).length + 5, ?_⟩
 have h := spec_Sub_l0 (ds X) (ds Y) _ rfl (ds_len_mono h) (ds_ds _) (ds_ds _) (by rw [val_ds, val_ds]; exact h) hl (ds X).length 0 0 0 [] (by omega) (Nat.zero_le _) rfl (by omega) Digs.nil (by simp)
 rw [val_ds, val_ds] at h
 unfold spec_Sub.f
 rw [Zf]
 exact h
end Go.Proofs.YthkklkjldpcbkaaGreatDoor
