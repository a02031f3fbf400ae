/- For the claim of laws.FnInverse: SpecA, SpecM, SpecW, SpecI. -/
import Derived.Test.YthkklkjldpcbkaaGreatDoorLiSpec0
import Derived.Test.YthkklkjldpcbkaaGreatDoorLiDs
import Derived.Test.YthkklkjldpcbkaaGreatDoorLiA1
import Derived.Lib.EndianBits
import Derived.Lib.Hide
import Derived.Lib.VarintBits
set_option linter.unusedVariables false
set_option linter.unusedSimpArgs false
namespace Go.Proofs.YthkklkjldpcbkaaGreatDoor
open Go.RowKit Go.Proofs.YthkklkjldpcbkaaGreatDoor.PSpec Go.Proofs.YthkklkjldpcbkaaGreatDoorW.PrintWords Go.Proofs.YthkklkjldpcbkaaGreatDoorW.PrintLast Go.Proofs.YthkklkjldpcbkaaGreatDoorW.PrintMore
def ints (xs : List Nat) : List Int := xs.map fun (x : Nat) => (x : Int)
@[simp] theorem Zf (xs : List Nat) : (ints xs).length = xs.length := by simp [ints]
@[simp] theorem ints_nil : ints [] = [] := rfl
theorem ints_append (xs ys : List Nat) : ints (xs ++ ys) = ints xs ++ ints ys := by simp [ints]
theorem ints_take (xs : List Nat) (k : Nat) : (ints xs).take k = ints (xs.take k) := by simp [ints, List.map_take]
theorem ints_set (xs : List Nat) (k x : Nat) : (ints xs).set k (x : Int) = ints (xs.set k x) := by simp [ints, List.map_set]
theorem rd_ints (xs : List Nat) (k : Nat) (h : k < xs.length) : rd (ints xs) (k : Int) = ((xs[k] : Nat) : Int) := by
 unfold rd ints
 rw [Int.toNat_natCast, List.getD_eq_getElem?_getD, List.getElem?_map, List.getElem?_eq_getElem h]; rfl
theorem Yh (i : Int) (h0 : -9223372036854775808 <= i) (h1 : i < 9223372036854775808) : wrap64 i = i := by unfold wrap64; omega
theorem spec_cut_l0 : ∀ (n k : Nat) (xs : List Nat), xs.length = n -> n < k -> n < 9223372036854775807 -> Digs B16 xs -> spec_cut.l0 k (ints xs) = some (ints (ds (val B16 xs))) := by
 intro n
 induction n with
 | zero =>
  intro k xs hl hk _ _
  obtain ⟨k, rfl⟩ : ∃ m, k = m + 1 := ⟨k - 1, by omega⟩
  have : xs = [] := List.eq_nil_of_length_eq_zero hl
  subst this
  rw [val_nil, ds_zero]
  simp only [spec_cut.l0]
  rw [if_neg (by simp)]
 | succ n ih =>
  intro k xs hl hk hn hd
  obtain ⟨k, rfl⟩ : ∃ m, k = m + 1 := ⟨k - 1, by omega⟩
  obtain ⟨ys, d, rfl⟩ : ∃ ys d, xs = ys ++ [d] := ⟨xs.dropLast, xs.getLast (by intro h; rw [h] at hl; simp at hl), (List.dropLast_concat_getLast _).symm⟩
  have hyl : ys.length = n := by simpa using hl
  have e1 : (((ints (ys ++ [d])).length : Nat) : Int) = (n : Int) + 1 := by simp [hyl]
  have e2 : wrap64 ((n : Int) + 1 - 1) = (n : Int) := by rw [Yh] <;> omega
  have e3 : rd (ints (ys ++ [d])) (n : Int) = (d : Int) := by
   rw [rd_ints _ _ (by simp [hyl])]
   congr 1
   rw [List.getElem_append_right (by omega)]; simp [hyl]
  simp only [spec_cut.l0]
  rw [e1, if_pos (by omega), e2, if_pos (by omega), if_pos (by omega), e3]
  by_cases h0 : d = 0
  .
   subst h0
   have ht : (ys ++ [0]).take n = ys := List.take_left' hyl
   rw [if_pos (show ((0 : Nat) : Int) = 0 from rfl), if_pos (by omega), Int.toNat_natCast, ints_take, ht]
   rw [ih k ys hyl (by omega) (by omega) hd.left]
   congr 2
   rw [val_append]; simp
  .
   rw [if_neg (by omega)]
   congr 2
   refine (ds_val hd ?_).symm
   unfold Norm
   rw [List.getLast?_concat]
   simpa using h0
theorem spec_cut_f {k : Nat} {xs : List Nat} (hk : xs.length < k) (hn : xs.length < 9223372036854775807) (hd : Digs B16 xs) : spec_cut.f k (ints xs) = some (ints (ds (val B16 xs))) :=
 spec_cut_l0 xs.length k xs rfl hk hn hd
def w16 (w : Nat) : List Nat := [w % 65536, w / 65536 % 65536, w / 4294967296 % 65536, w / 281474976710656 % 65536]
theorem w16_digs (w : Nat) : Digs B16 (w16 w) := by
 intro x hx
 simp only [w16, List.mem_cons, List.not_mem_nil, or_false] at hx
 show x < 65536
 rcases hx with rfl | rfl | rfl | rfl <;> exact Nat.mod_lt _ (by omega)
theorem w16_val (w : Nat) (h : w < B64) : val B16 (w16 w) = w := by
 have : w < 18446744073709551616 := h
 have e : B16 = 65536 := rfl
 simp only [w16, Ye, val_nil, e]
 omega
def out16 (ws : List Nat) : List Nat := ws.flatMap w16
theorem out16_snoc (ws : List Nat) (w : Nat) : out16 (ws ++ [w]) = out16 ws ++ w16 w := by simp [out16]
theorem out16_len (ws : List Nat) : (out16 ws).length = 4 * ws.length := by
 induction ws with
 | nil => rfl
 | cons w ws ih => simp only [out16, List.flatMap_cons, List.length_append, List.length_cons] at ih ⊢; rw [ih]; simp [w16]; omega
theorem out16_digs (ws : List Nat) : Digs B16 (out16 ws) := by
 intro x hx
 obtain ⟨w, _, h⟩ := List.mem_flatMap.1 hx
 exact w16_digs w x h
theorem B64_pow : B64 = B16 ^ 4 := rfl
theorem out16_val (ws : List Nat) (h : Digs B64 ws) : val B16 (out16 ws) = val B64 ws := by
 induction ws with
 | nil => rfl
 | cons w ws ih =>
  show val B16 (w16 w ++ out16 ws) = _
  rw [val_append, w16_val w h.head, ih h.tail, Ye, B64_pow]; rfl
theorem and16 (a : Nat) (ha : a < 18446744073709551616) : Go.bits .and .u64 (a : Int) 65535 = ((a % 65536 : Nat) : Int) := by
 have h := bits_and_u64_nat a 65535 ha (by omega)
 rw [show a &&& 65535 = a % 65536 from Nat.and_two_pow_sub_one_eq_mod a 16] at h
 exact h
theorem of_digit (x j : Nat) (hx : x < B64) (hj : j < 4) : wrap64 (Go.bits .and .u64 (shr .u64 (x : Int) (wrap64 (16 * (j : Int)))) 65535) = (((w16 x).getD j 0 : Nat) : Int) := by
 have hx' : x < 18446744073709551616 := hx
 have e1 : wrap64 (16 * (j : Int)) = ((16 * j : Nat) : Int) := by rw [Yh] <;> omega
 have e2 : shr .u64 (x : Int) ((16 * j : Nat) : Int) = ((x / 2 ^ (16 * j) : Nat) : Int) := by
  unfold shr
  rw [Int.toNat_natCast, Nat.min_eq_left (by show 16 * j <= 64; omega)]
  push_cast; rfl
 have e3 : x / 2 ^ (16 * j) % 65536 = (w16 x).getD j 0 := by
  have p0 : (2 : Nat) ^ (16 * 0) = 1 := rfl
  have p1 : (2 : Nat) ^ (16 * 1) = 65536 := rfl
  have p2 : (2 : Nat) ^ (16 * 2) = 4294967296 := rfl
  have p3 : (2 : Nat) ^ (16 * 3) = 281474976710656 := rfl
  unfold w16
  clear e1 e2 hx hx'
  obtain rfl | rfl | rfl | rfl : j = 0 \/ j = 1 \/ j = 2 \/ j = 3 := by omega
  . rw [p0, Nat.div_one]; simp only [List.getD_cons_zero]
  . rw [p1]; simp only [List.getD_cons_succ, List.getD_cons_zero]
  . rw [p2]; simp only [List.getD_cons_succ, List.getD_cons_zero]
  . rw [p3]; simp only [List.getD_cons_succ, List.getD_cons_zero]
 have hq := Nat.div_le_self x (2 ^ (16 * j))
 rw [e1, e2]
 generalize x / 2 ^ (16 * j) = q at e3 hq ⊢
 rw [and16 q (by omega), Yh _ (by omega) (by omega), e3]
theorem w16_drop (x j : Nat) (hj : j < 4) : (w16 x).drop j = (w16 x).getD j 0 :: (w16 x).drop (j + 1) := by
 unfold w16
 obtain rfl | rfl | rfl | rfl : j = 0 \/ j = 1 \/ j = 2 \/ j = 3 := by omega
 all_goals rfl
theorem spec_Of_l1 (xs : List Nat) (n i x : Nat) (hx : x < B64) (n9 : Int) : ∀ (d j k : Nat) (out : List Nat), d = 4 - j -> j <= 4 -> out.length + d < 17592186044416 →
  spec_Of.l1 (k + d + 1) (ints out) (x : Int) (ints xs) n9 (i : Int) (j : Int) = spec_Of.l0 k (ints (out ++ (w16 x).drop j)) (ints xs) n9 (wrap64 ((i : Int) + 1)) := by
 intro d
 induction d with
 | zero =>
  intro j k out hd hj ho
  have : j = 4 := by omega
  subst this
  simp only [spec_Of.l1]
  rw [if_neg (by omega)]
  simp [w16]
 | succ d ih =>
  intro j k out hd hj ho
  have hlt : j < 4 := by omega
  obtain ⟨K, hK⟩ : ∃ K, k + (d + 1) = K := ⟨_, rfl⟩
  rw [hK]
  simp only [spec_Of.l1]
  have e1 : wrap64 (16 * (j : Int)) = ((16 * j : Nat) : Int) := by rw [Yh] <;> omega
  rw [if_pos (by omega), if_pos (by rw [e1]; omega), if_pos (by rw [Zf]; omega), of_digit x j hx hlt, Yh ((j : Int) + 1) (by omega) (by omega)]
  have e2 : ints out ++ [(((w16 x).getD j 0 : Nat) : Int)] = ints (out ++ [(w16 x).getD j 0]) := by rw [ints_append]; rfl
  rw [e2]
  have := ih (j + 1) k (out ++ [(w16 x).getD j 0]) (by omega) (by omega) (by rw [List.length_append, List.length_singleton]; omega)
  rw [show ((j + 1 : Nat) : Int) = (j : Int) + 1 from by omega, show k + d + 1 = K from by omega] at this
  rw [this, List.append_assoc, List.singleton_append, <- w16_drop x j hlt]
theorem spec_Of_l0 (xs : List Nat) (n : Nat) (hn : xs.length = n) (hd : Digs B64 xs) (hb : n <= 1099511627776) : ∀ (d i k : Nat), d = n - i -> i <= n -> spec_Of.l0 (k + 6 * d + 4 * n + 2) (ints (out16 (xs.take i))) (ints xs) (n : Int) (i : Int) = some (ints (ds (val B64 xs))) := by
 intro d
 induction d with
 | zero =>
  intro i k hdi hi
  have : i = n := by omega
  subst this
  rw [show k + 6 * 0 + 4 * i + 2 = (k + 4 * i + 1) + 1 from by omega]
  simp only [spec_Of.l0]
  rw [if_neg (by omega), List.take_of_length_le (by omega), spec_cut_f (by rw [out16_len]; omega) (by rw [out16_len]; omega) (out16_digs _)]
  rw [out16_val _ hd]; rfl
 | succ d ih =>
  intro i k hdi hi
  have hlt : i < n := by omega
  have := spec_Of_l1 xs n i xs[i] (hd.get i (by omega)) (n : Int) 4 0 (k + 1 + 6 * d + 4 * n + 2 - 1) (out16 (xs.take i)) rfl (by omega) (by rw [out16_len, List.length_take]; omega)
  obtain ⟨K, hK⟩ : ∃ K, k + 6 * (d + 1) + 4 * n + 1 = K := ⟨_, rfl⟩
  rw [show k + 6 * (d + 1) + 4 * n + 2 = K + 1 from by omega]
  rw [show k + 1 + 6 * d + 4 * n + 2 - 1 + 4 + 1 = K from by omega] at this
  rw [show ((0 : Nat) : Int) = 0 from rfl] at this
  simp only [spec_Of.l0]
  rw [if_pos (by omega), if_pos (by omega), if_pos (by rw [Zf]; omega), rd_ints xs i (by omega)]
  rw [this, List.drop_zero, <- out16_snoc, <- List.take_succ_eq_append_getElem (by omega), Yh _ (by omega) (by omega)]
  have h2 := ih (i + 1) k (by omega) (by omega)
  rw [show k + 1 + 6 * d + 4 * n + 2 - 1 = k + 6 * d + 4 * n + 2 from by omega]
  exact h2
theorem spec_Of_any (xs : List Nat) (hd : Digs B64 xs) (hb : xs.length <= 1099511627776) : ∃ k, spec_Of.f k (ints xs) = some (ints (ds (val B64 xs))) := by
 refine ⟨0 + 6 * xs.length + 4 * xs.length + 2, ?_⟩
 unfold spec_Of.f
 have := spec_Of_l0 xs xs.length rfl hd hb xs.length 0 0 rfl (Nat.zero_le _)
 simpa [out16] using this
theorem tmod16 (N : Nat) : Int.tmod (N : Int) 65536 = ((N % 65536 : Nat) : Int) := by rw [Int.tmod_eq_emod_of_nonneg (by omega)]; omega
theorem tdiv16 (N : Nat) : Int.tdiv (N : Int) 65536 = ((N / 65536 : Nat) : Int) := by rw [Int.tdiv_eq_ediv_of_nonneg (by omega)]; omega
theorem mul_digit (s x y c : Nat) (hs : s < B16) (hx : x < B16) (hy : y < B16) (hc : c < B16) :
  wrap64 ((c : Int) + (wrap64 ((s : Int) + (wrap64 ((x : Int) * (y : Int)))))) = ((c + s + x * y : Nat) : Int) /\ (c + s + x * y) / 65536 < B16 := by
 have hs' : s < 65536 := hs
 have hx' : x < 65536 := hx
 have hy' : y < 65536 := hy
 have hc' : c < 65536 := hc
 show _ /\ (c + s + x * y) / 65536 < 65536
 have h : x * y <= 65535 * 65535 := Nat.mul_le_mul (by omega) (by omega)
 have e1 : (x : Int) * (y : Int) = ((x * y : Nat) : Int) := by push_cast; rfl
 rw [e1]
 generalize x * y = p at h ⊢
 rw [Yh (p : Int) (by omega) (by omega), Yh ((s : Int) + (p : Int)) (by omega) (by omega), Yh ((c : Int) + ((s : Int) + (p : Int))) (by omega) (by omega)]
 constructor
 . omega
 . omega
theorem set_at {α : Type} (P Q : List α) (x y : α) : (P ++ x :: Q).set P.length y = P ++ y :: Q := by
 rw [List.set_append_right _ _ (Nat.le_refl _), Nat.sub_self]; rfl
theorem get_at (P Q : List Nat) (x : Nat) (h : P.length < (P ++ x :: Q).length) : (P ++ x :: Q)[P.length] = x := by
 rw [List.getElem_append_right (Nat.le_refl _)]; simp
theorem spec_Mul_l1 (us bs : List Nat) (i x m : Nat) (n18 : Int) (hm : bs.length = m) (hx : x < B16) (db : Digs B16 bs) : ∀ (S : List Nat) (j k c : Nat) (P R : List Nat), S.length + j = m -> P.length = i + j -> 0 < R.length -> c < B16 -> Digs B16 S →
  P.length + S.length + R.length < 4611686018427387904 -> ∃ r c', r.length = S.length /\ Digs B16 r /\ c' < B16 /\ val B16 r + c' * B16 ^ S.length = val B16 S + x * val B16 (bs.drop j) + c ∧
  spec_Mul.l1 (k + S.length + 1) (ints bs) (ints (P ++ (S ++ R))) (i : Int) (x : Int) (c : Int) (ints us) n18 (i : Int) (ints bs) (m : Int) (j : Int) = spec_Mul.l0 k (ints bs) (ints (P ++ (r ++ R.set 0 c'))) (ints us) n18 (wrap64 ((i : Int) + 1)) := by
 intro S
 induction S with
 | nil =>
  intro j k c P R hj hP hR hc _ hlen
  have hjm : j = m := by simpa using hj
  subst hjm
  refine ⟨[], c, rfl, Digs.nil, hc, by rw [List.drop_of_length_le (by omega)]; simp, ?_⟩
  obtain ⟨r0, R', rfl⟩ : ∃ r0 R', R = r0 :: R' := by
   cases R with
   | nil => simp at hR
   | cons r0 R' => exact ⟨r0, R', rfl⟩
  simp only [List.nil_append, List.length_nil, Nat.add_zero] at hlen ⊢
  simp only [spec_Mul.l1, Zf]
  have e1 : wrap64 ((i : Int) + ((bs.length : Nat) : Int)) = ((P.length : Nat) : Int) := by rw [Yh] <;> omega
  rw [if_neg (by omega), e1, if_pos (by omega), if_pos (by simp only [List.length_append, List.length_cons] at hlen ⊢; omega), Int.toNat_natCast, ints_set, set_at]
  rfl
 | cons s S ih =>
  intro j k c P R hj hP hR hc hS hlen
  simp only [List.length_cons] at hj hlen
  have hlt : j < m := by omega
  obtain ⟨y, hy⟩ : ∃ y, bs[j]'(by omega) = y := ⟨_, rfl⟩
  have hyB : y < B16 := hy ▸ db.get j (by omega)
  have hdrop : bs.drop j = y :: bs.drop (j + 1) := by rw [<- hy]; exact List.drop_eq_getElem_cons (by omega)
  obtain ⟨e1, e2⟩ := mul_digit s x y c hS.head hx hyB hc
  obtain ⟨t, ht⟩ : ∃ t, c + s + x * y = t := ⟨_, rfl⟩
  rw [ht] at e1 e2
  have E1 := Qq e1
  clear e1
  obtain ⟨r, c', h1, h2, h3, h4, h5⟩ := ih (j + 1) k (t / 65536) (P ++ [t % 65536]) R (by omega) (by rw [List.length_append, List.length_singleton]; omega) hR e2 hS.tail (by rw [List.length_append, List.length_singleton]; omega)
  refine ⟨t % 65536 :: r, c', by simp [h1], h2.cons (Nat.mod_lt _ (by show 0 < 65536; omega)), h3, ?_, ?_⟩
  .
   rw [hdrop]
   simp only [Ye, List.length_cons, Nat.pow_succ]
   have hd := Nat.mod_add_div t 65536
   have eB : B16 = 65536 := rfl
   have h6 : B16 * (val B16 r + c' * B16 ^ S.length) = B16 * (val B16 S + x * val B16 (bs.drop (j + 1)) + t / 65536) := by rw [h4]
   rw [<- eB] at hd ⊢
   rw [<- eB] at h6
   grind
  .
   clear h4 h2 ih
   obtain ⟨K, hK⟩ : ∃ K, k + (S.length + 1) = K := ⟨_, rfl⟩
   rw [List.length_cons, hK]
   simp only [spec_Mul.l1, Zf]
   have e4 : rd (ints (P ++ (s :: S ++ R))) ((P.length : Nat) : Int) = (s : Int) := by
    rw [rd_ints _ _ (by simp)]
    congr 1
    exact get_at P (S ++ R) s (by simp)
   have e5 : rd (ints bs) (j : Int) = (y : Int) := by rw [rd_ints bs j (by omega), hy]
   have g1 : (j : Int) < (m : Int) := by omega
   have g2 : (0 : Int) <= (j : Int) := by omega
   have g3 : (j : Int) < ((bs.length : Nat) : Int) := by omega
   have g4 : (0 : Int) <= ((P.length : Nat) : Int) := by omega
   have g5 : ((P.length : Nat) : Int) < (((P ++ (s :: S ++ R)).length : Nat) : Int) := by simp only [List.length_append, List.length_cons]; omega
   have b1 : -9223372036854775808 <= (i : Int) + (j : Int) /\ (i : Int) + (j : Int) < 9223372036854775808 := by omega
   have b2 : -9223372036854775808 <= ((t / 65536 : Nat) : Int) /\ ((t / 65536 : Nat) : Int) < 9223372036854775808 := by have : t / 65536 < 65536 := e2; omega
   have b3 : -9223372036854775808 <= (j : Int) + 1 /\ (j : Int) + 1 < 9223372036854775808 := by omega
   have b4 : (i : Int) + (j : Int) = ((P.length : Nat) : Int) := by omega
   have e3 : wrap64 ((i : Int) + (j : Int)) = ((P.length : Nat) : Int) := by rw [Yh _ b1.1 b1.2, b4]
   have g6 := Yh _ b2.1 b2.2
   have g7 := Yh _ b3.1 b3.2
   have e1 := E1.out
   rw [if_pos g1, if_pos g2, if_pos g3, e3, if_pos g4, if_pos g5, e4, e5, e1, tmod16, tdiv16, g6, g7, Int.toNat_natCast, ints_set]
   rw [show P ++ (s :: S ++ R) = P ++ s :: (S ++ R) from rfl, set_at, show P ++ t % 65536 :: (S ++ R) = (P ++ [t % 65536]) ++ (S ++ R) from by simp]
   clear e3 g6 g7 e1
   rw [show k + S.length + 1 = K from by omega, show ((j + 1 : Nat) : Int) = (j : Int) + 1 from by omega] at h5
   rw [h5]
   simp
theorem spec_Mul_l0 (us bs : List Nat) (n m : Nat) (hn : us.length = n) (hm : bs.length = m) (da : Digs B16 us) (db : Digs B16 bs) (hlen : n + m < 4611686018427387904) : ∀ (d i k : Nat) (Z : List Nat), d + i = n -> Z.length = i + m -> Digs B16 Z -> val B16 Z = val B16 (us.take i) * val B16 bs →
  spec_Mul.l0 (k + d * (m + 2) + (n + m) + 2) (ints bs) (ints (Z ++ List.replicate d 0)) (ints us) (n : Int) (i : Int) = some (ints (ds (val B16 us * val B16 bs))) := by
 intro d
 induction d with
 | zero =>
  intro i k Z hi hZ dZ hv
  have : i = n := by omega
  subst this
  rw [show k + 0 * (m + 2) + (i + m) + 2 = (k + (i + m) + 1) + 1 from by omega]
  simp only [spec_Mul.l0, List.replicate_zero, List.append_nil]
  rw [if_neg (by omega), spec_cut_f (by omega) (by omega) dZ, hv, List.take_of_length_le (by omega)]; rfl
 | succ d ih =>
  intro i k Z hi hZ dZ hv
  have hlt : i < n := by omega
  have hx := da.get i (by omega)
  obtain ⟨x, hxe⟩ : ∃ x, us[i]'(by omega) = x := ⟨_, rfl⟩
  rw [hxe] at hx
  have hzl : (Z.take i).length = i := by rw [List.length_take]; omega
  have hsl : (Z.drop i).length = m := by rw [List.length_drop]; omega
  obtain ⟨r, c', h1, h2, h3, h4, h5⟩ := spec_Mul_l1 us bs i x m (n : Int) hm hx db (Z.drop i) 0 (k + d * (m + 2) + (n + m) + 2) 0 (Z.take i) (List.replicate (d + 1) 0) (by omega) (by omega) (by simp) (by show 0 < 65536; omega) (dZ.drop i) (by rw [List.length_replicate]; omega)
  obtain ⟨K, hK⟩ : ∃ K, k + (d + 1) * (m + 2) + (n + m) + 1 = K := ⟨_, rfl⟩
  have hmul : (d + 1) * (m + 2) = d * (m + 2) + (m + 2) := Nat.succ_mul _ _
  rw [show k + (d + 1) * (m + 2) + (n + m) + 2 = K + 1 from by omega]
  rw [hsl, show k + d * (m + 2) + (n + m) + 2 + m + 1 = K from by omega, <- List.append_assoc, List.take_append_drop, show ((0 : Nat) : Int) = 0 from rfl] at h5
  simp only [spec_Mul.l0]
  rw [if_pos (by omega), if_pos (by omega), if_pos (by rw [Zf]; omega), rd_ints us i (by omega), hxe, Zf bs, hm]
  rw [h5, Yh _ (by omega) (by omega)]
  have e1 : (List.replicate (d + 1) 0).set 0 c' = c' :: List.replicate d 0 := rfl
  have e2 : Z.take i ++ (r ++ (c' :: List.replicate d 0)) = (Z.take i ++ r ++ [c']) ++ List.replicate d 0 := by simp
  rw [e1, e2, show ((i : Nat) : Int) + 1 = ((i + 1 : Nat) : Int) from by omega]
  refine ih (i + 1) k (Z.take i ++ r ++ [c']) (by omega) (by simp only [List.length_append, List.length_singleton]; omega) (((dZ.take i).append h2).append (Digs.cons h3 Digs.nil)) ?_
  have e3 : val B16 (us.take (i + 1)) = val B16 (us.take i) + B16 ^ i * x := by rw [val_take_succ us i (by omega), hxe]
  have e4 : val B16 Z = val B16 (Z.take i) + B16 ^ i * val B16 (Z.drop i) := Zq Z i (by omega)
  have e5 : val B16 (Z.take i ++ r ++ [c']) = val B16 (Z.take i) + B16 ^ i * (val B16 r + c' * B16 ^ m) := by
   rw [List.append_assoc, val_append, hzl, val_append, h1, hsl]
   simp only [Ye, val_nil]
   grind
  rw [hsl, List.drop_zero] at h4
  rw [e5, h4, e3]
  have h6 : val B16 (Z.take i) + B16 ^ i * val B16 (Z.drop i) = val B16 (us.take i) * val B16 bs := by rw [<- e4]; exact hv
  grind
theorem spec_Mul_any (us bs : List Nat) (da : Digs B16 us) (db : Digs B16 bs) (hlen : us.length + bs.length <= 35184372088832) : ∃ k, spec_Mul.f k (ints us) (ints bs) = some (ints (ds (val B16 us * val B16 bs))) := by
 have h := spec_Mul_l0 us bs us.length bs.length rfl rfl da db (by omega) us.length 0 0 (List.replicate bs.length 0) (by omega) (by simp) (Digs.replicate (by show 0 < 65536; omega) _) (by rw [val_replicate]; simp)
 refine ⟨0 + us.length * (bs.length + 2) + (us.length + bs.length) + 2, ?_⟩
 unfold spec_Mul.f
 rw [Zf, Zf, Yh _ (by omega) (by omega), if_pos (by omega), if_pos (by omega)]
 have e : List.replicate ((us.length : Int) + (bs.length : Int)).toNat (0 : Int) = ints (List.replicate bs.length 0 ++ List.replicate us.length 0) := by
  rw [List.replicate_append_replicate]
  unfold ints
  rw [List.map_replicate, show ((us.length : Int) + (bs.length : Int)).toNat = bs.length + us.length from by omega]; rfl
 rw [e]
 exact h
theorem ds_empty (N : Nat) : (ds N).length = 0 ↔ N = 0 := by
 constructor
 .
  intro h
  have h1 := List.eq_nil_of_length_eq_zero h
  have h2 := val_ds N
  rw [h1, val_nil] at h2; omega
 . rintro rfl; rw [ds_zero]; rfl
theorem spec_In_any (neg : Bool) (xs : List Nat) (hd : Digs B64 xs) (hb : xs.length <= 1099511627776) : ∃ k, spec_In.f k neg (ints xs) = some (neg && decide (val B64 xs ≠ 0), ints (ds (val B64 xs))) := by
 obtain ⟨k, hk⟩ := spec_Of_any xs hd hb
 refine ⟨k, ?_⟩
 unfold spec_In.f
 rw [hk, Option.bind_some]
 have h := ds_empty (val B64 xs)
 cases neg with
 | false => simp
 | true =>
  rw [if_pos rfl, Zf]
  congr 2
  by_cases h0 : val B64 xs = 0
  . simp [h0, ds_zero]
  .
   have : 0 < (ds (val B64 xs)).length := by have := mt h.1 h0; omega
   simp [h0, this]
end Go.Proofs.YthkklkjldpcbkaaGreatDoor
