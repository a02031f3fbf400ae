/- For the claim of laws.FnGcd: SpecA, SpecM, SpecW, SpecI. -/
import Derived.Test.YthkklkjldpcbkaaGreatDoorLgSpec0
import Derived.Test.YthkklkjldpcbkaaGreatDoorLgDs
import Derived.Test.YthkklkjldpcbkaaGreatDoorLgA1
import Derived.Lib.EndianBits
import Derived.Lib.Hide
import Derived.Lib.VarintBits
set_option linter.unusedVariables false
set_option linter.unusedSimpArgs false
namespace Go.Proofs.YthkklkjldpcbkaaGreatDoor
open Go.RowKit Go.Proofs.YthkklkjldpcbkaaGreatDoor.PSpec Go.Proofs.YthkklkjldpcbkaaGreatDoorW.PrintWords Go.Proofs.YthkklkjldpcbkaaGreatDoorW.PrintLast Go.Proofs.YthkklkjldpcbkaaGreatDoorW.PrintMore
def ints (xs : List Nat) : List Int := xs.map fun (x : Nat) => (x : Int)
@[simp] theorem Zf (xs : List Nat) : (ints xs).length = xs.length := by simp [ints]
@[simp] theorem ints_nil : ints [] = [] := rfl
theorem ints_append (xs ys : List Nat) : ints (xs ++ ys) = ints xs ++ ints ys := by simp [ints]
theorem ints_take (xs : List Nat) (k : Nat) : (ints xs).take k = ints (xs.take k) := by simp [ints, List.map_take]
theorem ints_set (xs : List Nat) (k x : Nat) : (ints xs).set k (x : Int) = ints (xs.set k x) := by simp [ints, List.map_set]
theorem rd_ints (xs : List Nat) (k : Nat) (h : k < xs.length) : rd (ints xs) (k : Int) = ((xs[k] : Nat) : Int) := by
 unfold rd ints
 rw [Int.toNat_natCast, List.getD_eq_getElem?_getD, List.getElem?_map, List.getElem?_eq_getElem h]; rfl
theorem Zt (i : Int) (h0 : -9223372036854775808 <= i) (h1 : i < 9223372036854775808) : wrap64 i = i := by unfold wrap64; omega
theorem spec_cut_l0 : ∀ (n k : Nat) (xs : List Nat), xs.length = n -> n < k -> n < 9223372036854775807 -> Digs B16 xs -> spec_cut.l0 k (ints xs) = some (ints (ds (val B16 xs))) := by
 intro n
 induction n with
 | zero =>
  intro k xs hl hk _ _
  obtain ⟨k, rfl⟩ : ∃ m, k = m + 1 := ⟨k - 1, by omega⟩
  have : xs = [] := List.eq_nil_of_length_eq_zero hl
  subst this
  rw [val_nil, ds_zero]
  simp only [spec_cut.l0]
  rw [if_neg (by simp)]
 | succ n ih =>
  intro k xs hl hk hn hd
  obtain ⟨k, rfl⟩ : ∃ m, k = m + 1 := ⟨k - 1, by omega⟩
  obtain ⟨ys, d, rfl⟩ : ∃ ys d, xs = ys ++ [d] := ⟨xs.dropLast, xs.getLast (by intro h; rw [h] at hl; simp at hl), (List.dropLast_concat_getLast _).symm⟩
  have hyl : ys.length = n := by simpa using hl
  have e1 : (((ints (ys ++ [d])).length : Nat) : Int) = (n : Int) + 1 := by simp [hyl]
  have e2 : wrap64 ((n : Int) + 1 - 1) = (n : Int) := by rw [Zt] <;> omega
  have e3 : rd (ints (ys ++ [d])) (n : Int) = (d : Int) := by
   rw [rd_ints _ _ (by simp [hyl])]
   congr 1
   rw [List.getElem_append_right (by omega)]; simp [hyl]
  simp only [spec_cut.l0]
  rw [e1, if_pos (by omega), e2, if_pos (by omega), if_pos (by omega), e3]
  by_cases h0 : d = 0
  .
   subst h0
   have ht : (ys ++ [0]).take n = ys := List.take_left' hyl
   rw [if_pos (show ((0 : Nat) : Int) = 0 from rfl), if_pos (by omega), Int.toNat_natCast, ints_take, ht]
   rw [ih k ys hyl (by omega) (by omega) hd.left]
   congr 2
   rw [Yo]; simp
  .
   rw [if_neg (by omega)]
   congr 2
   refine (ds_val hd ?_).symm
   unfold Norm
   rw [List.getLast?_concat]
   simpa using h0
theorem spec_cut_f {k : Nat} {xs : List Nat} (hk : xs.length < k) (hn : xs.length < 9223372036854775807) (hd : Digs B16 xs) : spec_cut.f k (ints xs) = some (ints (ds (val B16 xs))) :=
 spec_cut_l0 xs.length k xs rfl hk hn hd
def w16 (w : Nat) : List Nat := [w % 65536, w / 65536 % 65536, w / 4294967296 % 65536, w / 281474976710656 % 65536]
theorem w16_digs (w : Nat) : Digs B16 (w16 w) := by
 intro x hx
 simp only [w16, List.mem_cons, List.not_mem_nil, or_false] at hx
 show x < 65536
 rcases hx with rfl | rfl | rfl | rfl <;> exact Nat.mod_lt _ (by omega)
theorem w16_val (w : Nat) (h : w < B64) : val B16 (w16 w) = w := by
 have : w < 18446744073709551616 := h
 have e : B16 = 65536 := rfl
 simp only [w16, Yj, val_nil, e]
 omega
def out16 (ws : List Nat) : List Nat := ws.flatMap w16
theorem out16_snoc (ws : List Nat) (w : Nat) : out16 (ws ++ [w]) = out16 ws ++ w16 w := by simp [out16]
theorem out16_len (ws : List Nat) : (out16 ws).length = 4 * ws.length := by
 induction ws with
 | nil => rfl
 | cons w ws ih => simp only [out16, List.flatMap_cons, List.length_append, List.length_cons] at ih ⊢; rw [ih]; simp [w16]; omega
theorem out16_digs (ws : List Nat) : Digs B16 (out16 ws) := by
 intro x hx
 obtain ⟨w, _, h⟩ := List.mem_flatMap.1 hx
 exact w16_digs w x h
theorem B64_pow : B64 = B16 ^ 4 := rfl
theorem out16_val (ws : List Nat) (h : Digs B64 ws) : val B16 (out16 ws) = val B64 ws := by
 induction ws with
 | nil => rfl
 | cons w ws ih =>
  show val B16 (w16 w ++ out16 ws) = _
  rw [Yo, w16_val w h.head, ih h.tail, Yj, B64_pow]; rfl
theorem and16 (a : Nat) (ha : a < 18446744073709551616) : Go.bits .and .u64 (a : Int) 65535 = ((a % 65536 : Nat) : Int) := by
 have h := bits_and_u64_nat a 65535 ha (by omega)
 rw [show a &&& 65535 = a % 65536 from Nat.and_two_pow_sub_one_eq_mod a 16] at h
 exact h
theorem of_digit (x j : Nat) (hx : x < B64) (hj : j < 4) : wrap64 (Go.bits .and .u64 (shr .u64 (x : Int) (wrap64 (16 * (j : Int)))) 65535) = (((w16 x).getD j 0 : Nat) : Int) := by
 have hx' : x < 18446744073709551616 := hx
 have e1 : wrap64 (16 * (j : Int)) = ((16 * j : Nat) : Int) := by rw [Zt] <;> omega
 have e2 : shr .u64 (x : Int) ((16 * j : Nat) : Int) = ((x / 2 ^ (16 * j) : Nat) : Int) := by
  unfold shr
  rw [Int.toNat_natCast, Nat.min_eq_left (by show 16 * j <= 64; omega)]
  push_cast; rfl
 have e3 : x / 2 ^ (16 * j) % 65536 = (w16 x).getD j 0 := by
  have p0 : (2 : Nat) ^ (16 * 0) = 1 := rfl
  have p1 : (2 : Nat) ^ (16 * 1) = 65536 := rfl
  have p2 : (2 : Nat) ^ (16 * 2) = 4294967296 := rfl
  have p3 : (2 : Nat) ^ (16 * 3) = 281474976710656 := rfl
  unfold w16
  clear e1 e2 hx hx'
  obtain rfl | rfl | rfl | rfl : j = 0 \/ j = 1 \/ j = 2 \/ j = 3 := by omega
  . rw [p0, Nat.div_one]; simp only [List.getD_cons_zero]
  . rw [p1]; simp only [List.getD_cons_succ, List.getD_cons_zero]
  . rw [p2]; simp only [List.getD_cons_succ, List.getD_cons_zero]
  . rw [p3]; simp only [List.getD_cons_succ, List.getD_cons_zero]
 have hq := Nat.div_le_self x (2 ^ (16 * j))
 rw [e1, e2]
 generalize x / 2 ^ (16 * j) = q at e3 hq ⊢
 rw [and16 q (by omega), Zt _ (by omega) (by omega), e3]
theorem w16_drop (x j : Nat) (hj : j < 4) : (w16 x).drop j = (w16 x).getD j 0 :: (w16 x).drop (j + 1) := by
 unfold w16
 obtain rfl | rfl | rfl | rfl : j = 0 \/ j = 1 \/ j = 2 \/ j = 3 := by omega
 all_goals rfl
theorem spec_Of_l1 (xs : List Nat) (n i x : Nat) (hx : x < B64) (n9 : Int) : ∀ (d j k : Nat) (out : List Nat), d = 4 - j -> j <= 4 -> out.length + d < 17592186044416 →
  spec_Of.l1 (k + d + 1) (ints out) (x : Int) (ints xs) n9 (i : Int) (j : Int) = spec_Of.l0 k (ints (out ++ (w16 x).drop j)) (ints xs) n9 (wrap64 ((i : Int) + 1)) := by
 intro d
 induction d with
 | zero =>
  intro j k out hd hj ho
  have : j = 4 := by omega
  subst this
  simp only [spec_Of.l1]
  rw [if_neg (by omega)]
  simp [w16]
 | succ d ih =>
  intro j k out hd hj ho
  have hlt : j < 4 := by omega
  obtain ⟨K, hK⟩ : ∃ K, k + (d + 1) = K := ⟨_, rfl⟩
  rw [hK]
  simp only [spec_Of.l1]
  have e1 : wrap64 (16 * (j : Int)) = ((16 * j : Nat) : Int) := by rw [Zt] <;> omega
  rw [if_pos (by omega), if_pos (by rw [e1]; omega), if_pos (by rw [Zf]; omega), of_digit x j hx hlt, Zt ((j : Int) + 1) (by omega) (by omega)]
  have e2 : ints out ++ [(((w16 x).getD j 0 : Nat) : Int)] = ints (out ++ [(w16 x).getD j 0]) := by rw [ints_append]; rfl
  rw [e2]
  have := ih (j + 1) k (out ++ [(w16 x).getD j 0]) (by omega) (by omega) (by rw [List.length_append, List.length_singleton]; omega)
  rw [show ((j + 1 : Nat) : Int) = (j : Int) + 1 from by omega, show k + d + 1 = K from by omega] at this
  rw [this, List.append_assoc, List.singleton_append, <- w16_drop x j hlt]
theorem spec_Of_l0 (xs : List Nat) (n : Nat) (hn : xs.length = n) (hd : Digs B64 xs) (hb : n <= 1099511627776) : ∀ (d i k : Nat), d = n - i -> i <= n -> spec_Of.l0 (k + 6 * d + 4 * n + 2) (ints (out16 (xs.take i))) (ints xs) (n : Int) (i : Int) = some (ints (ds (val B64 xs))) := by
 intro d
 induction d with
 | zero =>
  intro i k hdi hi
  have : i = n := by omega
  subst this
  rw [show k + 6 * 0 + 4 * i + 2 = (k + 4 * i + 1) + 1 from by omega]
  simp only [spec_Of.l0]
  rw [if_neg (by omega), List.take_of_length_le (by omega), spec_cut_f (by rw [out16_len]; omega) (by rw [out16_len]; omega) (out16_digs _)]
  rw [out16_val _ hd]; rfl
 | succ d ih =>
  intro i k hdi hi
  have hlt : i < n := by omega
  have := spec_Of_l1 xs n i xs[i] (hd.get i (by omega)) (n : Int) 4 0 (k + 1 + 6 * d + 4 * n + 2 - 1) (out16 (xs.take i)) rfl (by omega) (by rw [out16_len, List.length_take]; omega)
  obtain ⟨K, hK⟩ : ∃ K, k + 6 * (d + 1) + 4 * n + 1 = K := ⟨_, rfl⟩
  rw [show k + 6 * (d + 1) + 4 * n + 2 = K + 1 from by omega]
  rw [show k + 1 + 6 * d + 4 * n + 2 - 1 + 4 + 1 = K from by omega] at this
  rw [show ((0 : Nat) : Int) = 0 from rfl] at this
  simp only [spec_Of.l0]
  rw [if_pos (by omega), if_pos (by omega), if_pos (by rw [Zf]; omega), rd_ints xs i (by omega)]
  rw [this, List.drop_zero, <- out16_snoc, <- List.take_succ_eq_append_getElem (by omega), Zt _ (by omega) (by omega)]
  have h2 := ih (i + 1) k (by omega) (by omega)
  rw [show k + 1 + 6 * d + 4 * n + 2 - 1 = k + 6 * d + 4 * n + 2 from by omega]
  exact h2
theorem spec_Of_any (xs : List Nat) (hd : Digs B64 xs) (hb : xs.length <= 1099511627776) : ∃ k, spec_Of.f k (ints xs) = some (ints (ds (val B64 xs))) := by
 refine ⟨0 + 6 * xs.length + 4 * xs.length + 2, ?_⟩
 unfold spec_Of.f
 have := spec_Of_l0 xs xs.length rfl hd hb xs.length 0 0 rfl (Nat.zero_le _)
 simpa [out16] using this
theorem tmod16 (N : Nat) : Int.tmod (N : Int) 65536 = ((N % 65536 : Nat) : Int) := by rw [Int.tmod_eq_emod_of_nonneg (by omega)]; omega
theorem tdiv16 (N : Nat) : Int.tdiv (N : Int) 65536 = ((N / 65536 : Nat) : Int) := by rw [Int.tdiv_eq_ediv_of_nonneg (by omega)]; omega
theorem mul_digit (s x y c : Nat) (hs : s < B16) (hx : x < B16) (hy : y < B16) (hc : c < B16) :
  wrap64 ((c : Int) + (wrap64 ((s : Int) + (wrap64 ((x : Int) * (y : Int)))))) = ((c + s + x * y : Nat) : Int) /\ (c + s + x * y) / 65536 < B16 := by
 have hs' : s < 65536 := hs
 have hx' : x < 65536 := hx
 have hy' : y < 65536 := hy
 have hc' : c < 65536 := hc
 show _ /\ (c + s + x * y) / 65536 < 65536
 have h : x * y <= 65535 * 65535 := Nat.mul_le_mul (by omega) (by omega)
 have e1 : (x : Int) * (y : Int) = ((x * y : Nat) : Int) := by push_cast; rfl
 rw [e1]
 generalize x * y = p at h ⊢
 rw [Zt (p : Int) (by omega) (by omega), Zt ((s : Int) + (p : Int)) (by omega) (by omega), Zt ((c : Int) + ((s : Int) + (p : Int))) (by omega) (by omega)]
 constructor
 . omega
 . omega
theorem set_at {α : Type} (P Q : List α) (x y : α) : (P ++ x :: Q).set P.length y = P ++ y :: Q := by
 rw [List.set_append_right _ _ (Nat.le_refl _), Nat.sub_self]; rfl
theorem get_at (P Q : List Nat) (x : Nat) (h : P.length < (P ++ x :: Q).length) : (P ++ x :: Q)[P.length] = x := by
 rw [List.getElem_append_right (Nat.le_refl _)]; simp
theorem spec_Mul_l1 (us bs : List Nat) (i x m : Nat) (n18 : Int) (hm : bs.length = m) (hx : x < B16) (db : Digs B16 bs) : ∀ (S : List Nat) (j k c : Nat) (P R : List Nat), S.length + j = m -> P.length = i + j -> 0 < R.length -> c < B16 -> Digs B16 S →
  P.length + S.length + R.length < 4611686018427387904 -> ∃ r c', r.length = S.length /\ Digs B16 r /\ c' < B16 /\ val B16 r + c' * B16 ^ S.length = val B16 S + x * val B16 (bs.drop j) + c ∧
  spec_Mul.l1 (k + S.length + 1) (ints bs) (ints (P ++ (S ++ R))) (i : Int) (x : Int) (c : Int) (ints us) n18 (i : Int) (ints bs) (m : Int) (j : Int) = spec_Mul.l0 k (ints bs) (ints (P ++ (r ++ R.set 0 c'))) (ints us) n18 (wrap64 ((i : Int) + 1)) := by
 intro S
 induction S with
 | nil =>
  intro j k c P R hj hP hR hc _ hlen
  have hjm : j = m := by simpa using hj
  subst hjm
  refine ⟨[], c, rfl, Digs.nil, hc, by rw [List.drop_of_length_le (by omega)]; simp, ?_⟩
  obtain ⟨r0, R', rfl⟩ : ∃ r0 R', R = r0 :: R' := by
   cases R with
   | nil => simp at hR
   | cons r0 R' => exact ⟨r0, R', rfl⟩
  simp only [List.nil_append, List.length_nil, Nat.add_zero] at hlen ⊢
  simp only [spec_Mul.l1, Zf]
  have e1 : wrap64 ((i : Int) + ((bs.length : Nat) : Int)) = ((P.length : Nat) : Int) := by rw [Zt] <;> omega
  rw [if_neg (by omega), e1, if_pos (by omega), if_pos (by simp only [List.length_append, List.length_cons] at hlen ⊢; omega), Int.toNat_natCast, ints_set, set_at]
  rfl
 | cons s S ih =>
  intro j k c P R hj hP hR hc hS hlen
  simp only [List.length_cons] at hj hlen
  have hlt : j < m := by omega
  obtain ⟨y, hy⟩ : ∃ y, bs[j]'(by omega) = y := ⟨_, rfl⟩
  have hyB : y < B16 := hy ▸ db.get j (by omega)
  have hdrop : bs.drop j = y :: bs.drop (j + 1) := by rw [<- hy]; exact List.drop_eq_getElem_cons (by omega)
  obtain ⟨e1, e2⟩ := mul_digit s x y c hS.head hx hyB hc
  obtain ⟨t, ht⟩ : ∃ t, c + s + x * y = t := ⟨_, rfl⟩
  rw [ht] at e1 e2
  have E1 := Qq e1
  clear e1
  obtain ⟨r, c', h1, h2, h3, h4, h5⟩ := ih (j + 1) k (t / 65536) (P ++ [t % 65536]) R (by omega) (by rw [List.length_append, List.length_singleton]; omega) hR e2 hS.tail (by rw [List.length_append, List.length_singleton]; omega)
  refine ⟨t % 65536 :: r, c', by simp [h1], h2.cons (Nat.mod_lt _ (by show 0 < 65536; omega)), h3, ?_, ?_⟩
  .
   rw [hdrop]
   simp only [Yj, List.length_cons, Nat.pow_succ]
   have hd := Nat.mod_add_div t 65536
   have eB : B16 = 65536 := rfl
   have h6 : B16 * (val B16 r + c' * B16 ^ S.length) = B16 * (val B16 S + x * val B16 (bs.drop (j + 1)) + t / 65536) := by rw [h4]
   rw [<- eB] at hd ⊢
   rw [<- eB] at h6
   grind
  .
   clear h4 h2 ih
   obtain ⟨K, hK⟩ : ∃ K, k + (S.length + 1) = K := ⟨_, rfl⟩
   rw [List.length_cons, hK]
   simp only [spec_Mul.l1, Zf]
   have e4 : rd (ints (P ++ (s :: S ++ R))) ((P.length : Nat) : Int) = (s : Int) := by
    rw [rd_ints _ _ (by simp)]
    congr 1
    exact get_at P (S ++ R) s (by simp)
   have e5 : rd (ints bs) (j : Int) = (y : Int) := by rw [rd_ints bs j (by omega), hy]
   have g1 : (j : Int) < (m : Int) := by omega
   have g2 : (0 : Int) <= (j : Int) := by omega
   have g3 : (j : Int) < ((bs.length : Nat) : Int) := by omega
   have g4 : (0 : Int) <= ((P.length : Nat) : Int) := by omega
   have g5 : ((P.length : Nat) : Int) < (((P ++ (s :: S ++ R)).length : Nat) : Int) := by simp only [List.length_append, List.length_cons]; omega
   have b1 : -9223372036854775808 <= (i : Int) + (j : Int) /\ (i : Int) + (j : Int) < 9223372036854775808 := by omega
   have b2 : -9223372036854775808 <= ((t / 65536 : Nat) : Int) /\ ((t / 65536 : Nat) : Int) < 9223372036854775808 := by have : t / 65536 < 65536 := e2; omega
   have b3 : -9223372036854775808 <= (j : Int) + 1 /\ (j : Int) + 1 < 9223372036854775808 := by omega
   have b4 : (i : Int) + (j : Int) = ((P.length : Nat) : Int) := by omega
   have e3 : wrap64 ((i : Int) + (j : Int)) = ((P.length : Nat) : Int) := by rw [Zt _ b1.1 b1.2, b4]
   have g6 := Zt _ b2.1 b2.2
   have g7 := Zt _ b3.1 b3.2
   have e1 := E1.out
   rw [if_pos g1, if_pos g2, if_pos g3, e3, if_pos g4, if_pos g5, e4, e5, e1, tmod16, tdiv16, g6, g7, Int.toNat_natCast, ints_set]
   rw [show P ++ (s :: S ++ R) = P ++ s :: (S ++ R) from rfl, set_at, show P ++ t % 65536 :: (S ++ R) = (P ++ [t % 65536]) ++ (S ++ R) from by simp]
   clear e3 g6 g7 e1
   rw [show k + S.length + 1 = K from by omega, show ((j + 1 : Nat) : Int) = (j : Int) + 1 from by omega] at h5
   rw [h5]
   simp
theorem spec_Mul_l0 (us bs : List Nat) (n m : Nat) (hn : us.length = n) (hm : bs.length = m) (da : Digs B16 us) (db : Digs B16 bs) (hlen : n + m < 4611686018427387904) : ∀ (d i k : Nat) (Z : List Nat), d + i = n -> Z.length = i + m -> Digs B16 Z -> val B16 Z = val B16 (us.take i) * val B16 bs →
  spec_Mul.l0 (k + d * (m + 2) + (n + m) + 2) (ints bs) (ints (Z ++ List.replicate d 0)) (ints us) (n : Int) (i : Int) = some (ints (ds (val B16 us * val B16 bs))) := by
 intro d
 induction d with
 | zero =>
  intro i k Z hi hZ dZ hv
  have : i = n := by omega
  subst this
  rw [show k + 0 * (m + 2) + (i + m) + 2 = (k + (i + m) + 1) + 1 from by omega]
  simp only [spec_Mul.l0, List.replicate_zero, List.append_nil]
  rw [if_neg (by omega), spec_cut_f (by omega) (by omega) dZ, hv, List.take_of_length_le (by omega)]; rfl
 | succ d ih =>
  intro i k Z hi hZ dZ hv
  have hlt : i < n := by omega
  have hx := da.get i (by omega)
  obtain ⟨x, hxe⟩ : ∃ x, us[i]'(by omega) = x := ⟨_, rfl⟩
  rw [hxe] at hx
  have hzl : (Z.take i).length = i := by rw [List.length_take]; omega
  have hsl : (Z.drop i).length = m := by rw [List.length_drop]; omega
  obtain ⟨r, c', h1, h2, h3, h4, h5⟩ := spec_Mul_l1 us bs i x m (n : Int) hm hx db (Z.drop i) 0 (k + d * (m + 2) + (n + m) + 2) 0 (Z.take i) (List.replicate (d + 1) 0) (by omega) (by omega) (by simp) (by show 0 < 65536; omega) (dZ.drop i) (by rw [List.length_replicate]; omega)
  obtain ⟨K, hK⟩ : ∃ K, k + (d + 1) * (m + 2) + (n + m) + 1 = K := ⟨_, rfl⟩
  have hmul : (d + 1) * (m + 2) = d * (m + 2) + (m + 2) := Nat.succ_mul _ _
  rw [show k + (d + 1) * (m + 2) + (n + m) + 2 = K + 1 from by omega]
  rw [hsl, show k + d * (m + 2) + (n + m) + 2 + m + 1 = K from by omega, <- List.append_assoc, List.take_append_drop, show ((0 : Nat) : Int) = 0 from rfl] at h5
  simp only [spec_Mul.l0]
  rw [if_pos (by omega), if_pos (by omega), if_pos (by rw [Zf]; omega), rd_ints us i (by omega), hxe, Zf bs, hm]
  rw [h5, Zt _ (by omega) (by omega)]
  have e1 : (List.replicate (d + 1) 0).set 0 c' = c' :: List.replicate d 0 := rfl
  have e2 : Z.take i ++ (r ++ (c' :: List.replicate d 0)) = (Z.take i ++ r ++ [c']) ++ List.replicate d 0 := by simp
  rw [e1, e2, show ((i : Nat) : Int) + 1 = ((i + 1 : Nat) : Int) from by omega]
  refine ih (i + 1) k (Z.take i ++ r ++ [c']) (by omega) (by simp only [List.length_append, List.length_singleton]; omega) (((dZ.take i).append h2).append (Digs.cons h3 Digs.nil)) ?_
  have e3 : val B16 (us.take (i + 1)) = val B16 (us.take i) + B16 ^ i * x := by rw [val_take_succ us i (by omega), hxe]
  have e4 : val B16 Z = val B16 (Z.take i) + B16 ^ i * val B16 (Z.drop i) := Zs Z i (by omega)
  have e5 : val B16 (Z.take i ++ r ++ [c']) = val B16 (Z.take i) + B16 ^ i * (val B16 r + c' * B16 ^ m) := by
   rw [List.append_assoc, Yo, hzl, Yo, h1, hsl]
   simp only [Yj, val_nil]
   grind
  rw [hsl, List.drop_zero] at h4
  rw [e5, h4, e3]
  have h6 : val B16 (Z.take i) + B16 ^ i * val B16 (Z.drop i) = val B16 (us.take i) * val B16 bs := by rw [<- e4]; exact hv
  grind
theorem spec_Mul_any (us bs : List Nat) (da : Digs B16 us) (db : Digs B16 bs) (hlen : us.length + bs.length <= 35184372088832) : ∃ k, spec_Mul.f k (ints us) (ints bs) = some (ints (ds (val B16 us * val B16 bs))) := by
 have h := spec_Mul_l0 us bs us.length bs.length rfl rfl da db (by omega) us.length 0 0 (List.replicate bs.length 0) (by omega) (by simp) (Digs.replicate (by show 0 < 65536; omega) _) (by rw [val_replicate]; simp)
 refine ⟨0 + us.length * (bs.length + 2) + (us.length + bs.length) + 2, ?_⟩
 unfold spec_Mul.f
 rw [Zf, Zf, Zt _ (by omega) (by omega), if_pos (by omega), if_pos (by omega)]
 have e : List.replicate ((us.length : Int) + (bs.length : Int)).toNat (0 : Int) = ints (List.replicate bs.length 0 ++ List.replicate us.length 0) := by
  rw [List.replicate_append_replicate]
  unfold ints
  rw [List.map_replicate, show ((us.length : Int) + (bs.length : Int)).toNat = bs.length + us.length from by omega]; rfl
 rw [e]
 exact h
theorem tmod4 (i : Nat) : Int.tmod (i : Int) 4 = ((i % 4 : Nat) : Int) := by rw [Int.tmod_eq_emod_of_nonneg (by omega)]; omega
theorem tdiv4 (i : Nat) : Int.tdiv (i : Int) 4 = ((i / 4 : Nat) : Int) := by rw [Int.tdiv_eq_ediv_of_nonneg (by omega)]; omega
theorem put_digit (p x r : Nat) (hr : r < 4) (hp : p < B16 ^ r) (hx : x < B16) :
  Go.bits .or .u64 (p : Int) (shl .u64 (IntKind.u64.wrap (x : Int)) (wrap64 (16 * (r : Int)))) = ((p + x * B16 ^ r : Nat) : Int) /\ p + x * B16 ^ r < B16 ^ (r + 1) := by
 have hx' : x < 65536 := hx
 have e0 : B16 ^ 0 = 1 := rfl
 have e1 : B16 ^ 1 = 65536 := rfl
 have e2 : B16 ^ 2 = 4294967296 := rfl
 have e3 : B16 ^ 3 = 281474976710656 := rfl
 have e4 : B16 ^ 4 = 18446744073709551616 := rfl
 have hs : ∀ y : Nat, y <= 48 -> x * 2 ^ y < 18446744073709551616 -> shl .u64 (IntKind.u64.wrap (x : Int)) (y : Int) = ((x * 2 ^ y : Nat) : Int) := fun y hy hlt => by
  unfold shl
  rw [wrapN x (by omega), Int.toNat_natCast, Nat.min_eq_left (by show y <= 64; omega)]
  have : (x : Int) * 2 ^ y = ((x * 2 ^ y : Nat) : Int) := by push_cast; rfl
  rw [this, wrapN _ hlt]
 have hw : wrap64 (16 * (r : Int)) = ((16 * r : Nat) : Int) := by rw [Zt] <;> omega
 rw [hw]
 clear hw
 obtain rfl | rfl | rfl | rfl : r = 0 \/ r = 1 \/ r = 2 \/ r = 3 := by omega
 .
  rw [e0] at hp ⊢
  have hp0 : p = 0 := by omega
  subst hp0
  have h2 : x * 2 ^ 0 = x := by rw [Nat.pow_zero, Nat.mul_one]
  rw [hs 0 (by omega) (by rw [h2]; omega), h2, u64_orv0 (y := ((0 : Nat) : Int)) (x := (x : Int)) (by omega) (by omega) (by omega) (by omega) (by omega)]
  exact ⟨by omega, by rw [e1]; omega⟩
 .
  rw [e1] at hp ⊢
  have h2 : x * 2 ^ (16 * 1) = x * 65536 := rfl
  rw [hs (16 * 1) (by omega) (by rw [h2]; omega), h2, u64_or16 (y := (p : Int)) (x := ((x * 65536 : Nat) : Int)) (by omega) (by omega) (by omega) (by omega) (by omega)]
  exact ⟨by omega, by rw [e2]; omega⟩
 .
  rw [e2] at hp ⊢
  have h2 : x * 2 ^ (16 * 2) = x * 4294967296 := rfl
  rw [hs (16 * 2) (by omega) (by rw [h2]; omega), h2, u64_or32 (y := (p : Int)) (x := ((x * 4294967296 : Nat) : Int)) (by omega) (by omega) (by omega) (by omega) (by omega)]
  exact ⟨by omega, by rw [e3]; omega⟩
 .
  rw [e3] at hp ⊢
  have h2 : x * 2 ^ (16 * 3) = x * 281474976710656 := rfl
  rw [hs (16 * 3) (by omega) (by rw [h2]; omega), h2, u64_or48 (y := (p : Int)) (x := ((x * 281474976710656 : Nat) : Int)) (by omega) (by omega) (by omega) (by omega) (by omega)]
  exact ⟨by omega, by rw [e4]; omega⟩
theorem val_one (b P : Nat) : val b [P] = P := by rw [Yj, val_nil, Nat.mul_zero, Nat.add_zero]
theorem words_full {b q P V : Nat} {init : List Nat} (hl : init.length = q) (h : val b init + b ^ q * P = V) : val b (init ++ [P]) + b ^ (q + 1) * 0 = V := by
 rw [Nat.mul_zero, Nat.add_zero, Yo, hl, val_one]; exact h
def part (r p : Nat) : List Nat := if r = 0 then [] else [p]
theorem words_next (xs : List Nat) (i q r P : Nat) (init : List Nat) (hr : r < 4) (hl : init.length = q) (hq : i = 4 * q + r) (hdi : Digs B64 init) (hlt2 : P < B16 ^ (r + 1)) (hv2 : val B64 init + B64 ^ q * P = val B16 (xs.take (i + 1))) :
  ∃ q' r' p' init', i + 1 = 4 * q' + r' /\ r' < 4 /\ p' < B16 ^ r' /\ init'.length = q' /\ Digs B64 init' /\ val B64 init' + B64 ^ q' * p' = val B16 (xs.take (i + 1)) /\ init' ++ part r' p' = init ++ [P] := by
 by_cases h3 : r = 3
 .
  refine ⟨q + 1, 0, 0, init ++ [P], by omega, by omega, by simp, by simp [hl], hdi.append (Digs.cons (by have h5 := hlt2; rw [show r + 1 = 4 from by omega] at h5; rw [B64_pow]; exact h5) Digs.nil), ?_, by simp [part]⟩
  exact words_full hl hv2
 . exact ⟨q, r + 1, P, init, by omega, by omega, hlt2, hl, hdi, hv2, by simp [part]⟩
theorem spec_Words_l0 (xs : List Nat) (n : Nat) (hn : xs.length = n) (hd : Digs B16 xs) (hb : n < 17592186044416) : ∀ (d i k q r p : Nat) (init : List Nat), d + i = n -> i = 4 * q + r -> r < 4 -> p < B16 ^ r -> init.length = q -> Digs B64 init →
  val B64 init + B64 ^ q * p = val B16 (xs.take i) -> ∃ out, spec_Words.l0 (k + d + 1) (ints (init ++ part r p)) (ints xs) (n : Int) (i : Int) = some (ints out) /\ Digs B64 out /\ val B64 out = val B16 xs /\ 4 * out.length < n + 4 := by
 intro d
 induction d with
 | zero =>
  intro i k q r p init hi hq hr hp hl hdi hv
  have HP := Qq (Qj hp hv)
  clear hp hv
  have : i = n := by omega
  subst this
  refine ⟨init ++ part r p, ?_, ?_, ?_, ?_⟩
  .
   simp only [spec_Words.l0]
   rw [if_neg (by omega)]
  .
   unfold part
   split
   . rw [List.append_nil]; exact hdi
   .
    refine hdi.append (Digs.cons (Nat.lt_of_lt_of_le HP.out.1 ?_) Digs.nil)
    rw [B64_pow]; exact Nat.pow_le_pow_right (by show 0 < 65536; omega) (by omega)
  .
   have hv := HP.out.2
   rw [List.take_of_length_le (Nat.le_of_eq hn)] at hv
   rw [<- hv, Yo, hl]
   unfold part
   split
   .
    rename_i h0
    subst h0
    have : p = 0 := by simpa using HP.out.1
    subst this; simp
   . simp
  .
   rw [List.length_append]
   unfold part
   split
   . simp only [List.length_nil]; omega
   . simp only [List.length_singleton]; omega
 | succ d ih =>
  intro i k q r p init hi hq hr hp hl hdi hv
  have HP := Qq (Qj hp hv)
  clear hp hv
  have hlt : i < n := by omega
  obtain ⟨x, hx⟩ : ∃ x, xs[i]'(by omega) = x := ⟨_, rfl⟩
  have hxB : x < B16 := hx ▸ hd.get i (by omega)
  obtain ⟨hput, hlt2⟩ := put_digit p x r hr HP.out.1 hxB
  have HPUT := Qq hput
  have HL2 := Qq hlt2
  clear hput hlt2
  have hlt' : i < xs.length := by omega
  have hv2 : val B64 init + B64 ^ q * (p + x * B16 ^ r) = val B16 (xs.take (i + 1)) := by
   rw [val_take_succ xs i hlt', hx, <- HP.out.2]
   have : B16 ^ i = B64 ^ q * B16 ^ r := by rw [B64_pow, <- Nat.pow_mul, <- Nat.pow_add, <- hq]
   rw [this]
   generalize B64 ^ q = a
   generalize B16 ^ r = c
   rw [Nat.mul_add, Nat.add_assoc, Nat.mul_comm x c, Nat.mul_assoc]
  have HV := Qq (Qj hv2 (Qj HL2.out HP.out.1))
  clear hv2
  -- the next round's state
  have hnext := words_next xs i q r (p + x * B16 ^ r) init hr hl hq hdi HV.out.2.1 HV.out.1
  obtain ⟨q', r', p', init', n1, n2, n3, n4, n5, n6, n7⟩ := hnext
  obtain ⟨out, o1, o2⟩ := ih (i + 1) k q' r' p' init' (by clear n1 n2 n3 n4 n5 n6 n7; omega) n1 n2 n3 n4 n5 n6
  refine ⟨out, ?_, o2⟩
  rw [n7] at o1
  clear n1 n2 n3 n4 n5 n6 n7 o2 ih
  obtain ⟨K, hK⟩ : ∃ K, k + (d + 1) = K := ⟨_, rfl⟩
  rw [hK]
  rw [show k + d + 1 = K from by omega, show ((i + 1 : Nat) : Int) = (i : Int) + 1 from by omega] at o1
  have hi4 : i % 4 = r := by omega
  have hq4 : i / 4 = q := by omega
  have g1 : (i : Int) < (n : Int) := by omega
  have g2 : (0 : Int) <= (i : Int) := by omega
  have g3 : (i : Int) < (((ints xs).length : Nat) : Int) := by rw [Zf]; omega
  have b1 : -9223372036854775808 <= ((q : Nat) : Int) /\ ((q : Nat) : Int) < 9223372036854775808 := by omega
  have b2 : -9223372036854775808 <= (i : Int) + 1 /\ (i : Int) + 1 < 9223372036854775808 := by omega
  have g4 : (0 : Int) <= ((q : Nat) : Int) := by omega
  have g5 : (0 : Int) <= ((16 * r : Nat) : Int) := by omega
  have b3 : -9223372036854775808 <= 16 * (r : Int) /\ 16 * (r : Int) < 9223372036854775808 := by omega
  have g5' : (0 : Int) <= 16 * (r : Int) := by omega
  have hrx : rd (ints xs) (i : Int) = (x : Int) := by rw [rd_ints xs i (by omega), hx]
  by_cases h0 : r = 0
  .
   subst h0
   have hp0 : p = 0 := by simpa using HV.out.2.2
   subst hp0
   have g6 : (ints init).length < 17592186044416 := by rw [Zf]; omega
   have g7 : ((q : Nat) : Int) < (((ints (init ++ [0])).length : Nat) : Int) := by rw [Zf, List.length_append, List.length_singleton]; omega
   have e8 : ints init ++ [0] = ints (init ++ [0]) := by rw [ints_append]; rfl
   have e9 : rd (ints (init ++ [0])) ((q : Nat) : Int) = ((0 : Nat) : Int) := by
    subst hl
    rw [rd_ints _ _ (by simp)]
    congr 1
    exact get_at init [] 0 (by simp)
   have hset : (init ++ [0]).set q (0 + x * B16 ^ 0) = init ++ [0 + x * B16 ^ 0] := by subst hl; exact set_at init [] 0 _
   have e7 := Zt _ b1.1 b1.2
   have e6 := Zt _ b2.1 b2.2
   have e5 := Zt _ b3.1 b3.2
   rw [show init ++ part 0 0 = init from List.append_nil _]
   rw [spec_Words.l0, tmod4, tdiv4, hi4, hq4, if_pos g1, if_pos g2, if_pos g3, if_pos (show ((0 : Nat) : Int) = 0 from rfl), if_pos g6, e8, Option.bind_some, e7, if_pos g4, if_pos g7, if_pos (by rw [e5]; exact g5'), e9, hrx, HPUT.out, Int.toNat_natCast, ints_set, hset, e6]
   exact o1
  .
   have g7 : ((q : Nat) : Int) < (((ints (init ++ [p])).length : Nat) : Int) := by rw [Zf, List.length_append, List.length_singleton]; omega
   have g8 : ¬ ((r : Nat) : Int) = 0 := by omega
   have e9 : rd (ints (init ++ [p])) ((q : Nat) : Int) = ((p : Nat) : Int) := by
    subst hl
    rw [rd_ints _ _ (by simp)]
    congr 1
    exact get_at init [] p (by simp)
   have hset : (init ++ [p]).set q (p + x * B16 ^ r) = init ++ [p + x * B16 ^ r] := by subst hl; exact set_at init [] p _
   have e7 := Zt _ b1.1 b1.2
   have e6 := Zt _ b2.1 b2.2
   have e5 := Zt _ b3.1 b3.2
   rw [show init ++ part r p = init ++ [p] from by unfold part; rw [if_neg h0]]
   rw [spec_Words.l0, tmod4, tdiv4, hi4, hq4, if_pos g1, if_pos g2, if_pos g3, if_neg g8, e7, if_pos g4, if_pos g7, if_pos (by rw [e5]; exact g5'), e9, hrx, HPUT.out, Int.toNat_natCast, ints_set, hset, e6]
   exact o1
theorem spec_Words_any (N : Nat) (hb : (ds N).length < 17592186044416) : ∃ k, spec_Words.f k (ints (ds N)) = some (ints (digs N)) := by
 obtain ⟨out, h1, h2, h3, h4⟩ := spec_Words_l0 (ds N) (ds N).length rfl (ds_ds N) hb (ds N).length 0 0 0 0 0 [] (by omega) (by omega) (by omega) (by simp) rfl Digs.nil (by simp)
 refine ⟨0 + (ds N).length + 1, ?_⟩
 unfold spec_Words.f
 rw [Zf]
 have h1' : spec_Words.l0 (0 + (ds N).length + 1) [] (ints (ds N)) ((ds N).length : Int) 0 = some (ints out) := by simpa [part] using h1
 rw [h1']
 congr 2
 rw [val_ds] at h3
 have e1 := digs_eq_take h2
 rw [h3] at e1
 have hle : out.length <= (digs N).length := by
  rcases Nat.lt_or_ge (digs N).length out.length with h | h
  .
   exfalso
   have a1 := Ym N
   have a2 : B64 ^ (digs N).length <= B64 ^ (out.length - 1) := Nat.pow_le_pow_right Zy (by omega)
   obtain ⟨m, hm⟩ : ∃ m, (ds N).length = m + 1 := ⟨(ds N).length - 1, by omega⟩
   have a3 : B16 ^ m <= N := le_of_ds_len hm
   have a4 : B64 ^ (out.length - 1) <= B16 ^ m := by
    rw [B64_pow, <- Nat.pow_mul]
    exact Nat.pow_le_pow_right (by show 0 < 65536; omega) (by omega)
   omega
  . exact h
 rw [e1, List.take_of_length_le hle]
theorem ds_empty (N : Nat) : (ds N).length = 0 ↔ N = 0 := by
 constructor
 .
  intro h
  have h1 := List.eq_nil_of_length_eq_zero h
  have h2 := val_ds N
  rw [h1, val_nil] at h2; omega
 . rintro rfl; rw [ds_zero]; rfl
theorem digs_empty (N : Nat) : (digs N).length = 0 ↔ N = 0 := by
 constructor
 .
  intro h
  have h1 := List.eq_nil_of_length_eq_zero h
  have h2 := Zv N
  rw [h1, val_nil] at h2; omega
 . rintro rfl; rw [Yi]; rfl
theorem spec_In_any (neg : Bool) (xs : List Nat) (hd : Digs B64 xs) (hb : xs.length <= 1099511627776) : ∃ k, spec_In.f k neg (ints xs) = some (neg && decide (val B64 xs ≠ 0), ints (ds (val B64 xs))) := by
 obtain ⟨k, hk⟩ := spec_Of_any xs hd hb
 refine ⟨k, ?_⟩
 unfold spec_In.f
 rw [hk, Option.bind_some]
 have h := ds_empty (val B64 xs)
 cases neg with
 | false => simp
 | true =>
  rw [if_pos rfl, Zf]
  congr 2
  by_cases h0 : val B64 xs = 0
  . simp [h0, ds_zero]
  .
   have : 0 < (ds (val B64 xs)).length := by have := mt h.1 h0; omega
   simp [h0, this]
theorem spec_Is_l0 (xs : List Nat) (n : Nat) (b : Bool) (hn : xs.length = n) (hb : n < 9223372036854775807) : ∀ (d i k : Nat), d = n - i -> i <= n -> d < k -> spec_Is.l0 k (ints xs) (n : Int) (i : Int) b (ints xs) = some true := by
 intro d
 induction d with
 | zero =>
  intro i k hd hi hk
  obtain ⟨k, rfl⟩ : ∃ m, k = m + 1 := ⟨k - 1, by omega⟩
  simp only [spec_Is.l0]
  rw [if_neg (by omega)]
 | succ d ih =>
  intro i k hd hi hk
  obtain ⟨k, rfl⟩ : ∃ m, k = m + 1 := ⟨k - 1, by omega⟩
  simp only [spec_Is.l0]
  rw [if_pos (by omega), if_pos (by omega), if_pos (by rw [Zf]; omega), if_pos (by rw [Zf]; omega), if_pos trivial, Zt _ (by omega) (by omega)]
  exact ih (i + 1) k (by omega) (by omega) (by omega)
theorem spec_Is_any (N : Nat) (s b : Bool) (hb : (digs N).length < 1099511627776) (h : b = (s && decide (N ≠ 0))) (hw : ∃ k, spec_Words.f k (ints (ds N)) = some (ints (digs N))) : ∃ k, spec_Is.f k b (ints (digs N)) s (ints (ds N)) = some true := by
 obtain ⟨k, hk⟩ := hw
 refine ⟨max k ((digs N).length + 2), ?_⟩
 have hk2 := at_rounds (fun k => spec_Words.mono (ints (ds N)) k) (Nat.le_max_left k ((digs N).length + 2)) hk
 have hm := Nat.le_max_right k ((digs N).length + 2)
 generalize max k ((digs N).length + 2) = m at hk2 hm
 unfold spec_Is.f
 rw [hk2, Option.bind_some, if_pos rfl]
 have hl := spec_Is_l0 (digs N) _ b rfl (by omega) (digs N).length 0 (m - 1) rfl (Nat.zero_le _) (by omega)
 obtain ⟨m, rfl⟩ : ∃ q, m = q + 1 := ⟨m - 1, by omega⟩
 have hj : spec_Is.j0 (m + 1) (ints (digs N)) false b (ints (digs N)) = some true := by
  simp only [spec_Is.j0]
  rw [if_neg (by decide), Zf]
  exact hl
 have hz := digs_empty N
 cases s with
 | false =>
  rw [if_neg (by decide)]
  have : (b != false) = false := by rw [h]; rfl
  rw [this]; exact hj
 | true =>
  rw [if_pos rfl, Zf]
  have : (b != decide (0 < (digs N).length)) = false := by
   rw [h]
   by_cases h0 : N = 0
   . simp [h0, Yi]
   .
    have : 0 < (digs N).length := by have := mt hz.1 h0; omega
    simp [h0, this]
  rw [this]; exact hj
end Go.Proofs.YthkklkjldpcbkaaGreatDoor
