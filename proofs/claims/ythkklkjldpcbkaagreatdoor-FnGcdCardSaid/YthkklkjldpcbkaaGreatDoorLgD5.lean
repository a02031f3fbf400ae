/- For the claim of laws.FnGcd: SpecD, Plus, SpE, SpecS, PlusD. -/
import Derived.Test.YthkklkjldpcbkaaGreatDoorLgB3
import Derived.Test.YthkklkjldpcbkaaGreatDoorLgSpec1
import Derived.Test.YthkklkjldpcbkaaGreatDoorLgD2
import Derived.Test.YthkklkjldpcbkaaGreatDoorLgB4
set_option linter.unusedVariables false
set_option linter.unusedSimpArgs false
set_option maxHeartbeats 16000000
set_option maxRecDepth 1000000
namespace Go.Proofs.YthkklkjldpcbkaaGreatDoor
open Go.RowKit Go.Proofs.YthkklkjldpcbkaaGreatDoor.PSpec Go.Proofs.YthkklkjldpcbkaaGreatDoorW.PrintWords Go.Proofs.YthkklkjldpcbkaaGreatDoorW.PrintLast Go.Proofs.YthkklkjldpcbkaaGreatDoorW.PrintMore
theorem rep_set (j q : Nat) (qs : List Nat) : (List.replicate (j + 1) 0 ++ qs).set j q = List.replicate j 0 ++ q :: qs := by
 rw [List.replicate_succ', List.append_assoc]
 have h := set_at (List.replicate j 0) qs 0 q
 rw [List.length_replicate] at h
 exact h
theorem rd_one (d : Nat) : rd (ints [d]) 0 = (d : Int) := rfl
theorem spec_byDigit_l0 (xs : List Nat) (n d : Nat) (hn : xs.length = n) (dx : Digs B16 xs) (hd0 : 0 < d) (hd : d < 65536) (hb : n <= 35184372088832) : ∀ (j k rest : Nat) (qs : List Nat), qs.length + j = n -> rest < d -> Digs B16 qs -> val B16 (xs.drop j) = val B16 qs * d + rest →
  spec_byDigit.l0 (k + n + j + 2) (ints xs) (ints [d]) (ints (List.replicate j 0 ++ qs)) (rest : Int) ((j : Int) - 1) = some (ints (ds (val B16 xs / d)), ((val B16 xs % d : Nat) : Int)) := by
 intro j
 induction j with
 | zero =>
  intro k rest qs hl hr hq hv
  rw [show k + n + 0 + 2 = (k + n + 1) + 1 by omega]
  simp only [spec_byDigit.l0]
  rw [if_neg (by omega), List.replicate_zero, List.nil_append, spec_cut_f (by omega) (by omega) hq]
  rw [List.drop_zero] at hv
  obtain ⟨e1, e2⟩ := quo_rest hv hr
  rw [<- e1, <- e2]; rfl
 | succ j ih =>
  intro k rest qs hl hr hq hv
  obtain ⟨x, hx⟩ : ∃ x, xs[j]'(by omega) = x := ⟨_, rfl⟩
  have hxB : x < 65536 := hx ▸ dx.get j (by omega)
  obtain ⟨K, hK⟩ : ∃ K, k + n + j + 2 = K := ⟨_, rfl⟩
  rw [show k + n + (j + 1) + 2 = K + 1 by omega]
  have hrd : rd (ints xs) (j : Int) = (x : Int) := by rw [rd_ints _ _ (by omega), hx]
  have hlt : rest * 65536 + x < d * 65536 := by
   have : (rest + 1) * 65536 <= d * 65536 := Nat.mul_le_mul_right _ hr
   omega
  have e1 : wrap64 (wrap64 ((rest : Int) * 65536) + (x : Int)) = ((rest * 65536 + x : Nat) : Int) := by
   rw [Zt ((rest : Int) * 65536) (by omega) (by omega), Zt _ (by omega) (by omega)]; omega
  obtain ⟨t, ht⟩ : ∃ t, rest * 65536 + x = t := ⟨_, rfl⟩
  rw [ht] at e1 hlt
  have hq2 : t / d < 65536 := by rw [Nat.div_lt_iff_lt_mul hd0, Nat.mul_comm]; exact hlt
  have hr2 : t % d < d := Nat.mod_lt _ hd0
  have hdm := Nat.div_add_mod t d
  have h1 : Int.tdiv (t : Int) (d : Int) = ((t / d : Nat) : Int) := rfl
  have e3 : Int.tmod (t : Int) (d : Int) = ((t % d : Nat) : Int) := rfl
  obtain ⟨q, hq1⟩ : ∃ q, t / d = q := ⟨_, rfl⟩
  obtain ⟨r, hr1⟩ : ∃ r, t % d = r := ⟨_, rfl⟩
  rw [hq1] at hq2 h1 hdm
  rw [hr1] at hr2 e3 hdm
  clear hq1 hr1
  have e2 : wrap64 (Int.tdiv (t : Int) (d : Int)) = (q : Int) := by rw [h1, Zt _ (by omega) (by omega)]
  have e5 : wrap64 ((j : Int) - 1) = (j : Int) - 1 := Zt _ (by omega) (by omega)
  simp only [spec_byDigit.l0]
  rw [show (((j + 1 : Nat) : Int) - 1) = (j : Int) by omega]
  rw [if_pos (by omega), if_pos (by omega), if_pos (by rw [Zf]; omega), if_pos (by simp), rd_one, if_neg (by omega), if_pos (by simp only [Zf, List.length_append, List.length_replicate]; omega), hrd, e1, e2, e3, e5, Int.toNat_natCast, ints_set, rep_set]
  have hex : xs[j]? = some x := by rw [<- hx]; exact List.getElem?_eq_getElem (by omega)
  have hI : 0 + val B16 (xs.drop (j + 1)) = val B16 qs * d + rest := by rw [Nat.zero_add]; exact hv
  have hX : rest * B16 + x = q * d + r := by
   rw [Nat.mul_comm d] at hdm
   rw [hdm, <- ht]; rfl
  have h := divW_step (P := 0) (P' := 0) (B := B16) (q := q) (r' := r) (x := x) (V' := val B16 (xs.drop j)) hI hX (Nat.mul_zero _).symm (val_drop_at hex)
  have h2 := ih k r (q :: qs) (by simp only [List.length_cons]; omega) hr2 (Digs.cons hq2 hq) (by rw [Yj, <- h, Nat.zero_add])
  rw [hK] at h2
  exact h2
theorem spec_byDigit_any (xs : List Nat) (d : Nat) (dx : Digs B16 xs) (hd0 : 0 < d) (hd : d < 65536) (hb : xs.length <= 35184372088832) : ∃ k, spec_byDigit.f k (ints xs) (ints [d]) = some (ints (ds (val B16 xs / d)), ((val B16 xs % d : Nat) : Int)) := by
 refine ⟨0 + xs.length + xs.length + 2, ?_⟩
 have h := spec_byDigit_l0 xs xs.length d rfl dx hd0 hd hb xs.length 0 0 [] (by simp) hd0 Digs.nil (by simp)
 unfold spec_byDigit.f
 rw [if_pos (by omega), Zf, Int.toNat_natCast, if_pos hb, Zt _ (by omega) (by omega)]
 rw [List.append_nil] at h
 have e : ints (List.replicate xs.length 0) = List.replicate xs.length 0 := by simp [ints]
 rw [e] at h
 exact h
theorem val_take_getD (b : Nat) : ∀ (xs : List Nat) (i : Nat), val b (xs.take (i + 1)) = val b (xs.take i) + xs.getD i 0 * b ^ i
 | [], i => by simp
 | x :: xs, 0 => by simp
 | x :: xs, i + 1 => by
  rw [List.take_succ_cons, List.take_succ_cons, Yj, Yj, val_take_getD b xs i, List.getD_cons_succ, Nat.pow_succ]
  grind
theorem getD_lt {xs : List Nat} (h : Digs B16 xs) (i : Nat) : xs.getD i 0 < 65536 := by
 rcases Nat.lt_or_ge i xs.length with hi | hi
 . rw [List.getD_eq_getElem?_getD, List.getElem?_eq_getElem hi]; exact h.get i hi
 . rw [List.getD_eq_getElem?_getD, List.getElem?_eq_none hi]; show 0 < 65536; omega
theorem rd_getD (xs : List Nat) (i : Nat) : rd (ints xs) (i : Int) = ((xs.getD i 0 : Nat) : Int) := by
 unfold rd ints
 rw [Int.toNat_natCast, List.getD_eq_getElem?_getD, List.getD_eq_getElem?_getD, List.getElem?_map]
 cases xs[i]? <;> rfl
theorem add_dig_step {O X Y c x y t p i : Nat} (hcd : t % 65536 + 65536 * (t / 65536) = t) (ht : c + x + y = t) (hv : O + c * B16 ^ i = X + Y) (_hp : p = 0 := by rfl) :
  O + B16 ^ i * (t % 65536) + t / 65536 * B16 ^ (i + 1) = X + x * B16 ^ i + (Y + y * B16 ^ i) := by
 rw [Nat.pow_succ, B16_eq]
 rw [B16_eq] at hv
 generalize 65536 ^ i = P at hv ⊢
 generalize t % 65536 = a at hcd ⊢
 generalize t / 65536 = b at hcd ⊢
 subst ht
 have h1 : P * a + b * (P * 65536) = (c + x + y) * P := by rw [<- hcd]; grind
 rw [Nat.add_mul, Nat.add_mul] at h1
 omega
theorem spec_Add_l0 (xs ys : List Nat) (n : Nat) (hn : max xs.length ys.length = n) (dx : Digs B16 xs) (dy : Digs B16 ys) (hb : n <= 1099511627776) : ∀ (d i k c : Nat) (out : List Nat), d = n - i -> i <= n -> out.length = i -> c < 2 -> Digs B16 out →
  val B16 out + c * B16 ^ i = val B16 (xs.take i) + val B16 (ys.take i) →
  spec_Add.l0 (k + n + 2 * d + 5) (ints xs) (ints ys) (ints out) (c : Int) (i : Int) = some (ints (ds (val B16 xs + val B16 ys))) := by
 intro d
 induction d with
 | zero =>
  intro i k c out hd hi ho hc hD hv
  have h1 : xs.length <= i := by omega
  have h2 : ys.length <= i := by omega
  rw [show k + n + 2 * 0 + 5 = (k + n + 3) + 1 + 1 by omega]
  simp only [spec_Add.l0, spec_Add.j1, Zf]
  rw [if_neg (by omega), decide_eq_false (by omega), if_neg (by simp), if_pos (by omega)]
  have e : ints out ++ [(c : Int)] = ints (out ++ [c]) := by rw [ints_append]; rfl
  rw [e, spec_cut_f (by rw [List.length_append, List.length_singleton]; omega) (by rw [List.length_append, List.length_singleton]; omega) (hD.snoc (by show c < 65536; omega))]
  rw [List.take_of_length_le h1, List.take_of_length_le h2] at hv
  have : val B16 (out ++ [c]) = val B16 xs + val B16 ys := by rw [Yk, ho, <- hv, Nat.mul_comm c]
  rw [this]; rfl
 | succ d ih =>
  intro i k c out hd hi ho hc hD hv
  obtain ⟨x, hx⟩ : ∃ x, xs.getD i 0 = x := ⟨_, rfl⟩
  obtain ⟨y, hy⟩ : ∃ y, ys.getD i 0 = y := ⟨_, rfl⟩
  have hxB : x < 65536 := hx ▸ getD_lt dx i
  have hyB : y < 65536 := hy ▸ getD_lt dy i
  have hrx : rd (ints xs) (i : Int) = (x : Int) := by rw [rd_getD, hx]
  have hry : rd (ints ys) (i : Int) = (y : Int) := by rw [rd_getD, hy]
  obtain ⟨t, ht⟩ : ∃ t, c + x + y = t := ⟨_, rfl⟩
  have HVV := Qq hv
  clear hv
  have ht2 : t < 200000 := by omega
  have hv2 : val B16 (out ++ [t % 65536]) + (t / 65536) * B16 ^ (i + 1) = val B16 (xs.take (i + 1)) + val B16 (ys.take (i + 1)) := by
   rw [Yk, val_take_getD, val_take_getD, hx, hy, ho]
   exact add_dig_step (Nat.mod_add_div t 65536) ht HVV.out
  have hD2 : Digs B16 (out ++ [t % 65536]) := hD.snoc (Nat.mod_lt _ B16_pos)
  have g1 : d = n - (i + 1) := by clear hv2; omega
  have g2 : i + 1 <= n := by clear hv2; omega
  have g4 : t / 65536 < 2 := by clear hv2; omega
  have h2 := ih (i + 1) k (t / 65536) (out ++ [t % 65536]) g1 g2 (by rw [List.length_append, List.length_singleton, ho]) g4 hD2 hv2
  clear hv2 ih HVV
  have e1 : Int.tmod (t : Int) 65536 = ((t % 65536 : Nat) : Int) := tmod16 t
  have e2 : wrap64 (Int.tdiv (t : Int) 65536) = ((t / 65536 : Nat) : Int) := by rw [tdiv16, Zt _ (by omega) (by omega)]
  have e3 : wrap64 ((i : Int) + 1) = ((i + 1 : Nat) : Int) := by rw [Zt _ (by omega) (by omega)]; omega
  have e4 : ints out ++ [((t % 65536 : Nat) : Int)] = ints (out ++ [t % 65536]) := by rw [ints_append]; rfl
  rw [show k + n + 2 * (d + 1) + 5 = (k + n + 2 * d + 5) + 1 + 1 by omega]
  obtain ⟨K, hK⟩ : ∃ K, k + n + 2 * d + 5 = K := ⟨_, rfl⟩
  rw [hK] at h2 ⊢
  have E := Qq (Qj h2 (Qj e1 (Qj e2 (Qj e3 e4))))
  clear h2 e1 e2 e3 e4 hD2 g1 g2 g4 hD
  have hin : (if (i : Int) < (xs.length : Int) then (spec_Add.j1 (K + 1) (ints xs) (ints ys) (ints out) (c : Int) (i : Int) true) else (spec_Add.j1 (K + 1) (ints xs) (ints ys) (ints out) (c : Int) (i : Int) (decide ((i : Int) < (ys.length : Int))))) = spec_Add.j1 (K + 1) (ints xs) (ints ys) (ints out) (c : Int) (i : Int) true := by
   by_cases h : (i : Int) < (xs.length : Int)
   . rw [if_pos h]
   . rw [if_neg h, decide_eq_true (by omega)]
  have hu : spec_Add.l0 (K + 1 + 1) (ints xs) (ints ys) (ints out) (c : Int) (i : Int) = spec_Add.j1 (K + 1) (ints xs) (ints ys) (ints out) (c : Int) (i : Int) true := by
   rw [<- hin]; simp only [spec_Add.l0, Zf]
  rw [hu]
  simp only [spec_Add.j1, Zf]
  rw [if_pos (by simp)]
  by_cases h1 : (i : Int) < (xs.length : Int)
  .
   rw [if_pos h1, if_pos (by omega)]
   by_cases h3 : (i : Int) < (ys.length : Int)
   .
    rw [if_pos h3, if_pos (by omega), hrx, hry, Zt ((c : Int) + (x : Int)) (by omega) (by omega), Zt _ (by omega) (by omega)]
    rw [show (c : Int) + (x : Int) + (y : Int) = (t : Int) by omega, E.out.2.1, E.out.2.2.1, E.out.2.2.2.1, E.out.2.2.2.2]
    exact E.out.1
   .
    have hy0 : y = 0 := by rw [<- hy, List.getD_eq_getElem?_getD, List.getElem?_eq_none (by omega)]; rfl
    rw [if_neg h3, if_pos (by omega), hrx, Zt ((c : Int) + (x : Int)) (by omega) (by omega)]
    rw [show (c : Int) + (x : Int) = (t : Int) by omega, E.out.2.1, E.out.2.2.1, E.out.2.2.2.1, E.out.2.2.2.2]
    exact E.out.1
  .
   have hx0 : x = 0 := by rw [<- hx, List.getD_eq_getElem?_getD, List.getElem?_eq_none (by omega)]; rfl
   rw [if_neg h1, if_pos (by omega), if_pos (by omega), if_pos (by omega), hry, Zt ((c : Int) + (y : Int)) (by omega) (by omega)]
   rw [show (c : Int) + (y : Int) = (t : Int) by omega, E.out.2.1, E.out.2.2.1, E.out.2.2.2.1, E.out.2.2.2.2]
   exact E.out.1
theorem spec_Add_any (xs ys : List Nat) (dx : Digs B16 xs) (dy : Digs B16 ys) (hx : xs.length <= 1099511627776) (hy : ys.length <= 1099511627776) : ∃ k, spec_Add.f k (ints xs) (ints ys) = some (ints (ds (val B16 xs + val B16 ys))) := by
 refine ⟨0 + max xs.length ys.length + 2 * max xs.length ys.length + 5, ?_⟩
 have h := spec_Add_l0 xs ys _ rfl dx dy (by omega) (max xs.length ys.length) 0 0 0 [] (by omega) (Nat.zero_le _) rfl (by omega) Digs.nil (by simp)
 exact h
theorem Plus_same (k : Nat) (an : Bool) (A0 A1 : Option Addr) (n m c0 c1 : Nat) (l0 l1 r : List Int) (w : World) (hn : l0.length = n) (hm : l1.length = m) (hr0 : Kd.C (Kd.int .i64) w A0 n l0) (hc0 : n <= c0) (hr1 : Kd.C (Kd.int .i64) w A1 m l1) (hc1 : m <= c1) (h : spec_Add.f k l0 l1 = some r) :
  Calls Tryz.prog 13 #[.agg #[.bool an, .slice A0 n c0], .agg #[.bool an, .slice A1 m c1]] w fun e w' => ∃ (A : Option Addr) (c : Nat),
   e = .returned (.agg #[.bool (an && decide (0 < r.length)), .slice A r.length c]) /\ r.length <= c /\ Kd.C (Kd.int .i64) w' A r.length r /\ Upd NoF w w' := by
 have HMUL0 := Qq (fun (w' : World) (u : Upd NoF w w') => (show Calls Tryz.prog 34 #[.slice A0 n c0, .slice A1 m c1] w' fun e w'' => ∃ (A : Option Addr) (c : Nat), e = .returned (.slice A r.length c) /\ Hid (r.length <= c /\ Kd.C (Kd.int .i64) w'' A r.length r) /\ Upd NoF w' w'' from by
  subst hn; subst hm
  refine (spec_Add.calls k A0 c0 l0 A1 c1 l1 r w' (C_upd hr0 u) hc0 (C_upd hr1 u) hc1 h).mono ?_
  rintro e w'' ⟨v, rfl, hV, hb⟩
  obtain ⟨A, c, rfl⟩ := Kd.V_slice hV
  have h2 := Kd.V_reads' hV
  exact ⟨A, c, rfl, ⟨h2.2.1, h2.2.2⟩, Upd.ofBelow hb⟩))
 clear hn hm hr0 hr1 hc0 hc1 h
 obtain ⟨q, hq⟩ : ∃ q, r.length = q := ⟨_, rfl⟩
 rw [hq] at HMUL0 ⊢
 clear hq
 go_enter Tryz.func13, Tryz.ntmps13
 go_wp2_with fail
 obtain ⟨g, hg⟩ : ∃ g, w.heap.size = g := ⟨_, rfl⟩
 obtain ⟨w3, hw3⟩ : ∃ w3, ((w.alloc (.cells #[.bool an, .slice A0 n c0] 32)).alloc (.cells #[.bool an, .slice A1 m c1] 32)).alloc (.cells #[.bool false, .slice none 0 0] 32) = w3 := ⟨_, rfl⟩
 rw [hg, hw3]
 have u3 : Upd NoF w w3 := by rw [<- hw3]; exact (((Upd.refl NoF w).alloc _).alloc _).alloc _
 have hs3 : w3.heap.size = g + 3 := by rw [<- hw3]; simp [hg]
 have h1 := heap_alloc_new w (.cells #[.bool an, .slice A0 n c0] 32)
 have h2 := heap_alloc_new (w.alloc (.cells #[.bool an, .slice A0 n c0] 32)) (.cells #[.bool an, .slice A1 m c1] 32)
 have h3 := heap_alloc_new ((w.alloc (.cells #[.bool an, .slice A0 n c0] 32)).alloc (.cells #[.bool an, .slice A1 m c1] 32)) (.cells #[.bool false, .slice none 0 0] 32)
 simp only [World.size_alloc, hg] at h1 h2 h3
 rw [hw3] at h3
 have hS : ∀ w', Upd (Blk (g + 1 + 1)) w3 w' -> w'.cell? ⟨g, 0, none⟩ = some (.bool an) /\ w'.cell? ⟨g, 1, none⟩ = some (.slice A0 n c0) /\ w'.cell? ⟨g + 1, 0, none⟩ = some (.bool an) /\ w'.cell? ⟨g + 1, 1, none⟩ = some (.slice A1 m c1) := by
  intro w' u
  have v1 : Upd (Blk (g + 1 + 1)) (w.alloc (.cells #[.bool an, .slice A0 n c0] 32)) w' := by refine Upd.trans ?_ u; rw [<- hw3]; exact ((Upd.refl _ _).alloc _).alloc _
  have v2 : Upd (Blk (g + 1 + 1)) ((w.alloc (.cells #[.bool an, .slice A0 n c0] 32)).alloc (.cells #[.bool an, .slice A1 m c1] 32)) w' := by refine Upd.trans ?_ u; rw [<- hw3]; exact (Upd.refl _ _).alloc _
  have ne1 : ∀ i, ¬ Blk (g + 1 + 1) g i := fun i (h : g = g + 1 + 1) => by omega
  have ne2 : ∀ i, ¬ Blk (g + 1 + 1) (g + 1) i := fun i (h : g + 1 = g + 1 + 1) => by omega
  have a1 : Zi 32 w' g 0 (.bool an) := Zi.upd ⟨_, h1, by simp⟩ v1 (ne1 _)
  have a2 : Zi 32 w' g 1 (.slice A0 n c0) := Zi.upd ⟨_, h1, by simp⟩ v1 (ne1 _)
  have a3 : Zi 32 w' (g + 1) 0 (.bool an) := Zi.upd ⟨_, h2, by simp⟩ v2 (ne2 _)
  have a4 : Zi 32 w' (g + 1) 1 (.slice A1 m c1) := Zi.upd ⟨_, h2, by simp⟩ v2 (ne2 _)
  exact ⟨a1.cell, a2.cell, a3.cell, a4.cell⟩
 have hS2 : ∀ w', Upd NoF w3 w' -> Zi 32 w' (g + 1 + 1) 0 (.bool false) /\ Zi 32 w' (g + 1 + 1) 1 (.slice none 0 0) := fun w' u =>
  ⟨Zi.upd ⟨_, h3, by simp⟩ u (fun h => h), Zi.upd ⟨_, h3, by simp⟩ u (fun h => h)⟩
 have HS2 := Qq hS2
 have HST := Qq (fun (wt : World) (u : Upd NoF w3 wt) (a c : Value) => (show Upd (Blk (g + 1 + 1)) w3 ((wt.setCell ⟨g + 1 + 1, 0, none⟩ a).setCell ⟨g + 1 + 1, 1, none⟩ c) from ((u.weak (G := Blk (g + 1 + 1)) (fun _ _ h => h.elim)).setCell (fun _ => rfl) a).setCell (fun _ => rfl) c))
 clear h1 h2 h3 hS2
 have HS := Qq (Qj hS (Qj u3 hs3))
 have HU0 := Qq (fun (w' : World) (u : Upd NoF w3 w') => u3.trans u)
 have HMUL := Qq (fun (w' : World) (u : Upd NoF w3 w') =>
  (HMUL0.out w' (HU0.out w' u)).mono (R' := fun e w'' => ∃ (A : Option Addr) (c : Nat), e = .returned (.slice A q c) /\ Hid (q <= c /\ Kd.C (Kd.int .i64) w'' A q r) /\ Upd NoF w3 w'')
   (fun e w'' ⟨A, c, he, h1, h2⟩ => ⟨A, c, he, h1, u.trans h2⟩))
 have HSIGN := Qq (fun (s : Bool) (A : Option Addr) (c : Nat) (w1 w' : World) (hC : Hid (q <= c /\ Kd.C (Kd.int .i64) w1 A q r)) (u1 : Upd NoF w1 w') (u : Upd NoF w3 w') =>
  (sign_any s A q c w').mono (R' := fun e w'' => e = .returned (.agg #[.bool (s && decide (0 < q)), .slice A q c]) /\ Hid (q <= c /\ Kd.C (Kd.int .i64) w'' A q r) /\ Upd NoF w3 w'')
   (fun e w'' ⟨he, hb⟩ => ⟨he, ⟨hC.out.1, C_upd hC.out.2 (u1.trans (Upd.ofBelow hb))⟩, u.trans (Upd.ofBelow hb)⟩))
 have HG := Qq hg
 clear hg hw3 u3 hs3 hS
 obtain ⟨k1, k2, k3, k4⟩ := HS.out.1 w3 (Upd.refl _ _)
 try go_wp2_with fail
 clear k1 k2 k3 k4
 go_region_held3 (fun w' => w'.cell? ⟨g, 0, none⟩ = some (.bool an) /\ w'.cell? ⟨g, 1, none⟩ = some (.slice A0 n c0) /\ w'.cell? ⟨g + 1, 0, none⟩ = some (.bool an) /\ w'.cell? ⟨g + 1, 1, none⟩ = some (.slice A1 m c1))
  (first | exact HS.out.1 _ (HST.out _ (by assumption) _ _) | exact HS.out.1 _ (Upd.weak (F := NoF) (by (repeat (first | exact Upd.refl _ _ | assumption | refine Upd.alloc ?_ _ | refine Upd.drew ?_ | refine Upd.drewN ?_ _ | refine Upd.trans ?_ (by assumption)))) (fun _ _ h => h.elim)))
  (first
   | ((go_at_call 34; refine (HMUL.out _ (by (repeat (first | exact Upd.refl _ _ | assumption | refine Upd.alloc ?_ _ | refine Upd.drew ?_ | refine Upd.drewN ?_ _ | refine Upd.trans ?_ (by assumption))))).mono ?_; rintro e wm ⟨Am, cm, rfl, hCm, hUm⟩))
   | ((go_at_call 33; refine (HSIGN.out _ Am cm wm _ hCm (by (repeat (first | exact Upd.refl _ _ | refine Upd.alloc ?_ _ | refine Upd.drew ?_ | refine Upd.drewN ?_ _))) (by (repeat (first | exact Upd.refl _ _ | assumption | refine Upd.alloc ?_ _ | refine Upd.drew ?_ | refine Upd.drewN ?_ _ | refine Upd.trans ?_ (by assumption))))).mono ?_; rintro e wt ⟨rfl, hCt, hUt⟩; have d1 := (HS2.out wt hUt).1.cell; have d2 := (HS2.out wt hUt).2.cell; have f1 := (HS2.out wt hUt).1.frozen; have f2 := (HS2.out wt hUt).2.frozen)))
 all_goals
  obtain ⟨B, hB⟩ : ∃ B, (an && decide (0 < q)) = B := ⟨_, rfl⟩
  simp only [hB]
  have HF := Qq (Qj (HS2.out wt hUt) (Qj hCt.out (HU0.out _ hUt)))
  have hge : w.heap.size <= g := by have := HG.out; omega
  have hU2 : Upd NoF w ((wt.setCell ⟨g + 1 + 1, 0, none⟩ (.bool B)).setCell ⟨g + 1 + 1, 1, none⟩ (.slice Am q cm)) := (HF.out.2.2.setCell (fun h => by omega) _).setCell (fun h => by omega) _
  have hR2 : Kd.C (Kd.int .i64) ((wt.setCell ⟨g + 1 + 1, 0, none⟩ (.bool B)).setCell ⟨g + 1 + 1, 1, none⟩ (.slice Am q cm)) Am q r :=
   C_set (C_set HF.out.2.1.2 HF.out.1.1.cell (fun _ h => by cases h) _) ((HF.out.1.2.far (b' := g + 1 + 1) (i' := 0) (.bool B) (by omega)).cell) (fun _ h => by cases h) _
  have e1 := HF.out.1.1
  have e2 := HF.out.1.2
  have g1 := ((e1.set (.bool B)).far (b' := g + 1 + 1) (i' := 1) (.slice Am q cm) (by omega)).cell
  have g2 := ((e2.far (b' := g + 1 + 1) (i' := 0) (.bool B) (by omega)).set (.slice Am q cm)).cell
  have HE := Qq (Qj hU2 (Qj hR2 (Qj HF.out.2.1.1 hB)))
  clear hUt hCt hUm hCm hge hU2 hR2 e1 e2 d1 d2 f1 f2 hB
  go_wp2_with fail
  refine bodyPost_ret (v := .agg #[.bool B, .slice Am q cm]) (by simp [results, Tryz.results13, go_sem, g1, g2]) rfl ?_
  exact ⟨Am, cm, by rw [<- HE.out.2.2.2], HE.out.2.2.1, HE.out.2.1, HE.out.1⟩
theorem sub_dig_step {O X Y c c2 x y t i : Nat} (ht : t + y + c = x + 65536 * c2) (hv : O + Y = X + c * B16 ^ i) :
  O + B16 ^ i * t + (Y + y * B16 ^ i) = X + x * B16 ^ i + c2 * B16 ^ (i + 1) := by
 rw [Nat.pow_succ, B16_eq]
 rw [B16_eq] at hv
 generalize 65536 ^ i = P at hv ⊢
 have h1 : P * (t + y + c) = P * (x + 65536 * c2) := by rw [ht]
 have h2 : P * t + P * y + P * c = P * x + c2 * (P * 65536) := by grind
 have e1 : y * P = P * y := Nat.mul_comm _ _
 have e2 : x * P = P * x := Nat.mul_comm _ _
 have e3 : c * P = P * c := Nat.mul_comm _ _
 rw [e3] at hv
 rw [e1, e2]
 omega
theorem wr64 {z : Int} (h1 : -9223372036854775808 <= z) (h2 : z < 9223372036854775808) : wrap64 z = z := Zt _ (by omega) (by omega)
theorem spec_Sub_l0 (xs ys : List Nat) (n : Nat) (hn : xs.length = n) (hm : ys.length <= n) (dx : Digs B16 xs) (dy : Digs B16 ys) (hle : val B16 ys <= val B16 xs) (hb : n <= 1099511627776) : ∀ (d i k c : Nat) (out : List Nat), d = n - i -> i <= n -> out.length = i -> c < 2 -> Digs B16 out →
  val B16 out + val B16 (ys.take i) = val B16 (xs.take i) + c * B16 ^ i →
  spec_Sub.l0 (k + n + d + 5) (ints xs) (ints ys) (ints out) (c : Int) (n : Int) (i : Int) = some (ints (ds (val B16 xs - val B16 ys))) := by
 intro d
 induction d with
 | zero =>
  intro i k c out hd hi ho hc hD hv
  have h1 : i = n := by omega
  subst h1
  rw [show k + i + 0 + 5 = (k + i + 4) + 1 by omega]
  simp only [spec_Sub.l0, Zf]
  rw [if_neg (by omega)]
  rw [spec_cut_f (by omega) (by omega) hD]
  rw [List.take_of_length_le (show xs.length <= i by omega), List.take_of_length_le hm] at hv
  have hlt := val_lt _ hD
  rw [ho] at hlt
  have hc0 : c = 0 := by
   rcases Nat.eq_zero_or_pos c with h | h
   . exact h
   .
    obtain rfl : c = 1 := by omega
    omega
  subst hc0
  have : val B16 out = val B16 xs - val B16 ys := by omega
  rw [this]; rfl
 | succ d ih =>
  intro i k c out hd hi ho hc hD hv
  obtain ⟨x, hx⟩ : ∃ x, xs.getD i 0 = x := ⟨_, rfl⟩
  obtain ⟨y, hy⟩ : ∃ y, ys.getD i 0 = y := ⟨_, rfl⟩
  have hxB : x < 65536 := hx ▸ getD_lt dx i
  have hyB : y < 65536 := hy ▸ getD_lt dy i
  have hrx : rd (ints xs) (i : Int) = (x : Int) := by rw [rd_getD, hx]
  have hry : rd (ints ys) (i : Int) = (y : Int) := by rw [rd_getD, hy]
  have HVV := Qq hv
  clear hv
  have hin : i < n := by omega
  have key : ∀ t c2 : Nat, t < 65536 -> c2 < 2 -> t + y + c = x + 65536 * c2 -> spec_Sub.l0 (k + n + d + 5) (ints xs) (ints ys) (ints out ++ [(t : Int)]) (c2 : Int) (n : Int) ((i + 1 : Nat) : Int) = some (ints (ds (val B16 xs - val B16 ys))) := by
   intro t c2 ht hc2 he
   have e4 : ints out ++ [(t : Int)] = ints (out ++ [t]) := by rw [ints_append]; rfl
   rw [e4]
   refine ih (i + 1) k c2 (out ++ [t]) (by omega) (by omega) (by rw [List.length_append, List.length_singleton, ho]) hc2 (hD.snoc (by show t < 65536; exact ht)) ?_
   rw [Yk, val_take_getD, val_take_getD, hx, hy, ho]
   exact sub_dig_step he HVV.out
  have KEY := Qq key
  have E3 := Qq (wr64 (z := (i : Int) + 1) (by omega) (by omega))
  have hol : (ints out).length < 17592186044416 := by rw [Zf]; omega
  rw [show k + n + (d + 1) + 5 = (k + n + d + 5) + 1 by omega]
  obtain ⟨K, hK⟩ : ∃ K, k + n + d + 5 = K := ⟨_, rfl⟩
  rw [hK] at KEY ⊢
  clear key ih hD HVV
  have W1 := Qq (wr64 (z := (x : Int) - (c : Int)) (by omega) (by omega))
  have W2 := Qq (wr64 (z := (x : Int) - (c : Int) - (y : Int)) (by omega) (by omega))
  have W3 := Qq (wr64 (z := (x : Int) - (c : Int) - (y : Int) + 65536) (by omega) (by omega))
  have W4 := Qq (wr64 (z := (x : Int) - (c : Int) + 65536) (by omega) (by omega))
  have I1 : (i : Int) < (n : Int) := by omega
  have I2 : (0 : Int) <= (i : Int) := by omega
  have I3 : (i : Int) < ((ints xs).length : Int) := by rw [Zf]; omega
  have I4 : (i : Int) + 1 = ((i + 1 : Nat) : Int) := by omega
  simp only [spec_Sub.l0]
  rw [if_pos I1, if_pos I2, if_pos I3, hrx, hry, W1.out, W2.out, W3.out, W4.out, E3.out, I4]
  by_cases h3 : (i : Int) < ((ints ys).length : Int)
  .
   rw [if_pos h3]
   by_cases h4 : (x : Int) - (c : Int) - (y : Int) < 0
   .
    rw [if_pos h4, if_pos hol]
    have := KEY.out (x + 65536 - c - y) 1 (by omega) (by omega) (by omega)
    rw [show ((x + 65536 - c - y : Nat) : Int) = (x : Int) - (c : Int) - (y : Int) + 65536 by omega] at this
    exact this
   .
    rw [if_neg h4, if_pos hol]
    have := KEY.out (x - c - y) 0 (by omega) (by omega) (by omega)
    rw [show ((x - c - y : Nat) : Int) = (x : Int) - (c : Int) - (y : Int) by omega] at this
    exact this
  .
   rw [if_neg h3]
   have hy0 : y = 0 := by
    rw [Zf] at h3
    rw [<- hy, List.getD_eq_getElem?_getD, List.getElem?_eq_none (by omega)]; rfl
   subst hy0
   by_cases h4 : (x : Int) - (c : Int) < 0
   .
    rw [if_pos h4, if_pos hol]
    have := KEY.out (x + 65536 - c) 1 (by omega) (by omega) (by omega)
    rw [show ((x + 65536 - c : Nat) : Int) = (x : Int) - (c : Int) + 65536 by omega] at this
    exact this
   .
    rw [if_neg h4, if_pos hol]
    have := KEY.out (x - c) 0 (by omega) (by omega) (by omega)
    rw [show ((x - c : Nat) : Int) = (x : Int) - (c : Int) by omega] at this
    exact this
theorem spec_Sub_any (X Y : Nat) (h : Y <= X) (hl : (ds X).length <= 1099511627776) : ∃ k, spec_Sub.f k (ints (ds X)) (ints (ds Y)) = some (ints (ds (X - Y))) := by
 refine ⟨0 + (ds X).length + (ds X).length + 5, ?_⟩
 have h := spec_Sub_l0 (ds X) (ds Y) _ rfl (ds_len_mono h) (ds_ds _) (ds_ds _) (by rw [val_ds, val_ds]; exact h) hl (ds X).length 0 0 0 [] (by omega) (Nat.zero_le _) rfl (by omega) Digs.nil (by simp)
 rw [val_ds, val_ds] at h
 unfold spec_Sub.f
 rw [Zf]
 exact h
theorem Plus_up (k : Nat) (an bn : Bool) (hne : an ≠ bn) (z : Int) (A0 A1 : Option Addr) (n m c0 c1 : Nat) (l0 l1 r : List Int) (w : World) (hn : l0.length = n) (hm : l1.length = m) (hr0 : Kd.C (Kd.int .i64) w A0 n l0) (hc0 : n <= c0) (hr1 : Kd.C (Kd.int .i64) w A1 m l1) (hc1 : m <= c1) (hcmp : spec_Cmp.f k l0 l1 = some z) (hz : 0 <= z) (h : spec_Sub.f k l0 l1 = some r) :
  Calls Tryz.prog 13 #[.agg #[.bool an, .slice A0 n c0], .agg #[.bool bn, .slice A1 m c1]] w fun e w' => ∃ (A : Option Addr) (c : Nat),
   e = .returned (.agg #[.bool (an && decide (0 < r.length)), .slice A r.length c]) /\ r.length <= c /\ Kd.C (Kd.int .i64) w' A r.length r /\ Upd NoF w w' := by
 have HMUL0 := Qq (fun (w' : World) (u : Upd NoF w w') => (show Calls Tryz.prog 35 #[.slice A0 n c0, .slice A1 m c1] w' fun e w'' => ∃ (A : Option Addr) (c : Nat), e = .returned (.slice A r.length c) /\ Hid (r.length <= c /\ Kd.C (Kd.int .i64) w'' A r.length r) /\ Upd NoF w' w'' from by
  subst hn; subst hm
  refine (spec_Sub.calls k A0 c0 l0 A1 c1 l1 r w' (C_upd hr0 u) hc0 (C_upd hr1 u) hc1 h).mono ?_
  rintro e w'' ⟨v, rfl, hV, hb⟩
  obtain ⟨A, c, rfl⟩ := Kd.V_slice hV
  have h2 := Kd.V_reads' hV
  exact ⟨A, c, rfl, ⟨h2.2.1, h2.2.2⟩, Upd.ofBelow hb⟩))
 have HCMP0 := Qq (fun (w' : World) (u : Upd NoF w w') => (show Calls Tryz.prog 16 #[.slice A0 n c0, .slice A1 m c1] w' fun e w'' => e = .returned (.int .i64 z) /\ Upd NoF w' w'' from by
  subst hn; subst hm
  refine (spec_Cmp.calls k A0 c0 l0 A1 c1 l1 z w' (C_upd hr0 u) hc0 (C_upd hr1 u) hc1 hcmp).mono ?_
  rintro e w'' ⟨rfl, nn, hn⟩
  exact ⟨rfl, hn ▸ (Upd.refl NoF w').drewN nn⟩))
 clear hn hm hr0 hr1 hc0 hc1 h hcmp
 obtain ⟨q, hq⟩ : ∃ q, r.length = q := ⟨_, rfl⟩
 rw [hq] at HMUL0 ⊢
 clear hq
 go_enter Tryz.func13, Tryz.ntmps13
 have q0 : (an == bn) = false := beq_eq_false_iff_ne.2 hne
 have q0' : decide (an = bn) = false := decide_eq_false hne
 go_wp2_with fail
 obtain ⟨g, hg⟩ : ∃ g, w.heap.size = g := ⟨_, rfl⟩
 obtain ⟨w3, hw3⟩ : ∃ w3, ((w.alloc (.cells #[.bool an, .slice A0 n c0] 32)).alloc (.cells #[.bool bn, .slice A1 m c1] 32)).alloc (.cells #[.bool false, .slice none 0 0] 32) = w3 := ⟨_, rfl⟩
 rw [hg, hw3]
 have u3 : Upd NoF w w3 := by rw [<- hw3]; exact (((Upd.refl NoF w).alloc _).alloc _).alloc _
 have hs3 : w3.heap.size = g + 3 := by rw [<- hw3]; simp [hg]
 have h1 := heap_alloc_new w (.cells #[.bool an, .slice A0 n c0] 32)
 have h2 := heap_alloc_new (w.alloc (.cells #[.bool an, .slice A0 n c0] 32)) (.cells #[.bool bn, .slice A1 m c1] 32)
 have h3 := heap_alloc_new ((w.alloc (.cells #[.bool an, .slice A0 n c0] 32)).alloc (.cells #[.bool bn, .slice A1 m c1] 32)) (.cells #[.bool false, .slice none 0 0] 32)
 simp only [World.size_alloc, hg] at h1 h2 h3
 rw [hw3] at h3
 have hS : ∀ w', Upd (Blk (g + 1 + 1)) w3 w' -> w'.cell? ⟨g, 0, none⟩ = some (.bool an) /\ w'.cell? ⟨g, 1, none⟩ = some (.slice A0 n c0) /\ w'.cell? ⟨g + 1, 0, none⟩ = some (.bool bn) /\ w'.cell? ⟨g + 1, 1, none⟩ = some (.slice A1 m c1) := by
  intro w' u
  have v1 : Upd (Blk (g + 1 + 1)) (w.alloc (.cells #[.bool an, .slice A0 n c0] 32)) w' := by refine Upd.trans ?_ u; rw [<- hw3]; exact ((Upd.refl _ _).alloc _).alloc _
  have v2 : Upd (Blk (g + 1 + 1)) ((w.alloc (.cells #[.bool an, .slice A0 n c0] 32)).alloc (.cells #[.bool bn, .slice A1 m c1] 32)) w' := by refine Upd.trans ?_ u; rw [<- hw3]; exact (Upd.refl _ _).alloc _
  have ne1 : ∀ i, ¬ Blk (g + 1 + 1) g i := fun i (h : g = g + 1 + 1) => by omega
  have ne2 : ∀ i, ¬ Blk (g + 1 + 1) (g + 1) i := fun i (h : g + 1 = g + 1 + 1) => by omega
  have a1 : Zi 32 w' g 0 (.bool an) := Zi.upd ⟨_, h1, by simp⟩ v1 (ne1 _)
  have a2 : Zi 32 w' g 1 (.slice A0 n c0) := Zi.upd ⟨_, h1, by simp⟩ v1 (ne1 _)
  have a3 : Zi 32 w' (g + 1) 0 (.bool bn) := Zi.upd ⟨_, h2, by simp⟩ v2 (ne2 _)
  have a4 : Zi 32 w' (g + 1) 1 (.slice A1 m c1) := Zi.upd ⟨_, h2, by simp⟩ v2 (ne2 _)
  exact ⟨a1.cell, a2.cell, a3.cell, a4.cell⟩
 have hS2 : ∀ w', Upd NoF w3 w' -> Zi 32 w' (g + 1 + 1) 0 (.bool false) /\ Zi 32 w' (g + 1 + 1) 1 (.slice none 0 0) := fun w' u =>
  ⟨Zi.upd ⟨_, h3, by simp⟩ u (fun h => h), Zi.upd ⟨_, h3, by simp⟩ u (fun h => h)⟩
 have HS2 := Qq hS2
 have HST := Qq (fun (wt : World) (u : Upd NoF w3 wt) (a c : Value) => (show Upd (Blk (g + 1 + 1)) w3 ((wt.setCell ⟨g + 1 + 1, 0, none⟩ a).setCell ⟨g + 1 + 1, 1, none⟩ c) from ((u.weak (G := Blk (g + 1 + 1)) (fun _ _ h => h.elim)).setCell (fun _ => rfl) a).setCell (fun _ => rfl) c))
 clear h1 h2 h3 hS2
 have HS := Qq (Qj hS (Qj u3 hs3))
 have HU0 := Qq (fun (w' : World) (u : Upd NoF w3 w') => u3.trans u)
 have HMUL := Qq (fun (w' : World) (u : Upd NoF w3 w') =>
  (HMUL0.out w' (HU0.out w' u)).mono (R' := fun e w'' => ∃ (A : Option Addr) (c : Nat), e = .returned (.slice A q c) /\ Hid (q <= c /\ Kd.C (Kd.int .i64) w'' A q r) /\ Upd NoF w3 w'')
   (fun e w'' ⟨A, c, he, h1, h2⟩ => ⟨A, c, he, h1, u.trans h2⟩))
 have HCMP := Qq (fun (w' : World) (u : Upd NoF w3 w') =>
  (HCMP0.out w' (HU0.out w' u)).mono (R' := fun e w'' => e = .returned (.int .i64 z) /\ Upd NoF w3 w'') (fun e w'' ⟨he, h2⟩ => ⟨he, u.trans h2⟩))
 have HSIGN := Qq (fun (s : Bool) (A : Option Addr) (c : Nat) (w1 w' : World) (hC : Hid (q <= c /\ Kd.C (Kd.int .i64) w1 A q r)) (u1 : Upd NoF w1 w') (u : Upd NoF w3 w') =>
  (sign_any s A q c w').mono (R' := fun e w'' => e = .returned (.agg #[.bool (s && decide (0 < q)), .slice A q c]) /\ Hid (q <= c /\ Kd.C (Kd.int .i64) w'' A q r) /\ Upd NoF w3 w'')
   (fun e w'' ⟨he, hb⟩ => ⟨he, ⟨hC.out.1, C_upd hC.out.2 (u1.trans (Upd.ofBelow hb))⟩, u.trans (Upd.ofBelow hb)⟩))
 have HG := Qq hg
 clear hg hw3 u3 hs3 hS
 refine (HCMP.out _ (Upd.refl _ _)).mono ?_
 rintro e w4 ⟨rfl, u4⟩
 clear q0 q0' hne
 obtain ⟨k1, k2, k3, k4⟩ := HS.out.1 w4 (u4.weak (fun _ _ h => h.elim))
 have q1 : decide (0 <= z) = true := decide_eq_true hz
 have q2 : 0 <= z := hz
 go_wp2_with fail
 clear k1 k2 k3 k4 q1 q2 hz
 go_region_held3 (fun w' => w'.cell? ⟨g, 0, none⟩ = some (.bool an) /\ w'.cell? ⟨g, 1, none⟩ = some (.slice A0 n c0) /\ w'.cell? ⟨g + 1, 0, none⟩ = some (.bool bn) /\ w'.cell? ⟨g + 1, 1, none⟩ = some (.slice A1 m c1))
  (first | exact HS.out.1 _ (HST.out _ (by assumption) _ _) | exact HS.out.1 _ (Upd.weak (F := NoF) (by (repeat (first | exact Upd.refl _ _ | assumption | refine Upd.alloc ?_ _ | refine Upd.drew ?_ | refine Upd.drewN ?_ _ | refine Upd.trans ?_ (by assumption)))) (fun _ _ h => h.elim)))
  (first
   | ((go_at_call 35; refine (HMUL.out _ (by (repeat (first | exact Upd.refl _ _ | assumption | refine Upd.alloc ?_ _ | refine Upd.drew ?_ | refine Upd.drewN ?_ _ | refine Upd.trans ?_ (by assumption))))).mono ?_; rintro e wm ⟨Am, cm, rfl, hCm, hUm⟩))
   | ((go_at_call 33; refine (HSIGN.out _ Am cm wm _ hCm (by (repeat (first | exact Upd.refl _ _ | refine Upd.alloc ?_ _ | refine Upd.drew ?_ | refine Upd.drewN ?_ _))) (by (repeat (first | exact Upd.refl _ _ | assumption | refine Upd.alloc ?_ _ | refine Upd.drew ?_ | refine Upd.drewN ?_ _ | refine Upd.trans ?_ (by assumption))))).mono ?_; rintro e wt ⟨rfl, hCt, hUt⟩; have d1 := (HS2.out wt hUt).1.cell; have d2 := (HS2.out wt hUt).2.cell; have f1 := (HS2.out wt hUt).1.frozen; have f2 := (HS2.out wt hUt).2.frozen)))
 all_goals
  obtain ⟨B, hB⟩ : ∃ B, (an && decide (0 < q)) = B := ⟨_, rfl⟩
  simp only [hB]
  have HF := Qq (Qj (HS2.out wt hUt) (Qj hCt.out (HU0.out _ hUt)))
  have hge : w.heap.size <= g := by have := HG.out; omega
  have hU2 : Upd NoF w ((wt.setCell ⟨g + 1 + 1, 0, none⟩ (.bool B)).setCell ⟨g + 1 + 1, 1, none⟩ (.slice Am q cm)) := (HF.out.2.2.setCell (fun h => by omega) _).setCell (fun h => by omega) _
  have hR2 : Kd.C (Kd.int .i64) ((wt.setCell ⟨g + 1 + 1, 0, none⟩ (.bool B)).setCell ⟨g + 1 + 1, 1, none⟩ (.slice Am q cm)) Am q r :=
   C_set (C_set HF.out.2.1.2 HF.out.1.1.cell (fun _ h => by cases h) _) ((HF.out.1.2.far (b' := g + 1 + 1) (i' := 0) (.bool B) (by omega)).cell) (fun _ h => by cases h) _
  have e1 := HF.out.1.1
  have e2 := HF.out.1.2
  have g1 := ((e1.set (.bool B)).far (b' := g + 1 + 1) (i' := 1) (.slice Am q cm) (by omega)).cell
  have g2 := ((e2.far (b' := g + 1 + 1) (i' := 0) (.bool B) (by omega)).set (.slice Am q cm)).cell
  have HE := Qq (Qj hU2 (Qj hR2 (Qj HF.out.2.1.1 hB)))
  clear hUt hCt hUm hCm hge hU2 hR2 e1 e2 d1 d2 f1 f2 hB
  go_wp2_with fail
  refine bodyPost_ret (v := .agg #[.bool B, .slice Am q cm]) (by simp [results, Tryz.results13, go_sem, g1, g2]) rfl ?_
  exact ⟨Am, cm, by rw [<- HE.out.2.2.2], HE.out.2.2.1, HE.out.2.1, HE.out.1⟩
theorem Plus_dn (k : Nat) (an bn : Bool) (hne : an ≠ bn) (z : Int) (A0 A1 : Option Addr) (n m c0 c1 : Nat) (l0 l1 r : List Int) (w : World) (hn : l0.length = n) (hm : l1.length = m) (hr0 : Kd.C (Kd.int .i64) w A0 n l0) (hc0 : n <= c0) (hr1 : Kd.C (Kd.int .i64) w A1 m l1) (hc1 : m <= c1) (hcmp : spec_Cmp.f k l0 l1 = some z) (hz : z < 0) (h : spec_Sub.f k l1 l0 = some r) :
  Calls Tryz.prog 13 #[.agg #[.bool an, .slice A0 n c0], .agg #[.bool bn, .slice A1 m c1]] w fun e w' => ∃ (A : Option Addr) (c : Nat),
   e = .returned (.agg #[.bool (bn && decide (0 < r.length)), .slice A r.length c]) /\ r.length <= c /\ Kd.C (Kd.int .i64) w' A r.length r /\ Upd NoF w w' := by
 have HMUL0 := Qq (fun (w' : World) (u : Upd NoF w w') => (show Calls Tryz.prog 35 #[.slice A1 m c1, .slice A0 n c0] w' fun e w'' => ∃ (A : Option Addr) (c : Nat), e = .returned (.slice A r.length c) /\ Hid (r.length <= c /\ Kd.C (Kd.int .i64) w'' A r.length r) /\ Upd NoF w' w'' from by
  subst hn; subst hm
  refine (spec_Sub.calls k A1 c1 l1 A0 c0 l0 r w' (C_upd hr1 u) hc1 (C_upd hr0 u) hc0 h).mono ?_
  rintro e w'' ⟨v, rfl, hV, hb⟩
  obtain ⟨A, c, rfl⟩ := Kd.V_slice hV
  have h2 := Kd.V_reads' hV
  exact ⟨A, c, rfl, ⟨h2.2.1, h2.2.2⟩, Upd.ofBelow hb⟩))
 have HCMP0 := Qq (fun (w' : World) (u : Upd NoF w w') => (show Calls Tryz.prog 16 #[.slice A0 n c0, .slice A1 m c1] w' fun e w'' => e = .returned (.int .i64 z) /\ Upd NoF w' w'' from by
  subst hn; subst hm
  refine (spec_Cmp.calls k A0 c0 l0 A1 c1 l1 z w' (C_upd hr0 u) hc0 (C_upd hr1 u) hc1 hcmp).mono ?_
  rintro e w'' ⟨rfl, nn, hn⟩
  exact ⟨rfl, hn ▸ (Upd.refl NoF w').drewN nn⟩))
 clear hn hm hr0 hr1 hc0 hc1 h hcmp
 obtain ⟨q, hq⟩ : ∃ q, r.length = q := ⟨_, rfl⟩
 rw [hq] at HMUL0 ⊢
 clear hq
 go_enter Tryz.func13, Tryz.ntmps13
 have q0 : (an == bn) = false := beq_eq_false_iff_ne.2 hne
 have q0' : decide (an = bn) = false := decide_eq_false hne
 go_wp2_with fail
 obtain ⟨g, hg⟩ : ∃ g, w.heap.size = g := ⟨_, rfl⟩
 obtain ⟨w3, hw3⟩ : ∃ w3, ((w.alloc (.cells #[.bool an, .slice A0 n c0] 32)).alloc (.cells #[.bool bn, .slice A1 m c1] 32)).alloc (.cells #[.bool false, .slice none 0 0] 32) = w3 := ⟨_, rfl⟩
 rw [hg, hw3]
 have u3 : Upd NoF w w3 := by rw [<- hw3]; exact (((Upd.refl NoF w).alloc _).alloc _).alloc _
 have hs3 : w3.heap.size = g + 3 := by rw [<- hw3]; simp [hg]
 have h1 := heap_alloc_new w (.cells #[.bool an, .slice A0 n c0] 32)
 have h2 := heap_alloc_new (w.alloc (.cells #[.bool an, .slice A0 n c0] 32)) (.cells #[.bool bn, .slice A1 m c1] 32)
 have h3 := heap_alloc_new ((w.alloc (.cells #[.bool an, .slice A0 n c0] 32)).alloc (.cells #[.bool bn, .slice A1 m c1] 32)) (.cells #[.bool false, .slice none 0 0] 32)
 simp only [World.size_alloc, hg] at h1 h2 h3
 rw [hw3] at h3
 have hS : ∀ w', Upd (Blk (g + 1 + 1)) w3 w' -> w'.cell? ⟨g, 0, none⟩ = some (.bool an) /\ w'.cell? ⟨g, 1, none⟩ = some (.slice A0 n c0) /\ w'.cell? ⟨g + 1, 0, none⟩ = some (.bool bn) /\ w'.cell? ⟨g + 1, 1, none⟩ = some (.slice A1 m c1) := by
  intro w' u
  have v1 : Upd (Blk (g + 1 + 1)) (w.alloc (.cells #[.bool an, .slice A0 n c0] 32)) w' := by refine Upd.trans ?_ u; rw [<- hw3]; exact ((Upd.refl _ _).alloc _).alloc _
  have v2 : Upd (Blk (g + 1 + 1)) ((w.alloc (.cells #[.bool an, .slice A0 n c0] 32)).alloc (.cells #[.bool bn, .slice A1 m c1] 32)) w' := by refine Upd.trans ?_ u; rw [<- hw3]; exact (Upd.refl _ _).alloc _
  have ne1 : ∀ i, ¬ Blk (g + 1 + 1) g i := fun i (h : g = g + 1 + 1) => by omega
  have ne2 : ∀ i, ¬ Blk (g + 1 + 1) (g + 1) i := fun i (h : g + 1 = g + 1 + 1) => by omega
  have a1 : Zi 32 w' g 0 (.bool an) := Zi.upd ⟨_, h1, by simp⟩ v1 (ne1 _)
  have a2 : Zi 32 w' g 1 (.slice A0 n c0) := Zi.upd ⟨_, h1, by simp⟩ v1 (ne1 _)
  have a3 : Zi 32 w' (g + 1) 0 (.bool bn) := Zi.upd ⟨_, h2, by simp⟩ v2 (ne2 _)
  have a4 : Zi 32 w' (g + 1) 1 (.slice A1 m c1) := Zi.upd ⟨_, h2, by simp⟩ v2 (ne2 _)
  exact ⟨a1.cell, a2.cell, a3.cell, a4.cell⟩
 have hS2 : ∀ w', Upd NoF w3 w' -> Zi 32 w' (g + 1 + 1) 0 (.bool false) /\ Zi 32 w' (g + 1 + 1) 1 (.slice none 0 0) := fun w' u =>
  ⟨Zi.upd ⟨_, h3, by simp⟩ u (fun h => h), Zi.upd ⟨_, h3, by simp⟩ u (fun h => h)⟩
 have HS2 := Qq hS2
 have HST := Qq (fun (wt : World) (u : Upd NoF w3 wt) (a c : Value) => (show Upd (Blk (g + 1 + 1)) w3 ((wt.setCell ⟨g + 1 + 1, 0, none⟩ a).setCell ⟨g + 1 + 1, 1, none⟩ c) from ((u.weak (G := Blk (g + 1 + 1)) (fun _ _ h => h.elim)).setCell (fun _ => rfl) a).setCell (fun _ => rfl) c))
 clear h1 h2 h3 hS2
 have HS := Qq (Qj hS (Qj u3 hs3))
 have HU0 := Qq (fun (w' : World) (u : Upd NoF w3 w') => u3.trans u)
 have HMUL := Qq (fun (w' : World) (u : Upd NoF w3 w') =>
  (HMUL0.out w' (HU0.out w' u)).mono (R' := fun e w'' => ∃ (A : Option Addr) (c : Nat), e = .returned (.slice A q c) /\ Hid (q <= c /\ Kd.C (Kd.int .i64) w'' A q r) /\ Upd NoF w3 w'')
   (fun e w'' ⟨A, c, he, h1, h2⟩ => ⟨A, c, he, h1, u.trans h2⟩))
 have HCMP := Qq (fun (w' : World) (u : Upd NoF w3 w') =>
  (HCMP0.out w' (HU0.out w' u)).mono (R' := fun e w'' => e = .returned (.int .i64 z) /\ Upd NoF w3 w'') (fun e w'' ⟨he, h2⟩ => ⟨he, u.trans h2⟩))
 have HSIGN := Qq (fun (s : Bool) (A : Option Addr) (c : Nat) (w1 w' : World) (hC : Hid (q <= c /\ Kd.C (Kd.int .i64) w1 A q r)) (u1 : Upd NoF w1 w') (u : Upd NoF w3 w') =>
  (sign_any s A q c w').mono (R' := fun e w'' => e = .returned (.agg #[.bool (s && decide (0 < q)), .slice A q c]) /\ Hid (q <= c /\ Kd.C (Kd.int .i64) w'' A q r) /\ Upd NoF w3 w'')
   (fun e w'' ⟨he, hb⟩ => ⟨he, ⟨hC.out.1, C_upd hC.out.2 (u1.trans (Upd.ofBelow hb))⟩, u.trans (Upd.ofBelow hb)⟩))
 have HG := Qq hg
 clear hg hw3 u3 hs3 hS
 refine (HCMP.out _ (Upd.refl _ _)).mono ?_
 rintro e w4 ⟨rfl, u4⟩
 clear q0 q0' hne
 obtain ⟨k1, k2, k3, k4⟩ := HS.out.1 w4 (u4.weak (fun _ _ h => h.elim))
 have q1 : decide (0 <= z) = false := decide_eq_false (by omega)
 have q2 : ¬ (0 <= z) := by omega
 go_wp2_with fail
 clear k1 k2 k3 k4 q1 q2 hz
 go_region_held3 (fun w' => w'.cell? ⟨g, 0, none⟩ = some (.bool an) /\ w'.cell? ⟨g, 1, none⟩ = some (.slice A0 n c0) /\ w'.cell? ⟨g + 1, 0, none⟩ = some (.bool bn) /\ w'.cell? ⟨g + 1, 1, none⟩ = some (.slice A1 m c1))
  (first | exact HS.out.1 _ (HST.out _ (by assumption) _ _) | exact HS.out.1 _ (Upd.weak (F := NoF) (by (repeat (first | exact Upd.refl _ _ | assumption | refine Upd.alloc ?_ _ | refine Upd.drew ?_ | refine Upd.drewN ?_ _ | refine Upd.trans ?_ (by assumption)))) (fun _ _ h => h.elim)))
  (first
   | ((go_at_call 35; refine (HMUL.out _ (by (repeat (first | exact Upd.refl _ _ | assumption | refine Upd.alloc ?_ _ | refine Upd.drew ?_ | refine Upd.drewN ?_ _ | refine Upd.trans ?_ (by assumption))))).mono ?_; rintro e wm ⟨Am, cm, rfl, hCm, hUm⟩))
   | ((go_at_call 33; refine (HSIGN.out _ Am cm wm _ hCm (by (repeat (first | exact Upd.refl _ _ | refine Upd.alloc ?_ _ | refine Upd.drew ?_ | refine Upd.drewN ?_ _))) (by (repeat (first | exact Upd.refl _ _ | assumption | refine Upd.alloc ?_ _ | refine Upd.drew ?_ | refine Upd.drewN ?_ _ | refine Upd.trans ?_ (by assumption))))).mono ?_; rintro e wt ⟨rfl, hCt, hUt⟩; have d1 := (HS2.out wt hUt).1.cell; have d2 := (HS2.out wt hUt).2.cell; have f1 := (HS2.out wt hUt).1.frozen; have f2 := (HS2.out wt hUt).2.frozen)))
 all_goals
  obtain ⟨B, hB⟩ : ∃ B, (bn && decide (0 < q)) = B := ⟨_, rfl⟩
  simp only [hB]
  have HF := Qq (Qj (HS2.out wt hUt) (Qj hCt.out (HU0.out _ hUt)))
  have hge : w.heap.size <= g := by have := HG.out; omega
  have hU2 : Upd NoF w ((wt.setCell ⟨g + 1 + 1, 0, none⟩ (.bool B)).setCell ⟨g + 1 + 1, 1, none⟩ (.slice Am q cm)) := (HF.out.2.2.setCell (fun h => by omega) _).setCell (fun h => by omega) _
  have hR2 : Kd.C (Kd.int .i64) ((wt.setCell ⟨g + 1 + 1, 0, none⟩ (.bool B)).setCell ⟨g + 1 + 1, 1, none⟩ (.slice Am q cm)) Am q r :=
   C_set (C_set HF.out.2.1.2 HF.out.1.1.cell (fun _ h => by cases h) _) ((HF.out.1.2.far (b' := g + 1 + 1) (i' := 0) (.bool B) (by omega)).cell) (fun _ h => by cases h) _
  have e1 := HF.out.1.1
  have e2 := HF.out.1.2
  have g1 := ((e1.set (.bool B)).far (b' := g + 1 + 1) (i' := 1) (.slice Am q cm) (by omega)).cell
  have g2 := ((e2.far (b' := g + 1 + 1) (i' := 0) (.bool B) (by omega)).set (.slice Am q cm)).cell
  have HE := Qq (Qj hU2 (Qj hR2 (Qj HF.out.2.1.1 hB)))
  clear hUt hCt hUm hCm hge hU2 hR2 e1 e2 d1 d2 f1 f2 hB
  go_wp2_with fail
  refine bodyPost_ret (v := .agg #[.bool B, .slice Am q cm]) (by simp [results, Tryz.results13, go_sem, g1, g2]) rfl ?_
  exact ⟨Am, cm, by rw [<- HE.out.2.2.2], HE.out.2.2.1, HE.out.2.1, HE.out.1⟩
end Go.Proofs.YthkklkjldpcbkaaGreatDoor
