/- For the claim of laws.FnInverse: Inv, AnswerN, DivZ, ImplInv. -/
import Derived.Test.YthkklkjldpcbkaaGreatDoorLiG6
import Derived.Test.YthkklkjldpcbkaaGreatDoorLiG2
import Derived.Test.YthkklkjldpcbkaaGreatDoorLiD3
import Derived.Test.YthkklkjldpcbkaaGreatDoorLiG7
import Derived.Deep.DeepCutAuto
import Derived.Test.YthkklkjldpcbkaaGreatDoorLiF1
import Derived.Deep.RegionHeld3
import Derived.Deep.RegionHeld2
set_option linter.unusedVariables false
set_option linter.unusedSimpArgs false
set_option maxHeartbeats 16000000
set_option maxRecDepth 1000000
namespace Go.Proofs.YthkklkjldpcbkaaGreatDoor
open Go.RowKit
theorem Neg_o (zb xb : Nat) (z x : Loc) (Z X : Int) (w : World) (hz : IntV w zb z Z) (hx : IntV w xb x X) (hne : zb ≠ xb) (hm : (digs X.natAbs).length <= 1099511627776) :
  Calls Tryz.prog 53 #[.pointer (some ⟨zb, 0, none⟩), .pointer (some ⟨xb, 0, none⟩)] w fun e w' => e = .returned (.pointer (some ⟨zb, 0, none⟩)) /\ IntOut w zb z (-X) w' := by
 have HS := Qq (Set_o zb xb z x Z X w hz hx hne hm)
 clear hz hx hne hm
 go_enter Tryz.func53, Tryz.ntmps53
 go_wp2_with fail
 refine HS.out.mono ?_
 rintro e w1 ⟨rfl, r, o1, o2, h3⟩
 have hF : ∀ s : Bool, s = decide (-X < 0) -> IntOut w zb z (-X) (w1.setCell ⟨zb, 0, none⟩ (.bool s)) := fun s e => by
  subst e
  have u : Upd (Blk zb) w1 (w1.setCell ⟨zb, 0, none⟩ (.bool (decide (-X < 0)))) := (Upd.refl (Blk zb) w1).setCell (fun _ => rfl) _
  exact ⟨r, o1, o2.trans (u.mono (fun _ _ _ h => Or.inl h)), ⟨h3.neg.set _, by rw [Int.natAbs_neg]; exact h3.abs.far _ (by omega), by rw [Int.natAbs_neg]; exact h3.nat.upd u (fun i hi hb => h3.neg.neW (h3.nat.at_ i hi) (by decide) hb.symm)⟩⟩
 have c1 := h3.neg.cell
 have c2 := h3.neg.frozen
 have c3 := h3.abs.cell
 obtain ⟨s, hs⟩ : ∃ s, decide (X < 0) = s := ⟨_, rfl⟩
 rw [hs] at c1
 by_cases h0 : X = 0
 .
  have q0 : decide (0 < (digs X.natAbs).length) = false := decide_eq_false (by rw [Zx.2 h0]; omega)
  have HH := Qq (hF false (by subst h0; rfl))
  clear h0 hs h3 hF o1 o2
  go_wp2
  go_ret
  exact ⟨rfl, HH.out⟩
 .
  have q0 : decide (0 < (digs X.natAbs).length) = true := decide_eq_true (by have := mt Zx.1 h0; omega)
  have HH := Qq (hF (!s) (by rw [<- hs]; by_cases h1 : X < 0 <;> simp [h1] <;> omega))
  clear h0 hs h3 hF o1 o2
  go_wp2
  go_ret
  exact ⟨rfl, HH.out⟩
theorem Ints.pick120 {w0 w : World} {a b c d : Nat × Loc × Int} (h : Ints w0 w [a, b, c, d]) : Ints w0 w [b, c, a] :=
 h.sub (fun i => if i = 0 then 1 else if i = 1 then 2 else 0) (fun i j hi hj h => by
  have hi' : i < 3 := hi
  have hj' : j < 3 := hj
  (try simp only at h)
  repeat' split at h
  all_goals omega) (fun i hi => match i, hi with
  | 0, _ => rfl | 1, _ => rfl | 2, _ => rfl)
theorem Ints.pick103 {w0 w : World} {a b c d : Nat × Loc × Int} (h : Ints w0 w [a, b, c, d]) : Ints w0 w [b, a, d] :=
 h.sub (fun i => if i = 0 then 1 else if i = 1 then 0 else 3) (fun i j hi hj h => by
  have hi' : i < 3 := hi
  have hj' : j < 3 := hj
  (try simp only at h)
  repeat' split at h
  all_goals omega) (fun i hi => match i, hi with
  | 0, _ => rfl | 1, _ => rfl | 2, _ => rfl)
theorem Ints.pick10342 {w0 w : World} {a b c d e : Nat × Loc × Int} (h : Ints w0 w [a, b, c, d, e]) : Ints w0 w [b, a, d, e, c] :=
 h.sub (fun i => if i = 0 then 1 else if i = 1 then 0 else if i = 2 then 3 else if i = 3 then 4 else 2) (fun i j hi hj h => by
  have hi' : i < 5 := hi
  have hj' : j < 5 := hj
  (try simp only at h)
  repeat' split at h
  all_goals omega) (fun i hi => match i, hi with
  | 0, _ => rfl | 1, _ => rfl | 2, _ => rfl | 3, _ => rfl | 4, _ => rfl)
theorem gcd_congr {A G N : Int} (h : N ∣ A - G) : Nat.gcd A.natAbs N.natAbs = Nat.gcd G.natAbs N.natAbs := by
 have key : ∀ A G : Int, N ∣ A - G -> Nat.gcd A.natAbs N.natAbs ∣ Nat.gcd G.natAbs N.natAbs := fun A G h => by
  refine Nat.dvd_gcd ?_ (Nat.gcd_dvd_right _ _)
  have h1 : ((Nat.gcd A.natAbs N.natAbs : Nat) : Int) ∣ A := Int.ofNat_dvd_left.2 (Nat.gcd_dvd_left _ _)
  have h2 : ((Nat.gcd A.natAbs N.natAbs : Nat) : Int) ∣ N := Int.ofNat_dvd_left.2 (Nat.gcd_dvd_right _ _)
  have h3 : ((Nat.gcd A.natAbs N.natAbs : Nat) : Int) ∣ G := by
   have := Int.dvd_sub h1 (Int.dvd_trans h2 h)
   rwa [show A - (A - G) = G by omega] at this
  exact Int.ofNat_dvd_left.1 h3
 refine Nat.dvd_antisymm (key A G h) (key G A ?_)
 obtain ⟨k, hk⟩ := h
 exact ⟨-k, by rw [Int.mul_neg, <- hk]; omega⟩
def InvOut (w0 : World) (zb : Nat) (G N : Int) (M : Nat) (e : Ending) (w' : World) : Prop :=
 (Nat.gcd G.natAbs N.natAbs = 1 /\ ∃ (V : Int) (r : Loc), e = .returned (.pointer (some ⟨zb, 0, none⟩)) /\ IntV w' zb r V /\ N ∣ V * G - 1 /\ V.natAbs <= 2 * M + 1 /\ Upd NoF w0 w') ∨
 (Nat.gcd G.natAbs N.natAbs ≠ 1 /\ e = .returned (.pointer none) /\ Upd NoF w0 w')
structure InvS (w0 w : World) (zb gb nb : Nat) (lz lg ln : Loc) (Z A N G : Int) (M : Nat) : Prop where
 ints : Ints w0 w [(zb, lz, Z), (gb, lg, A), (nb, ln, (N.natAbs : Int))]
 pos : 0 <= A
 le : A.natAbs <= M
 dv : N ∣ A - G
theorem dvd_natAbs_sub {N A G : Int} (h : ((N.natAbs : Nat) : Int) ∣ A - G) : N ∣ A - G := Int.natAbs_dvd.1 h
theorem inv_dvd {A N X Y G : Int} (h : A * X + (N.natAbs : Int) * Y = 1) (hd : N ∣ A - G) : N ∣ X * G - 1 /\ N ∣ (X + (N.natAbs : Int)) * G - 1 := by
 have hN : N ∣ (N.natAbs : Int) := Int.dvd_natAbs.2 (Int.dvd_refl N)
 have h1 : N ∣ X * G - 1 := by
  have e : X * G - 1 = -((A - G) * X + (N.natAbs : Int) * Y) := by rw [Int.sub_mul, Int.mul_comm X G]; omega
  rw [e]
  exact Int.dvd_neg.2 (Int.dvd_add (Int.dvd_mul_of_dvd_left hd) (Int.dvd_mul_of_dvd_left hN))
 refine ⟨h1, ?_⟩
 have e : (X + (N.natAbs : Int)) * G - 1 = (X * G - 1) + (N.natAbs : Int) * G := by rw [Int.add_mul]; omega
 rw [e]
 exact Int.dvd_add h1 (Int.dvd_mul_of_dvd_left hN)
theorem AddS_i (w0 w : World) (L : List (Nat × Loc × SV)) (i j k zb xb yb : Nat) (z x y : Loc) (Z X Y : SV) (h : Zl w0 w L) (hi : L[i]? = some (zb, z, Z)) (hj : L[j]? = some (xb, x, X)) (hk : L[k]? = some (yb, y, Y)) (hm : (digs X.2.natAbs).length + 1 <= 1099511627776) (hn : (digs Y.2.natAbs).length + 1 <= 1099511627776) :
  Calls Tryz.prog 64 #[.pointer (some ⟨zb, 0, none⟩), .pointer (some ⟨xb, 0, none⟩), .pointer (some ⟨yb, 0, none⟩)] w fun e w' => e = .returned (.pointer (some ⟨zb, 0, none⟩)) /\ ∃ r : Loc, Zl w0 w' (L.set i (zb, r, sv (X.2 + Y.2))) := by
 rcases Nat.eq_zero_or_pos z.c with h0 | h0
 . exact (AddS_any zb xb yb _ x y _ _ _ _ X.2 Y.2 w ((h.at_ _ _ _ _ hi).low h0) (h.at_ _ _ _ _ hj).s (h.at_ _ _ _ _ hk).s hm hn (Or.inr (Or.inl (Nat.zero_le _))) (Or.inr (Or.inl (Nat.zero_le _)))).mono (fun _ _ ⟨h1, h2⟩ => ⟨h1, h.out hi (h2.put.low h0)⟩)
 . exact (AddS_any zb xb yb z x y _ _ _ _ X.2 Y.2 w (h.at_ _ _ _ _ hi).dest (h.at_ _ _ _ _ hj).s (h.at_ _ _ _ _ hk).s hm hn ((h.rel hi hj).up (h.at_ _ _ _ _ hj).nat.le h0) ((h.rel hi hk).up (h.at_ _ _ _ _ hk).nat.le h0)).mono (fun _ _ ⟨h1, h2⟩ => ⟨h1, h.out hi h2.put⟩)
theorem ModInv_any (T TK : Int) (w0 w : World) (zb gb nb : Nat) (lz lg ln : Loc) (Z G N : Int) (M : Nat) (h : Ints w0 w [(zb, lz, Z), (gb, lg, G), (nb, ln, N)]) (hN : N ≠ 0 \/ 0 <= G) (gM : G.natAbs <= M) (nM : N.natAbs <= M) (hM : (digs M).length <= 300) (hT : DThr w0 T) (hK : KThr w0 TK (digs M).length) (hO : OneI w0)
  (hD : ∀ A B : Nat, B ≠ 0 -> (digs B).length <= (digs M).length -> (digs A).length <= 1000 -> DivAtT T A B) :
  Calls Tryz.prog 44 #[.pointer (some ⟨zb, 0, none⟩), .pointer (some ⟨gb, 0, none⟩), .pointer (some ⟨nb, 0, none⟩)] w (InvOut w0 zb G N M) := by
 have gl : (digs G.natAbs).length <= 300 := Nat.le_trans (Zn gM) hM
 have nl : (digs N.natAbs).length <= 300 := Nat.le_trans (Zn nM) hM
 have cn := (h.at_ 2 _ _ _ rfl).neg.cell
 have H := Qq h
 have HP := Qq (Qj hN (Qj gM (Qj nM (Qj hM (Qj gl nl)))))
 have HT := Qq (Qj hT (Qj hK (Qj hO hD)))
 clear h hN gM nM hM gl nl hT hK hO hD
 go_enter Tryz.func44, Tryz.ntmps44
 obtain ⟨sn, hsn⟩ : ∃ s, decide (N < 0) = s := ⟨_, rfl⟩
 rw [hsn] at cn
 have HSN := Qq hsn
 clear hsn
 go_upto_if 14 with fail
 go_cut [2] from 7 to 37 (fun s2 wx => ∃ (nb' : Nat) (ln' : Loc), s2 = .pointer (some ⟨nb', 0, none⟩) /\ Hid (Ints w0 wx [(zb, lz, Z), (gb, lg, G), (nb', ln', (N.natAbs : Int))]))
 case first =>
  cases sn
  rotate_left
  .
   have hn : N < 0 := of_decide_eq_true HSN.out
   have h2 := H.out.new
   obtain ⟨g, hg⟩ : ∃ g, w.heap.size = g := ⟨_, rfl⟩
   obtain ⟨w2, hw2⟩ : ∃ w2, w.alloc (.cells #[.bool false, .slice none 0 0] 58) = w2 := ⟨_, rfl⟩
   rw [hg, hw2] at h2
   have HNg := Qq (Neg_o g nb nilL ln 0 N w2 (h2.at_ 0 _ _ _ rfl) (h2.at_ 3 _ _ _ rfl) (h2.rel2 (i := 0) (j := 3) (by decide) rfl rfl).1 (by have := HP.out.2.2.2.2.2; omega))
   have H2 := Qq h2
   have HE := Qq (show -N = (N.natAbs : Int) by omega)
   clear h2 hn
   go_wp2_with fail
   (try rw [hg, hw2])
   clear hg hw2
   refine HNg.out.mono ?_
   rintro e w3 ⟨rfl, ho⟩
   obtain ⟨r, h3⟩ := H2.out.out (i := 0) rfl ho
   rw [HE.out] at h3
   have h4 : Ints w0 w3 [(zb, lz, Z), (gb, lg, G), (g, r, (N.natAbs : Int))] := Ints.pick120 h3
   have H4 := Qq h4
   clear h3 h4 ho HNg
   go_wp2_with fail
   go_meet
   case rel => exact ⟨g, r, rfl, H4.out⟩
  .
   have hn : ¬ N < 0 := of_decide_eq_false HSN.out
   have HE := Qq (show (N.natAbs : Int) = N by omega)
   clear hn
   go_wp2_with fail
   go_meet
   case rel => exact ⟨nb, ln, rfl, by rw [HE.out]; exact H.out⟩
 case rest =>
  obtain ⟨nb1, ln1, rfl, H1⟩ := hcut
  clear H cn
  have cg := (H1.out.at_ 1 _ _ _ rfl).neg.cell
  obtain ⟨sg', hsg⟩ : ∃ s, decide (G < 0) = s := ⟨_, rfl⟩
  rw [hsg] at cg
  have HSG := Qq hsg
  clear hsg
  go_upto_if 20 with fail
  go_cut [1] from 7 to 37 (fun s1 wx => ∃ (gb' : Nat) (lg' : Loc) (A : Int), s1 = .pointer (some ⟨gb', 0, none⟩) /\ Hid (InvS w0 wx zb gb' nb1 lz lg' ln1 Z A N G M))
  case first =>
   cases sg'
   rotate_left
   .
    have hn : G < 0 := of_decide_eq_true HSG.out
    have hN0 : N ≠ 0 := by have := HP.out.1; omega
    have h2 := H1.out.new
    obtain ⟨g, hg⟩ : ∃ g, wc.heap.size = g := ⟨_, rfl⟩
    obtain ⟨w2, hw2⟩ : ∃ w2, wc.alloc (.cells #[.bool false, .slice none 0 0] 58) = w2 := ⟨_, rfl⟩
    rw [hg, hw2] at h2
    have hlM := Zn HP.out.2.2.1
    have HMd := Qq (Mod_I T w0 w2 _ 0 2 3 g gb nb1 nilL lg ln1 0 G (N.natAbs : Int) h2 rfl rfl rfl (by decide) HT.out.1 (HT.out.2.2.2 _ _ (by rw [Int.natAbs_natCast]; omega) (by rw [Int.natAbs_natCast]; exact hlM) (by have := HP.out.2.2.2.2.1; omega)) (by omega) (by have := HP.out.2.2.2.2.1; omega) (by rw [Int.natAbs_natCast]; have := HP.out.2.2.2.2.2; omega))
    have H2 := Qq h2
    have e1 : 0 <= G % (N.natAbs : Int) := Int.emod_nonneg _ (by omega)
    have e2 : G % (N.natAbs : Int) < (N.natAbs : Int) := Int.emod_lt_of_pos _ (by omega)
    have e3 : ((N.natAbs : Nat) : Int) ∣ G % (N.natAbs : Int) - G := ⟨-(G / (N.natAbs : Int)), by rw [Int.mul_neg]; have := Int.mul_ediv_add_emod G (N.natAbs : Int); omega⟩
    have HE := Qq (Qj e1 (Qj (show (G % (N.natAbs : Int)).natAbs <= M by have := HP.out.2.2.1; omega) (dvd_natAbs_sub e3)))
    clear h2 hn hN0 hlM e1 e2 e3
    go_wp2_with fail
    (try rw [hg, hw2])
    clear hg hw2
    refine HMd.out.mono ?_
    rintro e w3 ⟨rfl, r, h3⟩
    have h4 : Ints w0 w3 [(zb, lz, Z), (g, r, G % (N.natAbs : Int)), (nb1, ln1, (N.natAbs : Int))] := Ints.pick103 h3
    have H4 := Qq h4
    clear h3 h4 HMd
    go_wp2_with fail
    go_meet
    case rel => exact ⟨g, r, _, rfl, H4.out, HE.out.1, HE.out.2.1, HE.out.2.2⟩
   .
    have hn : ¬ G < 0 := of_decide_eq_false HSG.out
    have HE := Qq (show 0 <= G by omega)
    clear hn
    go_wp2_with fail
    go_meet
    case rel => exact ⟨gb, lg, G, rfl, H1.out, HE.out, HP.out.2.1, by rw [Int.sub_self]; exact Int.dvd_zero _⟩
  case rest =>
   obtain ⟨gb1, lg1, A, rfl, H2⟩ := hcut
   clear H1 cg
   go_upto_region 8 with fail
   have h3 := H2.out.ints.new.new
   simp only [size_alloc] at h3
   obtain ⟨g, hg⟩ : ∃ g, wc.heap.size = g := ⟨_, rfl⟩
   obtain ⟨w3, hw3⟩ : ∃ w3, (wc.alloc (.cells #[.bool false, .slice none 0 0] 58)).alloc (.cells #[.bool false, .slice none 0 0] 58) = w3 := ⟨_, rfl⟩
   rw [hg, hw3] at h3
   have h4 := (Ints.pick10342 h3).s
   have hAN : (Nat.gcd A.natAbs ((N.natAbs : Nat) : Int).natAbs) = Nat.gcd G.natAbs N.natAbs := by rw [Int.natAbs_natCast]; exact gcd_congr H2.out.dv
   have HG := Qq (gcd_any T TK w0 w3 g (g + 1) gb1 nb1 nilL nilL lg1 ln1 _ _ A (N.natAbs : Int) (.pointer none) _ M h4 rfl rfl rfl rfl (Or.inl rfl) H2.out.le (by rw [Int.natAbs_natCast]; exact HP.out.2.2.1) (by have := HP.out.2.2.2.1; omega) HT.out.1 (HT.out.2.1.le (Nat.le_refl _)) HT.out.2.2.2)
   have HS := Qq (Qj hAN (show w0.heap.size <= g by have := (h4.nw 0 _ _ _ rfl).1; exact this))
   clear h3 h4 hAN
   rw [hg, hw3]
   clear hg hw3
   go_wp2_with fail
   refine HG.out.mono ?_
   rintro e w4 ⟨rfl, X, Y, lz4, lx4, s, R', k1, k2, k3, _, k5, k6⟩
   rw [HS.out.1] at k2
   have n4 : R'[3]? = some (nb1, ln1, sv (N.natAbs : Int)) := (k6 3 (by decide) (fun h => by omega)).trans rfl
   have z4 : R'[4]? = some (zb, lz, sv Z) := (k6 4 (by decide) (fun _ => rfl)).trans rfl
   obtain ⟨ob, oo, lo, o1, o2⟩ := HT.out.2.2.1.upd k1.up
   have hob : ob < w0.heap.size := by
    obtain ⟨ob', oo', lo', p1, p2⟩ := HT.out.2.2.1
    have := (p1.upd k1.up (fun h => h)).cell
    rw [o1.cell] at this
    cases this
    exact p2.free.lt
   have hd4 := (k1.at_ 0 _ _ _ k2).v
   have hx4 := k1.at_ 1 _ _ _ k3
   have gle : Nat.gcd G.natAbs N.natAbs <= M := gcd_le_max HP.out.2.1 HP.out.2.2.1
   have HC := Qq (Cmp_oO g ob oo lz4 lo (Nat.gcd G.natAbs N.natAbs : Int) 1 w4 hd4 o2 (by have := HS.out.2; omega) (by rw [Int.natAbs_natCast]; have := Zn gle; have := HP.out.2.2.2.1; omega))
   have co := o1.cell
   have hcx := Qq (fun w' (u : Upd NoF w4 w') => (u.cell hx4.neg.cell (fun h => h) : w'.cell? ⟨g + 1, 0, none⟩ = some (.bool s)))
   obtain ⟨D, hDD⟩ : ∃ D, Nat.gcd G.natAbs N.natAbs = D := ⟨_, rfl⟩
   rw [hDD] at HC
   have H4 := Qq (Qj k1 (Qj k3 (Qj n4 (Qj z4 (Qj k5 hDD)))))
   clear k1 k2 k3 k5 k6 n4 z4 o1 o2 hob hd4 hx4 gle hDD HG
   go_wp2_with fail
   refine HC.out.mono ?_
   rintro e w5 ⟨rfl, hDr⟩
   have HU5 := Qq hDr.upd
   have cx5 := hcx.out w5 HU5.out
   clear HC hDr co hcx
   by_cases hD1 : D = 1
   .
    have q1 : (cmpI (D : Int) 1 != 0) = false := by subst hD1; rfl
    have HD1 := Qq (show Nat.gcd G.natAbs N.natAbs = 1 from H4.out.2.2.2.2.2.trans hD1)
    have i5 := H4.out.1.upd HU5.out
    clear hD1
    have hsum : A * X + (N.natAbs : Int) * Y = 1 := by
     have := H4.out.2.2.2.2.1.sum
     rw [Int.natAbs_natCast, gcd_congr H2.out.dv, HD1.out] at this
     exact this
    have hdv := inv_dvd hsum H2.out.dv
    have hbX := H4.out.2.2.2.2.1.bX
    rw [Int.natAbs_natCast] at hbX
    have hXM : X.natAbs <= M + 1 := by have := HP.out.2.2.1; omega
    have hlX : (digs X.natAbs).length <= 400 := by
     have := Zn hXM
     have := digs_succ_len M
     have := HP.out.2.2.2.1
     omega
    cases s
    .
     have hX0 : 0 <= X := (i5.at_ 1 _ _ _ H4.out.2.1).sg.2 rfl
     have x5 : R'[1]? = some (g + 1, lx4, sv X) := by rw [H4.out.2.1]; unfold sv; rw [decide_eq_false (by omega : ¬ X < 0)]
     have HST := Qq (Set_S w0 w5 R' 4 1 zb (g + 1) lz lx4 (sv Z) X i5 H4.out.2.2.2.1 x5 (by decide) (by omega))
     have HF := Qq (Qj hdv.1 (show X.natAbs <= 2 * M + 1 by omega))
     clear hsum hdv hbX hXM hlX hX0 x5 i5
     go_wp2_with fail
     refine HST.out.mono ?_
     rintro e w6 ⟨rfl, r, h6⟩
     have hv : IntV w6 zb r X := (h6.at_ 4 _ _ _ (List.getElem?_set_self (lt_of_get H4.out.2.2.2.1))).v
     have H6 := Qq (Qj hv h6.up)
     clear hv h6 HST
     go_wp2_with fail
     go_ret
     exact Or.inl ⟨HD1.out, X, r, rfl, H6.out.1, HF.out.1, HF.out.2, H6.out.2⟩
    .
     have HST := Qq (AddS_i w0 w5 R' 4 1 3 zb (g + 1) nb1 lz lx4 ln1 (sv Z) ((true, X) : SV) (sv (N.natAbs : Int)) i5 H4.out.2.2.2.1 H4.out.2.1 H4.out.2.2.1 (show (digs X.natAbs).length + 1 <= 1099511627776 by omega) (show (digs ((N.natAbs : Nat) : Int).natAbs).length + 1 <= 1099511627776 by rw [Int.natAbs_natCast]; have := HP.out.2.2.2.2.2; omega))
     have HF := Qq (Qj hdv.2 (show (X + (N.natAbs : Int)).natAbs <= 2 * M + 1 by have := HP.out.2.2.1; omega))
     clear hsum hdv hbX hXM hlX i5
     go_wp2_with fail
     refine HST.out.mono ?_
     rintro e w6 ⟨rfl, r, h6⟩
     have hv : IntV w6 zb r (X + (N.natAbs : Int)) := (h6.at_ 4 _ _ _ (List.getElem?_set_self (lt_of_get H4.out.2.2.2.1))).v
     have H6 := Qq (Qj hv h6.up)
     clear hv h6 HST
     go_wp2_with fail
     go_ret
     exact Or.inl ⟨HD1.out, _, r, rfl, H6.out.1, HF.out.1, HF.out.2, H6.out.2⟩
   .
    have q1 : (cmpI (D : Int) 1 != 0) = true := by
     unfold cmpI
     rcases Nat.lt_or_ge D 1 with h | h
     . rw [if_pos (by omega)]; rfl
     . rw [if_neg (by omega), if_pos (by omega)]; rfl
    have HD1 := Qq (show Nat.gcd G.natAbs N.natAbs ≠ 1 by rw [H4.out.2.2.2.2.2]; exact hD1)
    have HF := Qq (H4.out.1.up.trans HU5.out)
    clear hD1
    go_wp2_with fail
    go_ret
    exact Or.inr ⟨HD1.out, rfl, HF.out⟩
theorem answer_nil (w : World) :
  Calls Tryz.prog 61 #[.pointer none] w fun e w' => e = .returned (.tuple #[.agg #[.bool false, .slice none 0 0], .int .i64 1]) /\ Upd NoF w w' := by
 go_enter Tryz.func61, Tryz.ntmps61
 have h1 := heap_alloc_new w (.cells #[.bool false, .slice none 0 0] 24)
 have u1 : Upd NoF w (w.alloc (.cells #[.bool false, .slice none 0 0] 24)) := (Upd.refl NoF w).alloc _
 have k1 : Zh 24 (w.alloc (.cells #[.bool false, .slice none 0 0] 24)) w.heap.size 0 (.bool false) := ⟨_, h1, by simp⟩
 have k2 : Zh 24 (w.alloc (.cells #[.bool false, .slice none 0 0] 24)) w.heap.size 1 (.slice none 0 0) := ⟨_, h1, by simp⟩
 obtain ⟨s1, s2, s3⟩ := stored_pair (w := w) (x1 := .bool false) (x2 := .slice none 0 0) k1 k2 u1 (by omega)
 have HE := Qq s1
 clear s1 k1 k2 u1 h1
 go_wp2_with fail
 refine bodyPost_ret (v := .tuple #[.agg #[.bool false, .slice none 0 0], .int .i64 1]) (by simp [results, Tryz.results61, go_sem, s2, s3]) rfl ?_
 first
 | exact ⟨rfl, HE.out⟩
 | exact ⟨rfl, (Upd.refl NoF w).alloc _⟩
def GivesNil (f : FuncId) (cap : Array Value) (w : World) : Prop := Calls Tryz.prog f cap w fun e w' => e = .returned (.pointer none) /\ Upd NoF w w'
theorem ans1_nil (f : FuncId) (cap : Array Value) (fb ob cb : Nat) (w : World) (hcf : ∀ w, (callFunc f cap).run Tryz.prog w = .ok (.enter f cap) w) (hoc : ob ≠ cb) (hf : Zh 71 w fb 0 (.func (Fn.func f) #[] cap))
  (h0 : Zh 24 w ob 0 (.bool false)) (h1 : Zh 24 w ob 1 (.slice none 0 0)) (hc : Zh 3 w cb 0 (.int .i64 0)) (h : GivesNil f cap w) :
  Calls Tryz.prog 60 #[.pointer (some ⟨fb, 0, none⟩), .pointer (some ⟨ob, 0, none⟩), .pointer (some ⟨cb, 0, none⟩)] w fun e w' => e = .returned (.tuple #[]) /\ Upd (Outs ob cb) w w' ∧
   ∃ (A : Option Addr) (c : Nat), Zh 24 w' ob 0 (.bool false) /\ Zh 24 w' ob 1 (.slice A 0 c) /\ Zh 3 w' cb 0 (.int .i64 1) := by
 have cf := hf.cell
 have ne1 : ¬ ob = cb := hoc
 have ne2 : ¬ cb = ob := fun h => hoc h.symm
 have HI := Qq (Qj h (Qj h0 (Qj h1 hc)))
 clear hf h0 h1 hc h
 go_enter Tryz.func60, Tryz.ntmps60
 go_wp2_with fail
 refine HI.out.1.mono ?_
 rintro e w1 ⟨rfl, u1⟩
 have U1 := Qq u1
 clear u1
 go_wp2_with fail
 refine (answer_nil w1).mono ?_
 rintro e w2 ⟨rfl, u2⟩
 have u2 := U1.out.trans u2
 have k1 := HI.out.2.1.upd u2 (fun h => h)
 have k2 := HI.out.2.2.1.upd u2 (fun h => h)
 have k3 := HI.out.2.2.2.upd u2 (fun h => h)
 have c0 := k1.cell
 have f0 := k1.frozen
 have c1 := k2.cell
 have f1 := k2.frozen
 have c2 := k3.cell
 have f2 := k3.frozen
 have HK := Qq (Qj k1 (Qj k2 (Qj k3 u2)))
 clear k1 k2 k3 u2
 go_wp2_with fail
 refine ⟨rfl, _, results_none rfl _ _ _, rfl, ?_, none, 0, ?_, ?_, ?_⟩
 . exact (((HK.out.2.2.2.weak (G := Outs ob cb) (fun _ _ h => h.elim)).setCell (fun _ => Or.inl rfl) _).setCell (fun _ => Or.inl rfl) _).setCell (fun _ => Or.inr rfl) _
 . exact ((HK.out.1.set _).far _ (by omega)).far _ (by omega)
 . exact ((HK.out.2.1.far _ (by omega)).set _).far _ (by omega)
 . exact ((HK.out.2.2.1.far _ (by omega)).far _ (by omega)).set _
theorem answered_nil (f : FuncId) (cap : Array Value) (w : World) (hcf : ∀ w, (callFunc f cap).run Tryz.prog w = .ok (.enter f cap) w) (h : ∀ w', Upd NoF w w' -> GivesNil f cap w') :
  Calls Tryz.prog 42 #[.func (Fn.func f) #[] cap] w fun e w' => ∃ A c, e = .returned (.tuple #[.agg #[.bool false, .slice A 0 c], .int .i64 1]) /\ Upd NoF w w' := by
 have hmf : ∀ (fn : Fn) (first cap : Array Value) (w : World), (Instr.makeFunc fn first cap).run Tryz.prog w = .ok (.func fn first cap) w := fun _ _ _ _ => rfl
 have HH := Qq (Qj hcf h)
 clear hcf h
 go_enter Tryz.func42, Tryz.ntmps42
 go_wp2_with fail
 have HB := Qq (boxF w (.func (Fn.func f) #[] cap))
 obtain ⟨g, hg⟩ : ∃ g, w.heap.size = g := ⟨_, rfl⟩
 obtain ⟨w4, hw4⟩ : ∃ w4, ((((w.alloc (.cells #[.func (Fn.func f) #[] cap] 71)).alloc (.cells #[.bool false, .slice none 0 0] 24)).alloc (.cells #[.bool false, .slice none 0 0] 24)).alloc (.cells #[.int .i64 0] 3)) = w4 := ⟨_, rfl⟩
 rw [hg, hw4] at HB
 rw [hg, hw4]
 have hgs : w4.heap.size = g + 4 := HB.out.size
 have uG : Upd NoF w4 (gW w4) := (Upd.refl NoF w4).alloc _
 have HA := ans1_nil f cap g (g + 2) (g + 3) (gW w4) HH.out.1 (by omega) (HB.out.f.upd uG (fun h => h)) (HB.out.o0.upd uG (fun h => h)) (HB.out.o1.upd uG (fun h => h)) (HB.out.c.upd uG (fun h => h)) (HH.out.2 _ (HB.out.up.trans uG))
 have HG := Qq (guarded_ret 60 #[.pointer (some ⟨g, 0, none⟩), .pointer (some ⟨g + 2, 0, none⟩), .pointer (some ⟨g + 3, 0, none⟩)] w4 (Outs (g + 2) (g + 3)) _ (by rw [hgs]; rintro (h | h) <;> omega) (enters_94 _) HA)
 clear HA hw4
 refine HG.out.mono ?_
 rintro e w6 ⟨rfl, w5, ⟨A, c, q1, q2, q3⟩, u5, u6, u6r⟩
 rw [hgs] at u6
 have k1 := q1.upd u6 (fun h => by have : g + 2 = g + 4 := h; omega)
 have k2 := q2.upd u6 (fun h => by have : g + 2 = g + 4 := h; omega)
 have k3 := q3.upd u6 (fun h => by have : g + 3 = g + 4 := h; omega)
 have U6 : Upd NoF w w6 := HB.out.up.then ((uG.weak (G := fun b _ => g <= b) (fun _ _ h => h.elim)).trans ((u5.weak (G := fun b _ => g <= b) (fun b i h => by rcases h with rfl | rfl <;> omega)).trans (u6.weak (G := fun b _ => g <= b) (fun b i h => by have : b = g + 4 := h; omega)))) (fun _ _ _ h => h.elim) (fun b i hb h => by omega)
 have k5 := (HB.out.r0.upd uG (fun h => h)).upd u5 (by rintro (h | h) <;> omega)
 have k6 := (HB.out.r1.upd uG (fun h => h)).upd u5 (by rintro (h | h) <;> omega)
 have k5 := k5.upd u6 (fun h => by have : g + 1 = g + 4 := h; omega)
 have k6 := k6.upd u6 (fun h => by have : g + 1 = g + 4 := h; omega)
 have c1 := k1.cell
 have c2 := k2.cell
 have c3 := k3.cell
 have d1 := k5.cell
 have d2 := k5.frozen
 have d3 := k6.cell
 have d4 := k6.frozen
 obtain ⟨s1, s2, s3⟩ := stored_pair (w := w) (x1 := .bool false) (x2 := .slice A 0 c) k5 k6 U6 (by omega)
 have HE := Qq s1
 clear q1 q2 q3 u5 u6 u6r k1 k2 k3 k5 k6 U6 s1 uG
 go_wp2_with fail
 go_region
 all_goals
  go_wp2_with fail
  refine bodyPost_ret (v := .tuple #[.agg #[.bool false, .slice A 0 c], .int .i64 1]) (by simp [results, Tryz.results42, go_sem, s2, s3]) rfl ?_
  exact ⟨_, _, rfl, HE.out.drew⟩
def GivesP (f : FuncId) (cap : Array Value) (P : Int -> Prop) (w : World) : Prop := Calls Tryz.prog f cap w fun e w' => ∃ (V : Int) (zb : Nat) (l : Loc), P V /\ e = .returned (.pointer (some ⟨zb, 0, none⟩)) /\ IntV w' zb l V /\ Upd NoF w w'
theorem ans1_P (f : FuncId) (cap : Array Value) (fb ob cb : Nat) (P : Int -> Prop) (w : World) (hcf : ∀ w, (callFunc f cap).run Tryz.prog w = .ok (.enter f cap) w) (hoc : ob ≠ cb) (hf : Zh 71 w fb 0 (.func (Fn.func f) #[] cap))
  (h0 : Zh 24 w ob 0 (.bool false)) (h1 : Zh 24 w ob 1 (.slice none 0 0)) (hc : Zh 3 w cb 0 (.int .i64 0)) (hlen : ∀ V, P V -> (digs V.natAbs).length <= 1099511627776) (h : GivesP f cap P w) :
  Calls Tryz.prog 60 #[.pointer (some ⟨fb, 0, none⟩), .pointer (some ⟨ob, 0, none⟩), .pointer (some ⟨cb, 0, none⟩)] w fun e w' => e = .returned (.tuple #[]) /\ Upd (Outs ob cb) w w' ∧
   ∃ (V : Int) (A : Option Addr) (c : Nat), P V /\ Zh 24 w' ob 0 (.bool (decide (V < 0))) /\ Zh 24 w' ob 1 (.slice A (digs V.natAbs).length c) /\ Zh 3 w' cb 0 (.int .i64 0) /\ (digs V.natAbs).length <= c /\ RdU w' A (digs V.natAbs) := by
 have cf := hf.cell
 have ne1 : ¬ ob = cb := hoc
 have ne2 : ¬ cb = ob := fun h => hoc h.symm
 have HI := Qq (Qj h (Qj h0 (Qj h1 (Qj hc hlen))))
 clear hf h0 h1 hc hlen h
 go_enter Tryz.func60, Tryz.ntmps60
 go_wp2_with fail
 refine HI.out.1.mono ?_
 rintro e w1 ⟨V, zb, l, hP, rfl, h1, u1⟩
 have H1 := Qq (Qj h1 u1)
 clear h1 u1
 go_wp2_with fail
 refine (answer_any zb l V w1 H1.out.1 (HI.out.2.2.2.2 V hP)).mono ?_
 rintro e w2 ⟨v, rfl, ⟨A, c, rfl, n1, n3⟩, u2⟩
 have u2 := H1.out.2.trans u2
 have k1 := HI.out.2.1.upd u2 (fun h => h)
 have k2 := HI.out.2.2.1.upd u2 (fun h => h)
 have k3 := HI.out.2.2.2.1.upd u2 (fun h => h)
 have c0 := k1.cell
 have f0 := k1.frozen
 have c1 := k2.cell
 have f1 := k2.frozen
 have c2 := k3.cell
 have f2 := k3.frozen
 have HK := Qq (Qj k1 (Qj k2 (Qj k3 (Qj n1 (Qj n3 u2)))))
 clear k1 k2 k3 n1 n3 u2
 go_wp2_with fail
 refine ⟨rfl, _, results_none rfl _ _ _, rfl, ?_, V, A, c, hP, ?_, ?_, ?_, HK.out.2.2.2.1, ?_⟩
 . exact (((HK.out.2.2.2.2.2.weak (G := Outs ob cb) (fun _ _ h => h.elim)).setCell (fun _ => Or.inl rfl) _).setCell (fun _ => Or.inl rfl) _).setCell (fun _ => Or.inr rfl) _
 . exact ((HK.out.1.set _).far _ (by omega)).far _ (by omega)
 . exact ((HK.out.2.1.far _ (by omega)).set _).far _ (by omega)
 . exact ((HK.out.2.2.1.far _ (by omega)).far _ (by omega)).set _
 . exact RdU.one (HK.out.2.2.2.2.1.store HK.out.1 HK.out.2.1 (fun _ _ h => by cases h) (fun _ _ h => by cases h)) ((HK.out.2.2.1.far _ (by omega)).far _ (by omega)).cell (fun _ h => by cases h)
theorem answered_P (f : FuncId) (cap : Array Value) (P : Int -> Prop) (w : World) (hcf : ∀ w, (callFunc f cap).run Tryz.prog w = .ok (.enter f cap) w) (hlen : ∀ V, P V -> (digs V.natAbs).length <= 1099511627776) (h : ∀ w', Upd NoF w w' -> GivesP f cap P w') :
  Calls Tryz.prog 42 #[.func (Fn.func f) #[] cap] w fun e w' => ∃ v V, P V /\ e = .returned (.tuple #[v, .int .i64 0]) /\ NumI w' v V /\ Upd NoF w w' := by
 have hmf : ∀ (fn : Fn) (first cap : Array Value) (w : World), (Instr.makeFunc fn first cap).run Tryz.prog w = .ok (.func fn first cap) w := fun _ _ _ _ => rfl
 have HH := Qq (Qj hcf (Qj hlen h))
 clear hcf hlen h
 go_enter Tryz.func42, Tryz.ntmps42
 go_wp2_with fail
 have HB := Qq (boxF w (.func (Fn.func f) #[] cap))
 obtain ⟨g, hg⟩ : ∃ g, w.heap.size = g := ⟨_, rfl⟩
 obtain ⟨w4, hw4⟩ : ∃ w4, ((((w.alloc (.cells #[.func (Fn.func f) #[] cap] 71)).alloc (.cells #[.bool false, .slice none 0 0] 24)).alloc (.cells #[.bool false, .slice none 0 0] 24)).alloc (.cells #[.int .i64 0] 3)) = w4 := ⟨_, rfl⟩
 rw [hg, hw4] at HB
 rw [hg, hw4]
 have hgs : w4.heap.size = g + 4 := HB.out.size
 have uG : Upd NoF w4 (gW w4) := (Upd.refl NoF w4).alloc _
 have HA := ans1_P f cap g (g + 2) (g + 3) P (gW w4) HH.out.1 (by omega) (HB.out.f.upd uG (fun h => h)) (HB.out.o0.upd uG (fun h => h)) (HB.out.o1.upd uG (fun h => h)) (HB.out.c.upd uG (fun h => h)) HH.out.2.1 (HH.out.2.2 _ (HB.out.up.trans uG))
 have HG := Qq (guarded_ret 60 #[.pointer (some ⟨g, 0, none⟩), .pointer (some ⟨g + 2, 0, none⟩), .pointer (some ⟨g + 3, 0, none⟩)] w4 (Outs (g + 2) (g + 3)) _ (by rw [hgs]; rintro (h | h) <;> omega) (enters_94 _) HA)
 clear HA hw4
 refine HG.out.mono ?_
 rintro e w6 ⟨rfl, w5, ⟨V, A, c, hP, q1, q2, q3, q4, q5⟩, u5, u6, u6r⟩
 rw [hgs] at u6
 have k1 := q1.upd u6 (fun h => by have : g + 2 = g + 4 := h; omega)
 have k2 := q2.upd u6 (fun h => by have : g + 2 = g + 4 := h; omega)
 have k3 := q3.upd u6 (fun h => by have : g + 3 = g + 4 := h; omega)
 have U6 : Upd NoF w w6 := HB.out.up.then ((uG.weak (G := fun b _ => g <= b) (fun _ _ h => h.elim)).trans ((u5.weak (G := fun b _ => g <= b) (fun b i h => by rcases h with rfl | rfl <;> omega)).trans (u6.weak (G := fun b _ => g <= b) (fun b i h => by have : b = g + 4 := h; omega)))) (fun _ _ _ h => h.elim) (fun b i hb h => by omega)
 have r6 := u6r A _ q5
 have k5 := (HB.out.r0.upd uG (fun h => h)).upd u5 (by rintro (h | h) <;> omega)
 have k6 := (HB.out.r1.upd uG (fun h => h)).upd u5 (by rintro (h | h) <;> omega)
 have k5 := k5.upd u6 (fun h => by have : g + 1 = g + 4 := h; omega)
 have k6 := k6.upd u6 (fun h => by have : g + 1 = g + 4 := h; omega)
 have c1 := k1.cell
 have c2 := k2.cell
 have c3 := k3.cell
 have d1 := k5.cell
 have d2 := k5.frozen
 have d3 := k6.cell
 have d4 := k6.frozen
 obtain ⟨s1, s2, s3⟩ := stored_pair (w := w) (x1 := .bool (decide (V < 0))) (x2 := .slice A (digs V.natAbs).length c) k5 k6 U6 (by omega)
 have s4 : RdU ((w6.setCell ⟨g + 1, 0, none⟩ (.bool (decide (V < 0)))).setCell ⟨g + 1, 1, none⟩ (.slice A (digs V.natAbs).length c)) A (digs V.natAbs) := r6.store k5 k6 (fun _ _ h => by cases h) (fun _ _ h => by cases h)
 have HE := Qq (Qj s1 (Qj q4 s4))
 clear q1 q2 q3 q4 q5 u5 u6 u6r k1 k2 k3 k5 k6 U6 r6 s1 s4 uG
 go_wp2_with fail
 go_region
 all_goals
  go_wp2_with fail
  refine bodyPost_ret (v := .tuple #[.agg #[.bool (decide (V < 0)), .slice A (digs V.natAbs).length c], .int .i64 0]) (by simp [results, Tryz.results42, go_sem, s2, s3]) rfl ?_
  exact ⟨_, V, hP, rfl, ⟨A, c, rfl, HE.out.2.1, HE.out.2.2.upd ((Upd.refl NoF _).drew)⟩, HE.out.1.drew⟩
def Pan (e : Ending) : Prop := ∃ u pv, e = .panicked [{ v := .iface u pv, recovered := false }]
theorem div_zero (z S z2 u : Value) (A : Option Addr) (c : Nat) (w : World) :
  Calls Tryz.prog 59 #[z, S, z2, u, .slice A 0 c] w fun e w' => Pan e /\ w' = w := by
 go_enter_defers Tryz.func59, Tryz.ntmps59
 go_wp2
 exact ⟨⟨_, _, rfl⟩, rfl⟩
theorem QuoRem_zero (zb xb yb rb : Nat) (z x y r : Loc) (sz sx sr : Bool) (nz nx nr : Nat) (w : World) (hz : IntD w zb z sz nz) (hx : IntD w xb x sx nx) (hy : IntV w yb y 0) (hr : IntD w rb r sr nr) :
  Calls Tryz.prog 41 #[.pointer (some ⟨zb, 0, none⟩), .pointer (some ⟨xb, 0, none⟩), .pointer (some ⟨yb, 0, none⟩), .pointer (some ⟨rb, 0, none⟩)] w fun e w' => Pan e /\ Upd NoF w w' := by
 have c3 := hz.abs.cell
 have c6 := hx.abs.cell
 have c8 := hy.abs.cell
 have c9 := hr.abs.cell
 rw [show (digs (0 : Int).natAbs).length = 0 from Zx.2 rfl] at c8
 clear hx hy hz hr
 go_enter Tryz.func41, Tryz.ntmps41
 go_wp2_with fail
 refine wp_region_pre_open 2 18 10 (Array.replicate 18 true ++ Array.replicate 10 false) (by kernel_rfl) (by kernel_rfl) rfl ?_
 simp only [List.take_succ_cons, List.take_zero, List.drop_succ_cons, List.drop_zero]
 repeat (refine Zz ?_ (fun _ _ _ h => h) (by rfl) (by intro _; go_simp; with_reducible rfl) ?_; (try simp only [Act.put, List.setIfInBounds_toArray, List.set_cons_zero, List.set_cons_succ]))
 refine Yd ?_
 repeat still_step
 refine wpStill_nil ?_
 refine wpAny_ready (rs := [18]) (by kernel_rfl) (by simp) ?_
 refine AllReady.cons rfl (fun K hK => ?_) AllReady.nil
 go_simp
 refine (div_zero _ _ _ _ _ _ _).mono ?_
 rintro e w1 ⟨⟨u, pv, rfl⟩, rfl⟩
 go_wp2
 exact ⟨rfl, ⟨_, _, rfl⟩, (Upd.refl NoF w).drew⟩
theorem Mod_zero (w0 w : World) (L : List (Nat × Loc × Int)) (i j k zb xb yb : Nat) (z x y : Loc) (Z X : Int) (h : Ints w0 w L) (hi : L[i]? = some (zb, z, Z)) (hj : L[j]? = some (xb, x, X)) (hk : L[k]? = some (yb, y, 0)) (hik : i ≠ k) :
  Calls Tryz.prog 62 #[.pointer (some ⟨zb, 0, none⟩), .pointer (some ⟨xb, 0, none⟩), .pointer (some ⟨yb, 0, none⟩)] w fun e w' => Pan e /\ Upd NoF w w' := by
 obtain ⟨hne, hap⟩ := h.rel2 hik hi hk
 have hz := h.at_ i _ _ _ hi
 have hy := h.at_ k _ _ _ hk
 have q1 : ∀ nq, (binOp .eql 54 (.pointer (some ⟨zb, 0, none⟩)) (.pointer (some ⟨yb, 0, none⟩))).run Tryz.prog (w.drewN nq) = .ok (.bool false) (w.drewN nq) := fun nq => eql_ints (w := w.drewN nq) hz.neg.free hy.neg.free (r := false) (by rw [addr_beq]; exact decide_eq_false (fun h => hne h.1))
 have c1 := hz.abs.cell
 have c2 := hy.abs.cell
 have HA := Qq (fun (w' : World) (u : Upd NoF w w') => (by have := alias_any z y (digs Z.natAbs).length (digs (0 : Int).natAbs).length w' (hz.nat.ok.upd u) (hy.nat.ok.upd u); rw [hap.alias] at this; exact this : Calls Tryz.prog 66 #[.slice z.A (digs Z.natAbs).length z.c, .slice y.A (digs (0 : Int).natAbs).length y.c] w' fun e w'' => e = .returned (.bool false) /\ Drew w' w''))
 have H := Qq (Qj h (Qj hi (Qj hj hk)))
 clear h hi hj hk hik hne hap hz hy
 go_enter Tryz.func62, Tryz.ntmps62
 go_wp2_with fail
 go_quiet ((go_at_call 66; first | exact Calls.quiet_add (HA.out _ ((Upd.refl NoF w).drewN _)) | exact Calls.quiet_of (HA.out _ ((Upd.refl NoF w).drewN _))))
 go_wp2_with fail
 have h2 : Ints w0 ((w.drewN nq).alloc (.cells #[.bool false, .slice none 0 0] 58)) ((w.heap.size, nilL, 0) :: L) := (H.out.1.upd ((Upd.refl NoF w).drewN nq)).new
 have hu : Upd NoF w ((w.drewN nq).alloc (.cells #[.bool false, .slice none 0 0] 58)) := ((Upd.refl NoF w).drewN nq).alloc _
 obtain ⟨g, hg⟩ : ∃ g, w.heap.size = g := ⟨_, rfl⟩
 obtain ⟨w2, hw2⟩ : ∃ w2, (w.drewN nq).alloc (.cells #[.bool false, .slice none 0 0] 58) = w2 := ⟨_, rfl⟩
 rw [hg, hw2] at h2
 rw [hw2] at hu
 have ai : ((g, nilL, (0 : Int)) :: L)[i + 1]? = some (zb, z, Z) := H.out.2.1
 have aj : ((g, nilL, (0 : Int)) :: L)[j + 1]? = some (xb, x, X) := H.out.2.2.1
 have ak : ((g, nilL, (0 : Int)) :: L)[k + 1]? = some (yb, y, 0) := H.out.2.2.2
 have HQ := Qq (QuoRem_zero g xb yb zb nilL x y z _ _ _ _ _ _ w2 (h2.at_ 0 _ _ _ rfl).dest (h2.at_ _ _ _ _ aj).dest (h2.at_ _ _ _ _ ak) (h2.at_ _ _ _ _ ai).dest)
 have HU := Qq hu
 clear h2 ai aj ak c1 c2 HA hu
 rw [hg, hw2]
 clear hg hw2
 refine HQ.out.mono ?_
 rintro e w3 ⟨⟨u, pv, rfl⟩, ho⟩
 have HF := Qq (HU.out.trans ho)
 clear ho
 go_wp2
 exact ⟨rfl, ⟨_, _, rfl⟩, HF.out⟩
theorem ModInv_panic (w0 w : World) (zb gb nb : Nat) (lz lg ln : Loc) (Z G : Int) (h : Ints w0 w [(zb, lz, Z), (gb, lg, G), (nb, ln, 0)]) (hG : G < 0) :
  Calls Tryz.prog 44 #[.pointer (some ⟨zb, 0, none⟩), .pointer (some ⟨gb, 0, none⟩), .pointer (some ⟨nb, 0, none⟩)] w fun e w' => Pan e /\ Upd NoF w0 w' := by
 have cn := (h.at_ 2 _ _ _ rfl).neg.cell
 have cg := (h.at_ 1 _ _ _ rfl).neg.cell
 rw [decide_eq_false (Int.lt_irrefl 0)] at cn
 rw [decide_eq_true hG] at cg
 have h2 := h.new
 obtain ⟨g, hg⟩ : ∃ g, w.heap.size = g := ⟨_, rfl⟩
 obtain ⟨w2, hw2⟩ : ∃ w2, w.alloc (.cells #[.bool false, .slice none 0 0] 58) = w2 := ⟨_, rfl⟩
 rw [hg, hw2] at h2
 have HM := Qq (Mod_zero w0 w2 _ 0 2 3 g gb nb nilL lg ln 0 G h2 rfl rfl rfl (by decide))
 have HU := Qq h2.up
 clear h2 h hG
 go_enter Tryz.func44, Tryz.ntmps44
 go_wp2_with fail
 (try rw [hg, hw2])
 clear hg hw2
 refine HM.out.mono ?_
 rintro e w3 ⟨⟨u, pv, rfl⟩, ho⟩
 have HF := Qq (HU.out.trans ho)
 clear ho
 go_wp2
 exact ⟨rfl, ⟨_, _, rfl⟩, HF.out⟩
theorem inv_news {w w' : World} {zb ab bb : Nat} {la lb : Loc} {A B : Int} (u : Upd NoF w w') (hz : IntP w' zb nilL (sv 0)) (ha : IntV w' ab la A) (hb : IntV w' bb lb B) (nz : w.heap.size <= zb) (na : w.heap.size <= ab) (nb : w.heap.size <= bb) (ka : 0 < la.c -> w.heap.size <= la.b) (kb : 0 < lb.c -> w.heap.size <= lb.b)
  (d : zb ≠ ab /\ zb ≠ bb /\ ab ≠ bb) (hap : Zj la lb) : Ints w w' [(zb, nilL, 0), (ab, la, A), (bb, lb, B)] := by
 have nA : ∀ l : Loc, Zj nilL l := fun l => Or.inl rfl
 have h4 := (Zl.of u).add hb.p nb (by rcases Nat.eq_zero_or_pos lb.c with h | h; exact Or.inl h; exact Or.inr (kb h)) (by simp)
 have h3 := h4.add ha.p na (by rcases Nat.eq_zero_or_pos la.c with h | h; exact Or.inl h; exact Or.inr (ka h)) (by simp only [List.forall_mem_cons]; exact ⟨⟨d.2.2, hap⟩, by simp⟩)
 have h2 := h3.add hz nz (Or.inl rfl) (by simp only [List.forall_mem_cons]; exact ⟨⟨d.1, nA _⟩, ⟨d.2.1, nA _⟩, by simp⟩)
 exact h2.ints [(zb, nilL, 0), (ab, la, A), (bb, lb, B)] rfl
def InvP (G N : Int) (M : Nat) (V : Int) : Prop := N ∣ V * G - 1 /\ V.natAbs <= 2 * M + 1
theorem enters_inv (cap : Array Value) (w : World) : (callFunc 43 cap).run Tryz.prog w = .ok (.enter 43 cap) w := by
 simp [callFunc, go_sem, Tryz.func43]
 rfl
theorem boxes3 (w : World) (s1 s2 : Bool) (A1 A2 : Option Addr) (n1 c1 n2 c2 : Nat) : ∃ w3, w3 = ((w.alloc (.cells #[.bool s1, .slice A1 n1 c1] 24)).alloc (.cells #[.bool s2, .slice A2 n2 c2] 24)).alloc (.cells #[.bool false, .slice none 0 0] 24) ∧
  (BoxN w3 w.heap.size s1 A1 n1 c1 /\ BoxN w3 (w.heap.size + 1) s2 A2 n2 c2 /\ BoxN w3 (w.heap.size + 1 + 1) false none 0 0) /\ Upd NoF w w3 /\ w3.heap.size = w.heap.size + 1 + 1 + 1 := by
 have b1 := BoxN.new w s1 A1 n1 c1
 obtain ⟨w1, hw1⟩ : ∃ w1, w.alloc (.cells #[.bool s1, .slice A1 n1 c1] 24) = w1 := ⟨_, rfl⟩
 have s1' : w1.heap.size = w.heap.size + 1 := by rw [<- hw1]; simp
 have u1 : Upd NoF w w1 := by rw [<- hw1]; exact (Upd.refl NoF w).alloc _
 rw [hw1] at b1 ⊢
 have b2 := BoxN.new w1 s2 A2 n2 c2
 obtain ⟨w2, hw2⟩ : ∃ w2, w1.alloc (.cells #[.bool s2, .slice A2 n2 c2] 24) = w2 := ⟨_, rfl⟩
 have s2' : w2.heap.size = w.heap.size + 1 + 1 := by rw [<- hw2]; simp [s1']
 have u2 : Upd NoF w1 w2 := by rw [<- hw2]; exact (Upd.refl NoF w1).alloc _
 rw [hw2, s1'] at b2
 rw [hw2]
 have b3 := BoxN.new w2 false none 0 0
 rw [s2'] at b3
 have u3 : Upd NoF w2 (w2.alloc (.cells #[.bool false, .slice none 0 0] 24)) := (Upd.refl NoF w2).alloc _
 exact ⟨_, rfl, ⟨b1.upd (u2.trans u3), b2.upd u3, b3⟩, (u1.trans u2).trans u3, by rw [size_alloc, s2']⟩
theorem inv1_good (T TK : Int) (xb yb : Nat) (sx sy : Bool) (xA yA : Option Addr) (n m cx cy : Nat) (G N : Int) (M : Nat) (w : World) (bx : BoxN w xb sx xA n cx) (by_ : BoxN w yb sy yA m cy) (hX : NumR w (.agg #[.bool sx, .slice xA n cx]) n G) (hY : NumR w (.agg #[.bool sy, .slice yA m cy]) m N) (hn : n <= 200) (hm : m <= 200) (hN : N ≠ 0 \/ 0 <= G) (gM : G.natAbs <= M) (nM : N.natAbs <= M) (hM : (digs M).length <= 300) (hT : DThr w T) (hK : KThr w TK (digs M).length) (hO : OneI w)
  (hD : ∀ A B : Nat, B ≠ 0 -> (digs B).length <= (digs M).length -> (digs A).length <= 1000 -> DivAtT T A B) (hg : Nat.gcd G.natAbs N.natAbs = 1) :
  GivesP 43 #[.pointer (some ⟨xb, 0, none⟩), .pointer (some ⟨yb, 0, none⟩)] (InvP G N M) w := by
 have HOX := Qq (fun (w' : World) (u : Upd NoF w w') => of_num _ n G w' (hX.upd u) (by omega))
 have HOY := Qq (fun (w' : World) (u : Upd NoF w w') => of_num _ m N w' (hY.upd u) (by omega))
 have HS := Qq (fun (w' : World) (u : Upd NoF w w') => (show w'.cell? ⟨xb, 0, none⟩ = some (.bool sx) /\ w'.cell? ⟨xb, 1, none⟩ = some (.slice xA n cx) /\ w'.cell? ⟨yb, 0, none⟩ = some (.bool sy) /\ w'.cell? ⟨yb, 1, none⟩ = some (.slice yA m cy) from
  ⟨(bx.upd u).c0.cell, (bx.upd u).c1.cell, (by_.upd u).c0.cell, (by_.upd u).c1.cell⟩))
 have HM := Qq (fun (zb ab bb : Nat) (la lb : Loc) (w' : World) (u : Upd NoF w w') (hz : IntP w' zb nilL (sv 0)) (ha : IntV w' ab la G) (hb : IntV w' bb lb N) (nz : w.heap.size <= zb) (na : w.heap.size <= ab) (nb : w.heap.size <= bb) (ka : 0 < la.c -> w.heap.size <= la.b) (kb : 0 < lb.c -> w.heap.size <= lb.b) (d : zb ≠ ab /\ zb ≠ bb /\ ab ≠ bb) (hap : Zj la lb) => (show Calls Tryz.prog 44 #[.pointer (some ⟨zb, 0, none⟩), .pointer (some ⟨ab, 0, none⟩), .pointer (some ⟨bb, 0, none⟩)] w' (fun e w2 => e = .returned (.pointer (some ⟨zb, 0, none⟩)) /\ Hid (∃ (V : Int) (r : Loc), IntV w2 zb r V /\ InvP G N M V) /\ Upd NoF w w2) from
  (ModInv_any T TK w w' zb ab bb nilL la lb 0 G N M (inv_news u hz ha hb nz na nb ka kb d hap) hN gM nM hM hT hK hO hD).mono (fun e w2 h => by
   rcases h with ⟨_, V, r, he, hI, h1, h2, hu⟩ | ⟨h, _⟩
   . exact ⟨he, ⟨V, r, hI, h1, h2⟩, hu⟩
   . exact absurd hg h)))
 clear bx by_ hX hY hN gM nM hM hT hK hO hD hg hn hm
 unfold GivesP
 go_enter Tryz.func43, Tryz.ntmps43
 go_wp2_with fail
 go_region_held3 (fun w' => w'.cell? ⟨xb, 0, none⟩ = some (.bool sx) /\ w'.cell? ⟨xb, 1, none⟩ = some (.slice xA n cx) /\ w'.cell? ⟨yb, 0, none⟩ = some (.bool sy) /\ w'.cell? ⟨yb, 1, none⟩ = some (.slice yA m cy))
  (exact HS.out _ (by (repeat (first | exact Upd.refl _ _ | assumption | refine Upd.alloc ?_ _ | refine Upd.drew ?_ | refine Upd.drewN ?_ _ | refine Upd.trans ?_ (by assumption)))))
  (first
   | ((go_at_call_of 30 (Value.agg #[.bool sx, .slice xA n cx]); refine (HOX.out _ (by (repeat (first | exact Upd.refl _ _ | assumption | refine Upd.alloc ?_ _ | refine Upd.drew ?_ | refine Upd.drewN ?_ _ | refine Upd.trans ?_ (by assumption))))).mono ?_; rintro e wx ⟨ibx, lx, rfl, hbx, hlx, hIx, hUx⟩))
   | ((go_at_call_of 30 (Value.agg #[.bool sy, .slice yA m cy]); refine (HOY.out _ (by (repeat (first | exact Upd.refl _ _ | assumption | refine Upd.alloc ?_ _ | refine Upd.drew ?_ | refine Upd.drewN ?_ _ | refine Upd.trans ?_ (by assumption))))).mono ?_; rintro e wy ⟨iby, ly, rfl, hby, hly, hIy, hUy⟩))
   | ((go_at_call 44; refine (HM.out _ _ _ lx ly _ ?_ ?_ ?_ ?_ ?_ ?_ ?_ ?_ ?_ ?_ ?_).mono ?_; (exact (by (repeat (first | exact Upd.refl _ _ | assumption | refine Upd.alloc ?_ _ | refine Upd.drew ?_ | refine Upd.drewN ?_ _ | refine Upd.trans ?_ (by assumption))))); (exact IntD.zero (IntD.made (by (repeat (first | exact Upd.refl _ _ | assumption | refine Upd.alloc ?_ _ | refine Upd.drew ?_ | refine Upd.drewN ?_ _ | refine Upd.trans ?_ (by assumption)))))); (exact IntV.upd0 hIx (by (repeat (first | exact Upd.refl _ _ | assumption | refine Upd.alloc ?_ _ | refine Upd.drew ?_ | refine Upd.drewN ?_ _ | refine Upd.trans ?_ (by assumption))))); (exact IntV.upd0 hIy (by (repeat (first | exact Upd.refl _ _ | assumption | refine Upd.alloc ?_ _ | refine Upd.drew ?_ | refine Upd.drewN ?_ _ | refine Upd.trans ?_ (by assumption))))); (exact Upd.size (F := NoF) (by (repeat (first | exact Upd.refl _ _ | assumption | refine Upd.alloc ?_ _ | refine Upd.drew ?_ | refine Upd.drewN ?_ _ | refine Upd.trans ?_ (by assumption))))); (exact Nat.le_trans (Upd.size (F := NoF) (by (repeat (first | exact Upd.refl _ _ | assumption | refine Upd.alloc ?_ _ | refine Upd.drew ?_ | refine Upd.drewN ?_ _ | refine Upd.trans ?_ (by assumption))))) hbx); (exact Nat.le_trans (Upd.size (F := NoF) (by (repeat (first | exact Upd.refl _ _ | assumption | refine Upd.alloc ?_ _ | refine Upd.drew ?_ | refine Upd.drewN ?_ _ | refine Upd.trans ?_ (by assumption))))) hby); (exact fun h => Nat.le_trans (Upd.size (F := NoF) (by (repeat (first | exact Upd.refl _ _ | assumption | refine Upd.alloc ?_ _ | refine Upd.drew ?_ | refine Upd.drewN ?_ _ | refine Upd.trans ?_ (by assumption))))) (hlx h)); (exact fun h => Nat.le_trans (Upd.size (F := NoF) (by (repeat (first | exact Upd.refl _ _ | assumption | refine Upd.alloc ?_ _ | refine Upd.drew ?_ | refine Upd.drewN ?_ _ | refine Upd.trans ?_ (by assumption))))) (hly h)); (have h1 := hIx.neg.lt; have h2 := hIy.neg.lt; have h3 := hUx.size; have h4 := hUy.size; (try simp only [World.size_alloc, World.heap_drewN, heap_drew'] at h1 h2 h3 h4 hbx hby ⊢); refine ⟨?_, ?_, ?_⟩ <;> omega); (rcases Nat.eq_zero_or_pos ly.c with h0 | h0; exact Or.inr (Or.inl h0); exact Zj.new (hIx.nat.ok.upd (F := NoF) (by (repeat (first | exact Upd.refl _ _ | assumption | refine Upd.alloc ?_ _ | refine Upd.drew ?_ | refine Upd.drewN ?_ _ | refine Upd.trans ?_ (by assumption))))) (hly h0)); rintro e wg ⟨rfl, hG, hUg⟩)))
 all_goals
  obtain ⟨V, r, hI, hP⟩ := hG
  have HG := Qq (Qj hI (Qj hP hUg))
  clear hI hP hUg hIx hIy hUx hUy hbx hby hlx hly
  go_wp2_with fail
  go_ret
  exact ⟨V, _, r, HG.out.2.1, rfl, HG.out.1, HG.out.2.2⟩
theorem inv1_none (T TK : Int) (xb yb : Nat) (sx sy : Bool) (xA yA : Option Addr) (n m cx cy : Nat) (G N : Int) (M : Nat) (w : World) (bx : BoxN w xb sx xA n cx) (by_ : BoxN w yb sy yA m cy) (hX : NumR w (.agg #[.bool sx, .slice xA n cx]) n G) (hY : NumR w (.agg #[.bool sy, .slice yA m cy]) m N) (hn : n <= 200) (hm : m <= 200) (hN : N ≠ 0 \/ 0 <= G) (gM : G.natAbs <= M) (nM : N.natAbs <= M) (hM : (digs M).length <= 300) (hT : DThr w T) (hK : KThr w TK (digs M).length) (hO : OneI w)
  (hD : ∀ A B : Nat, B ≠ 0 -> (digs B).length <= (digs M).length -> (digs A).length <= 1000 -> DivAtT T A B) (hg : Nat.gcd G.natAbs N.natAbs ≠ 1) :
  GivesNil 43 #[.pointer (some ⟨xb, 0, none⟩), .pointer (some ⟨yb, 0, none⟩)] w := by
 have HOX := Qq (fun (w' : World) (u : Upd NoF w w') => of_num _ n G w' (hX.upd u) (by omega))
 have HOY := Qq (fun (w' : World) (u : Upd NoF w w') => of_num _ m N w' (hY.upd u) (by omega))
 have HS := Qq (fun (w' : World) (u : Upd NoF w w') => (show w'.cell? ⟨xb, 0, none⟩ = some (.bool sx) /\ w'.cell? ⟨xb, 1, none⟩ = some (.slice xA n cx) /\ w'.cell? ⟨yb, 0, none⟩ = some (.bool sy) /\ w'.cell? ⟨yb, 1, none⟩ = some (.slice yA m cy) from
  ⟨(bx.upd u).c0.cell, (bx.upd u).c1.cell, (by_.upd u).c0.cell, (by_.upd u).c1.cell⟩))
 have HM := Qq (fun (zb ab bb : Nat) (la lb : Loc) (w' : World) (u : Upd NoF w w') (hz : IntP w' zb nilL (sv 0)) (ha : IntV w' ab la G) (hb : IntV w' bb lb N) (nz : w.heap.size <= zb) (na : w.heap.size <= ab) (nb : w.heap.size <= bb) (ka : 0 < la.c -> w.heap.size <= la.b) (kb : 0 < lb.c -> w.heap.size <= lb.b) (d : zb ≠ ab /\ zb ≠ bb /\ ab ≠ bb) (hap : Zj la lb) => (show Calls Tryz.prog 44 #[.pointer (some ⟨zb, 0, none⟩), .pointer (some ⟨ab, 0, none⟩), .pointer (some ⟨bb, 0, none⟩)] w' (fun e w2 => e = .returned (.pointer none) /\ Upd NoF w w2) from
  (ModInv_any T TK w w' zb ab bb nilL la lb 0 G N M (inv_news u hz ha hb nz na nb ka kb d hap) hN gM nM hM hT hK hO hD).mono (fun e w2 h => by
   rcases h with ⟨h, _⟩ | ⟨_, he, hu⟩
   . exact absurd h hg
   . exact ⟨he, hu⟩)))
 clear bx by_ hX hY hN gM nM hM hT hK hO hD hg hn hm
 unfold GivesNil
 go_enter Tryz.func43, Tryz.ntmps43
 go_wp2_with fail
 go_region_held3 (fun w' => w'.cell? ⟨xb, 0, none⟩ = some (.bool sx) /\ w'.cell? ⟨xb, 1, none⟩ = some (.slice xA n cx) /\ w'.cell? ⟨yb, 0, none⟩ = some (.bool sy) /\ w'.cell? ⟨yb, 1, none⟩ = some (.slice yA m cy))
  (exact HS.out _ (by (repeat (first | exact Upd.refl _ _ | assumption | refine Upd.alloc ?_ _ | refine Upd.drew ?_ | refine Upd.drewN ?_ _ | refine Upd.trans ?_ (by assumption)))))
  (first
   | ((go_at_call_of 30 (Value.agg #[.bool sx, .slice xA n cx]); refine (HOX.out _ (by (repeat (first | exact Upd.refl _ _ | assumption | refine Upd.alloc ?_ _ | refine Upd.drew ?_ | refine Upd.drewN ?_ _ | refine Upd.trans ?_ (by assumption))))).mono ?_; rintro e wx ⟨ibx, lx, rfl, hbx, hlx, hIx, hUx⟩))
   | ((go_at_call_of 30 (Value.agg #[.bool sy, .slice yA m cy]); refine (HOY.out _ (by (repeat (first | exact Upd.refl _ _ | assumption | refine Upd.alloc ?_ _ | refine Upd.drew ?_ | refine Upd.drewN ?_ _ | refine Upd.trans ?_ (by assumption))))).mono ?_; rintro e wy ⟨iby, ly, rfl, hby, hly, hIy, hUy⟩))
   | ((go_at_call 44; refine (HM.out _ _ _ lx ly _ ?_ ?_ ?_ ?_ ?_ ?_ ?_ ?_ ?_ ?_ ?_).mono ?_; (exact (by (repeat (first | exact Upd.refl _ _ | assumption | refine Upd.alloc ?_ _ | refine Upd.drew ?_ | refine Upd.drewN ?_ _ | refine Upd.trans ?_ (by assumption))))); (exact IntD.zero (IntD.made (by (repeat (first | exact Upd.refl _ _ | assumption | refine Upd.alloc ?_ _ | refine Upd.drew ?_ | refine Upd.drewN ?_ _ | refine Upd.trans ?_ (by assumption)))))); (exact IntV.upd0 hIx (by (repeat (first | exact Upd.refl _ _ | assumption | refine Upd.alloc ?_ _ | refine Upd.drew ?_ | refine Upd.drewN ?_ _ | refine Upd.trans ?_ (by assumption))))); (exact IntV.upd0 hIy (by (repeat (first | exact Upd.refl _ _ | assumption | refine Upd.alloc ?_ _ | refine Upd.drew ?_ | refine Upd.drewN ?_ _ | refine Upd.trans ?_ (by assumption))))); (exact Upd.size (F := NoF) (by (repeat (first | exact Upd.refl _ _ | assumption | refine Upd.alloc ?_ _ | refine Upd.drew ?_ | refine Upd.drewN ?_ _ | refine Upd.trans ?_ (by assumption))))); (exact Nat.le_trans (Upd.size (F := NoF) (by (repeat (first | exact Upd.refl _ _ | assumption | refine Upd.alloc ?_ _ | refine Upd.drew ?_ | refine Upd.drewN ?_ _ | refine Upd.trans ?_ (by assumption))))) hbx); (exact Nat.le_trans (Upd.size (F := NoF) (by (repeat (first | exact Upd.refl _ _ | assumption | refine Upd.alloc ?_ _ | refine Upd.drew ?_ | refine Upd.drewN ?_ _ | refine Upd.trans ?_ (by assumption))))) hby); (exact fun h => Nat.le_trans (Upd.size (F := NoF) (by (repeat (first | exact Upd.refl _ _ | assumption | refine Upd.alloc ?_ _ | refine Upd.drew ?_ | refine Upd.drewN ?_ _ | refine Upd.trans ?_ (by assumption))))) (hlx h)); (exact fun h => Nat.le_trans (Upd.size (F := NoF) (by (repeat (first | exact Upd.refl _ _ | assumption | refine Upd.alloc ?_ _ | refine Upd.drew ?_ | refine Upd.drewN ?_ _ | refine Upd.trans ?_ (by assumption))))) (hly h)); (have h1 := hIx.neg.lt; have h2 := hIy.neg.lt; have h3 := hUx.size; have h4 := hUy.size; (try simp only [World.size_alloc, World.heap_drewN, heap_drew'] at h1 h2 h3 h4 hbx hby ⊢); refine ⟨?_, ?_, ?_⟩ <;> omega); (rcases Nat.eq_zero_or_pos ly.c with h0 | h0; exact Or.inr (Or.inl h0); exact Zj.new (hIx.nat.ok.upd (F := NoF) (by (repeat (first | exact Upd.refl _ _ | assumption | refine Upd.alloc ?_ _ | refine Upd.drew ?_ | refine Upd.drewN ?_ _ | refine Upd.trans ?_ (by assumption))))) (hly h0)); rintro e wg ⟨rfl, hUg⟩)))
 all_goals
  have HG := Qq hUg
  clear hUg hIx hIy hUx hUy hbx hby hlx hly
  go_wp2_with fail
  go_ret
  exact ⟨rfl, HG.out⟩
theorem inv1_panic (xb yb : Nat) (sx sy : Bool) (xA yA : Option Addr) (n m cx cy : Nat) (G N : Int) (w : World) (bx : BoxN w xb sx xA n cx) (by_ : BoxN w yb sy yA m cy) (hX : NumR w (.agg #[.bool sx, .slice xA n cx]) n G) (hY : NumR w (.agg #[.bool sy, .slice yA m cy]) m N) (hn : n <= 200) (hm : m <= 200) (hN : N = 0) (hG : G < 0) :
  Panics 43 #[.pointer (some ⟨xb, 0, none⟩), .pointer (some ⟨yb, 0, none⟩)] w := by
 subst hN
 have HOX := Qq (fun (w' : World) (u : Upd NoF w w') => of_num _ n G w' (hX.upd u) (by omega))
 have HOY := Qq (fun (w' : World) (u : Upd NoF w w') => of_num _ m 0 w' (hY.upd u) (by omega))
 have HS := Qq (fun (w' : World) (u : Upd NoF w w') => (show w'.cell? ⟨xb, 0, none⟩ = some (.bool sx) /\ w'.cell? ⟨xb, 1, none⟩ = some (.slice xA n cx) /\ w'.cell? ⟨yb, 0, none⟩ = some (.bool sy) /\ w'.cell? ⟨yb, 1, none⟩ = some (.slice yA m cy) from
  ⟨(bx.upd u).c0.cell, (bx.upd u).c1.cell, (by_.upd u).c0.cell, (by_.upd u).c1.cell⟩))
 have HM := Qq (fun (zb ab bb : Nat) (la lb : Loc) (w' : World) (u : Upd NoF w w') (hz : IntP w' zb nilL (sv 0)) (ha : IntV w' ab la G) (hb : IntV w' bb lb 0) (nz : w.heap.size <= zb) (na : w.heap.size <= ab) (nb : w.heap.size <= bb) (ka : 0 < la.c -> w.heap.size <= la.b) (kb : 0 < lb.c -> w.heap.size <= lb.b) (d : zb ≠ ab /\ zb ≠ bb /\ ab ≠ bb) (hap : Zj la lb) => (show Calls Tryz.prog 44 #[.pointer (some ⟨zb, 0, none⟩), .pointer (some ⟨ab, 0, none⟩), .pointer (some ⟨bb, 0, none⟩)] w' (fun e w2 => ((∃ u pv, e = .panicked [{ v := .iface u pv, recovered := false }]) /\ Upd NoF w w2) \/ (e = .returned (.pointer none) /\ Hid (∃ p : Prop, p /\ ¬p) /\ Upd NoF w w2)) from
  (ModInv_panic w w' zb ab bb nilL la lb 0 G (inv_news u hz ha hb nz na nb ka kb d hap) hG).mono (fun e w2 h => Or.inl h)))
 clear bx by_ hX hY hn hm hG
 unfold Panics
 go_enter Tryz.func43, Tryz.ntmps43
 go_wp2_with fail
 go_region_held2 (fun w' => w'.cell? ⟨xb, 0, none⟩ = some (.bool sx) /\ w'.cell? ⟨xb, 1, none⟩ = some (.slice xA n cx) /\ w'.cell? ⟨yb, 0, none⟩ = some (.bool sy) /\ w'.cell? ⟨yb, 1, none⟩ = some (.slice yA m cy))
  (first | exact False.elim (hf.out.elim fun _ h => h.2 h.1) | exact HS.out _ (by (repeat (first | exact Upd.refl _ _ | assumption | refine Upd.alloc ?_ _ | refine Upd.drew ?_ | refine Upd.drewN ?_ _ | refine Upd.trans ?_ (by assumption)))))
  (first
   | ((go_at_call_of 30 (Value.agg #[.bool sx, .slice xA n cx]); refine (HOX.out _ (by (repeat (first | exact Upd.refl _ _ | assumption | refine Upd.alloc ?_ _ | refine Upd.drew ?_ | refine Upd.drewN ?_ _ | refine Upd.trans ?_ (by assumption))))).mono ?_; rintro e wx ⟨ibx, lx, rfl, hbx, hlx, hIx, hUx⟩))
   | ((go_at_call_of 30 (Value.agg #[.bool sy, .slice yA m cy]); refine (HOY.out _ (by (repeat (first | exact Upd.refl _ _ | assumption | refine Upd.alloc ?_ _ | refine Upd.drew ?_ | refine Upd.drewN ?_ _ | refine Upd.trans ?_ (by assumption))))).mono ?_; rintro e wy ⟨iby, ly, rfl, hby, hly, hIy, hUy⟩))
   | ((go_at_call 44; refine (HM.out _ _ _ lx ly _ ?_ ?_ ?_ ?_ ?_ ?_ ?_ ?_ ?_ ?_ ?_).mono ?_; (exact (by (repeat (first | exact Upd.refl _ _ | assumption | refine Upd.alloc ?_ _ | refine Upd.drew ?_ | refine Upd.drewN ?_ _ | refine Upd.trans ?_ (by assumption))))); (exact IntD.zero (IntD.made (by (repeat (first | exact Upd.refl _ _ | assumption | refine Upd.alloc ?_ _ | refine Upd.drew ?_ | refine Upd.drewN ?_ _ | refine Upd.trans ?_ (by assumption)))))); (exact IntV.upd0 hIx (by (repeat (first | exact Upd.refl _ _ | assumption | refine Upd.alloc ?_ _ | refine Upd.drew ?_ | refine Upd.drewN ?_ _ | refine Upd.trans ?_ (by assumption))))); (exact IntV.upd0 hIy (by (repeat (first | exact Upd.refl _ _ | assumption | refine Upd.alloc ?_ _ | refine Upd.drew ?_ | refine Upd.drewN ?_ _ | refine Upd.trans ?_ (by assumption))))); (exact Upd.size (F := NoF) (by (repeat (first | exact Upd.refl _ _ | assumption | refine Upd.alloc ?_ _ | refine Upd.drew ?_ | refine Upd.drewN ?_ _ | refine Upd.trans ?_ (by assumption))))); (exact Nat.le_trans (Upd.size (F := NoF) (by (repeat (first | exact Upd.refl _ _ | assumption | refine Upd.alloc ?_ _ | refine Upd.drew ?_ | refine Upd.drewN ?_ _ | refine Upd.trans ?_ (by assumption))))) hbx); (exact Nat.le_trans (Upd.size (F := NoF) (by (repeat (first | exact Upd.refl _ _ | assumption | refine Upd.alloc ?_ _ | refine Upd.drew ?_ | refine Upd.drewN ?_ _ | refine Upd.trans ?_ (by assumption))))) hby); (exact fun h => Nat.le_trans (Upd.size (F := NoF) (by (repeat (first | exact Upd.refl _ _ | assumption | refine Upd.alloc ?_ _ | refine Upd.drew ?_ | refine Upd.drewN ?_ _ | refine Upd.trans ?_ (by assumption))))) (hlx h)); (exact fun h => Nat.le_trans (Upd.size (F := NoF) (by (repeat (first | exact Upd.refl _ _ | assumption | refine Upd.alloc ?_ _ | refine Upd.drew ?_ | refine Upd.drewN ?_ _ | refine Upd.trans ?_ (by assumption))))) (hly h)); (have h1 := hIx.neg.lt; have h2 := hIy.neg.lt; have h3 := hUx.size; have h4 := hUy.size; (try simp only [World.size_alloc, World.heap_drewN, heap_drew'] at h1 h2 h3 h4 hbx hby ⊢); refine ⟨?_, ?_, ?_⟩ <;> omega); (rcases Nat.eq_zero_or_pos ly.c with h0 | h0; exact Or.inr (Or.inl h0); exact Zj.new (hIx.nat.ok.upd (F := NoF) (by (repeat (first | exact Upd.refl _ _ | assumption | refine Upd.alloc ?_ _ | refine Upd.drew ?_ | refine Upd.drewN ?_ _ | refine Upd.trans ?_ (by assumption))))) (hly h0)); rintro e wg (⟨⟨pu, pv, rfl⟩, hUg⟩ | ⟨rfl, hf, hUg⟩); (exact ⟨rfl, _, _, rfl, hUg⟩); skip)))
 all_goals exact False.elim (hf.out.elim fun _ h => h.2 h.1)
theorem implInv_good (T TK : Int) (v1 v2 : Value) (n m : Nat) (G N : Int) (M : Nat) (w : World) (hX : NumR w v1 n G) (hY : NumR w v2 m N) (hn : n <= 200) (hm : m <= 200) (hN : N ≠ 0 \/ 0 <= G) (gM : G.natAbs <= M) (nM : N.natAbs <= M) (hM : (digs M).length <= 300) (hT : DThr w T) (hK : KThr w TK (digs M).length) (hO : OneI w)
  (hD : ∀ A B : Nat, B ≠ 0 -> (digs B).length <= (digs M).length -> (digs A).length <= 1000 -> DivAtT T A B) (hg : Nat.gcd G.natAbs N.natAbs = 1) :
  Calls Tryz.prog 22 #[v1, v2] w fun e w' => ∃ (v : Value) (V : Int), e = .returned (.tuple #[v, .int .i64 0]) /\ InvP G N M V /\ NumI w' v V /\ Upd NoF w w' := by
 have hmf : ∀ (fn : Fn) (first cap : Array Value) (w : World), (Instr.makeFunc fn first cap).run Tryz.prog w = .ok (.func fn first cap) w := fun _ _ _ _ => rfl
 obtain ⟨sx, xA, cx, xs, rfl, hX2⟩ := id hX
 obtain ⟨sy, yA, cy, ys, rfl, hY2⟩ := id hY
 have H := Qq (fun (w' : World) (xb yb : Nat) (bx : BoxN w' xb sx xA n cx) (by_ : BoxN w' yb sy yA m cy) (u : Upd NoF w w') => inv1_good T TK xb yb sx sy xA yA n m cx cy G N M w' bx by_ (hX.upd u) (hY.upd u) hn hm hN gM nM hM (hT.upd u (fun _ h => h)) (hK.upd u (fun _ h => h)) (hO.upd u) hD hg)
 have hlen : ∀ V, InvP G N M V -> (digs V.natAbs).length <= 1099511627776 := fun V h => by
  have h1 : V.natAbs <= B64 * (M + 1) := by have := h.2; rw [Zs]; omega
  have h2 := Zn h1
  have h3 : (digs (B64 * (M + 1))).length <= 1 + (digs (M + 1)).length := digs_len_of_lt (by rw [Nat.pow_add, Nat.pow_one]; exact Nat.mul_lt_mul_of_pos_left (Yf _) Zy)
  have h4 := digs_succ_len M
  omega
 clear hX hY hX2 hY2 hn hm hN gM nM hM hT hK hO hD hg
 go_enter Tryz.func22, Tryz.ntmps22
 go_wp2_with fail
 obtain ⟨w3, hw3, hB, uB, sB⟩ := boxes3 w sx sy xA yA n cx m cy
 obtain ⟨g, hg⟩ : ∃ g, w.heap.size = g := ⟨_, rfl⟩
 rw [hg] at hB sB
 rw [hg, <- hw3]
 clear hw3
 have HA := Qq (answered_P 43 #[.pointer (some ⟨g, 0, none⟩), .pointer (some ⟨g + 1, 0, none⟩)] (InvP G N M) w3 (enters_inv _) hlen (fun w' u => H.out w' _ _ (hB.1.upd u) (hB.2.1.upd u) (uB.trans u)))
 have HU := Qq (Qj uB (Qj hB.2.2 (Qj sB hg)))
 clear hB uB sB hg H hlen
 refine HA.out.mono ?_
 rintro e w4 ⟨v, V, hP, rfl, ⟨A', c', rfl, n1, n3⟩, u3⟩
 have k1 := (HU.out.2.1.upd u3).c0
 have k2 := (HU.out.2.1.upd u3).c1
 have d0 := k1.cell
 have f0 := k1.frozen
 have d1 := k2.cell
 have f1 := k2.frozen
 obtain ⟨s1, s2, s3⟩ := stored_pair (w := w) (x1 := .bool (decide (V < 0))) (x2 := .slice A' (digs V.natAbs).length c') k1 k2 (HU.out.1.trans u3) (by have := HU.out.2.2.2; omega)
 have s4 : RdU ((w4.setCell ⟨g + 1 + 1, 0, none⟩ (.bool (decide (V < 0)))).setCell ⟨g + 1 + 1, 1, none⟩ (.slice A' (digs V.natAbs).length c')) A' (digs V.natAbs) := n3.store k1 k2 (fun _ _ h => by cases h) (fun _ _ h => by cases h)
 have HE := Qq (Qj s1 (Qj n1 (Qj s4 hP)))
 clear s1 n1 n3 s4 hP k1 k2 u3
 go_wp2_with fail
 refine bodyPost_ret (v := .tuple #[.agg #[.bool (decide (V < 0)), .slice A' (digs V.natAbs).length c'], .int .i64 0]) (by simp [results, Tryz.results22, go_sem, s2, s3]) rfl ?_
 exact ⟨_, V, rfl, HE.out.2.2.2, ⟨A', c', rfl, HE.out.2.1, HE.out.2.2.1⟩, HE.out.1⟩
theorem implInv_none (T TK : Int) (v1 v2 : Value) (n m : Nat) (G N : Int) (M : Nat) (w : World) (hX : NumR w v1 n G) (hY : NumR w v2 m N) (hn : n <= 200) (hm : m <= 200) (hN : N ≠ 0 \/ 0 <= G) (gM : G.natAbs <= M) (nM : N.natAbs <= M) (hM : (digs M).length <= 300) (hT : DThr w T) (hK : KThr w TK (digs M).length) (hO : OneI w)
  (hD : ∀ A B : Nat, B ≠ 0 -> (digs B).length <= (digs M).length -> (digs A).length <= 1000 -> DivAtT T A B) (hg : Nat.gcd G.natAbs N.natAbs ≠ 1) :
  Calls Tryz.prog 22 #[v1, v2] w fun e w' => ∃ s A c, e = .returned (.tuple #[.agg #[.bool s, .slice A 0 c], .int .i64 1]) /\ Upd NoF w w' := by
 have hmf : ∀ (fn : Fn) (first cap : Array Value) (w : World), (Instr.makeFunc fn first cap).run Tryz.prog w = .ok (.func fn first cap) w := fun _ _ _ _ => rfl
 obtain ⟨sx, xA, cx, xs, rfl, hX2⟩ := id hX
 obtain ⟨sy, yA, cy, ys, rfl, hY2⟩ := id hY
 have H := Qq (fun (w' : World) (xb yb : Nat) (bx : BoxN w' xb sx xA n cx) (by_ : BoxN w' yb sy yA m cy) (u : Upd NoF w w') => inv1_none T TK xb yb sx sy xA yA n m cx cy G N M w' bx by_ (hX.upd u) (hY.upd u) hn hm hN gM nM hM (hT.upd u (fun _ h => h)) (hK.upd u (fun _ h => h)) (hO.upd u) hD hg)
 clear hX hY hX2 hY2 hn hm hN gM nM hM hT hK hO hD hg
 go_enter Tryz.func22, Tryz.ntmps22
 go_wp2_with fail
 obtain ⟨w3, hw3, hB, uB, sB⟩ := boxes3 w sx sy xA yA n cx m cy
 obtain ⟨g, hg⟩ : ∃ g, w.heap.size = g := ⟨_, rfl⟩
 rw [hg] at hB sB
 rw [hg, <- hw3]
 clear hw3
 have HA := Qq (answered_nil 43 #[.pointer (some ⟨g, 0, none⟩), .pointer (some ⟨g + 1, 0, none⟩)] w3 (enters_inv _) (fun w' u => H.out w' _ _ (hB.1.upd u) (hB.2.1.upd u) (uB.trans u)))
 have HU := Qq (Qj uB (Qj hB.2.2 (Qj sB hg)))
 clear hB uB sB hg H
 refine HA.out.mono ?_
 rintro e w4 ⟨A', c', rfl, u3⟩
 have k1 := (HU.out.2.1.upd u3).c0
 have k2 := (HU.out.2.1.upd u3).c1
 have d0 := k1.cell
 have f0 := k1.frozen
 have d1 := k2.cell
 have f1 := k2.frozen
 obtain ⟨s1, s2, s3⟩ := stored_pair (w := w) (x1 := .bool false) (x2 := .slice A' 0 c') k1 k2 (HU.out.1.trans u3) (by have := HU.out.2.2.2; omega)
 have HE := Qq s1
 clear s1 k1 k2 u3
 go_wp2_with fail
 refine bodyPost_ret (v := .tuple #[.agg #[.bool false, .slice A' 0 c'], .int .i64 1]) (by simp [results, Tryz.results22, go_sem, s2, s3]) rfl ?_
 exact ⟨_, _, _, rfl, HE.out⟩
theorem implInv_panic (v1 v2 : Value) (n m : Nat) (G N : Int) (w : World) (hX : NumR w v1 n G) (hY : NumR w v2 m N) (hn : n <= 200) (hm : m <= 200) (hN : N = 0) (hG : G < 0) :
  Calls Tryz.prog 22 #[v1, v2] w fun e w' => ∃ s A c, e = .returned (.tuple #[.agg #[.bool s, .slice A 0 c], .int .i64 2]) /\ Upd NoF w w' := by
 have hmf : ∀ (fn : Fn) (first cap : Array Value) (w : World), (Instr.makeFunc fn first cap).run Tryz.prog w = .ok (.func fn first cap) w := fun _ _ _ _ => rfl
 obtain ⟨sx, xA, cx, xs, rfl, hX2⟩ := id hX
 obtain ⟨sy, yA, cy, ys, rfl, hY2⟩ := id hY
 have H := Qq (fun (w' : World) (xb yb : Nat) (bx : BoxN w' xb sx xA n cx) (by_ : BoxN w' yb sy yA m cy) (u : Upd NoF w w') => inv1_panic xb yb sx sy xA yA n m cx cy G N w' bx by_ (hX.upd u) (hY.upd u) hn hm hN hG)
 clear hX hY hX2 hY2 hn hm hN hG
 go_enter Tryz.func22, Tryz.ntmps22
 go_wp2_with fail
 obtain ⟨w3, hw3, hB, uB, sB⟩ := boxes3 w sx sy xA yA n cx m cy
 obtain ⟨g, hg⟩ : ∃ g, w.heap.size = g := ⟨_, rfl⟩
 rw [hg] at hB sB
 rw [hg, <- hw3]
 clear hw3
 have HA := Qq (answered_panic 43 #[.pointer (some ⟨g, 0, none⟩), .pointer (some ⟨g + 1, 0, none⟩)] w3 (enters_inv _) (fun w' u => H.out w' _ _ (hB.1.upd u) (hB.2.1.upd u) (uB.trans u)))
 have HU := Qq (Qj uB (Qj hB.2.2 (Qj sB hg)))
 clear hB uB sB hg H
 refine HA.out.mono ?_
 rintro e w4 ⟨rfl, u3⟩
 have k1 := (HU.out.2.1.upd u3).c0
 have k2 := (HU.out.2.1.upd u3).c1
 have d0 := k1.cell
 have f0 := k1.frozen
 have d1 := k2.cell
 have f1 := k2.frozen
 obtain ⟨s1, s2, s3⟩ := stored_pair (w := w) (x1 := .bool false) (x2 := .slice none 0 0) k1 k2 (HU.out.1.trans u3) (by have := HU.out.2.2.2; omega)
 have HE := Qq s1
 clear s1 k1 k2 u3
 go_wp2_with fail
 refine bodyPost_ret (v := .tuple #[.agg #[.bool false, .slice none 0 0], .int .i64 2]) (by simp [results, Tryz.results22, go_sem, s2, s3]) rfl ?_
 exact ⟨_, _, _, rfl, HE.out⟩
end Go.Proofs.YthkklkjldpcbkaaGreatDoor
