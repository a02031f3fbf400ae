/- For the claim of laws.FnInverse: LawInv. -/
import Derived.Test.YthkklkjldpcbkaaGreatDoorLiL3
import Derived.Test.YthkklkjldpcbkaaGreatDoorLiG8
set_option linter.unusedVariables false
set_option linter.unusedSimpArgs false
open List renaming getElem_toArray → zqa, getElem_cons_zero → zqb, getElem_cons_succ → zqc, setIfInBounds_toArray → zqd, set_cons_zero → zqe, set_cons_succ → zqf
namespace Go.Proofs.YthkklkjldpcbkaaGreatDoor
open Go.RowKit
set_option linter.unusedSimpArgs false
def InvAns (G N : Int) (w' : World) (v : Value) (k : Int) : Prop :=
 N ≠ 0 -> (Nat.gcd G.natAbs N.natAbs = 1 /\ k = 0 /\ ∃ V : Int, N ∣ V * G - 1 /\ (digs V.natAbs).length <= 20 /\ NumI w' v V) \/ (Nat.gcd G.natAbs N.natAbs ≠ 1 /\ k = 1)
theorem implInv_law (v1 v2 : Value) (n m : Nat) (G N : Int) (w : World) (hX : NumR w v1 n G) (hY : NumR w v2 m N) (hn : n <= 12) (hm : m <= 12) (hT : DThr w 40) (hK : Thr w 40) (hO : OneI w) :
  Calls Tryz.prog 22 #[v1, v2] w fun e w' => ∃ (s : Bool) (A : Option Addr) (q c : Nat) (k : Int), e = .returned (.tuple #[.agg #[.bool s, .slice A q c], .int .i64 k]) /\ InvAns G N w' (.agg #[.bool s, .slice A q c]) k /\ Upd NoF w w' := by
 have hlG := hX.len
 have hlN := hY.len
 obtain ⟨M, hM1, hM2, hM3⟩ : ∃ M, G.natAbs <= M /\ N.natAbs <= M /\ (digs M).length <= 12 := by
  rcases Nat.le_total G.natAbs N.natAbs with h | h
  . exact ⟨N.natAbs, h, Nat.le_refl _, by omega⟩
  . exact ⟨G.natAbs, Nat.le_refl _, h, by omega⟩
 have hD : ∀ A B : Nat, B ≠ 0 -> (digs B).length <= (digs M).length -> (digs A).length <= 1000 -> DivAtT 40 A B := fun A B h0 h1 h2 => div40 A B h0 (by omega) (by omega)
 by_cases hp : N = 0 /\ G < 0
 . exact (implInv_panic v1 v2 n m G N w hX hY (by omega) (by omega) hp.1 hp.2).mono (fun e w' ⟨s, A, c, he, u⟩ => ⟨s, A, 0, c, 2, he, fun h => absurd hp.1 h, u⟩)
 have hN : N ≠ 0 \/ 0 <= G := by omega
 have hKK := KThr.small hK (B := (digs M).length) (by omega)
 by_cases hg : Nat.gcd G.natAbs N.natAbs = 1
 .
  refine (implInv_good 40 40 v1 v2 n m G N M w hX hY (by omega) (by omega) hN hM1 hM2 (by omega) hT hKK hO hD hg).mono ?_
  rintro e w' ⟨v, V, he, hP, hI, u⟩
  obtain ⟨A, c, rfl, h1, h2⟩ := id hI
  refine ⟨_, A, _, c, 0, he, fun _ => Or.inl ⟨hg, rfl, V, hP.1, ?_, hI⟩, u⟩
  have h1 : V.natAbs <= B64 * (M + 1) := by have := hP.2; rw [Zs]; omega
  have h2 := Zn h1
  have h3 : (digs (B64 * (M + 1))).length <= 1 + (digs (M + 1)).length := digs_len_of_lt (by rw [Nat.pow_add, Nat.pow_one]; exact Nat.mul_lt_mul_of_pos_left (Yf _) Zy)
  have h4 := digs_succ_len M
  omega
 . exact (implInv_none 40 40 v1 v2 n m G N M w hX hY (by omega) (by omega) hN hM1 hM2 (by omega) hT hKK hO hD hg).mono (fun e w' ⟨s, A, c, he, u⟩ => ⟨s, A, 0, c, 1, he, fun _ => Or.inr ⟨hg, rfl⟩, u⟩)
set_option maxRecDepth 1000000 in
set_option maxHeartbeats 16000000 in
theorem FnInverse_any (v1 v2 : Value) (n1 n2 : Nat) (A B : Int) (w : World) (hA : NumR w v1 n1 A) (hB : NumR w v2 n2 B) (hK : Thr w 40) (hD : DThr w 40) (hO : OneI w) :
  Calls Tryz.prog 5 #[v1, v2] w fun e w' => e = .returned (.bool true) /\ Upd NoF w w' := by
 have HZ1 := Qq (fun w' (u : Upd NoF w w') => zz_sp v1 n1 A w' (hA.upd u))
 have HZ2 := Qq (fun w' (u : Upd NoF w w') => zz_sp v2 n2 B w' (hB.upd u))
 have HG1 := Qq (fun w' (u : Upd NoF w w') => big_sp v1 n1 A 12 w' (hA.upd u))
 have HG2 := Qq (fun w' (u : Upd NoF w w') => big_sp v2 n2 B 12 w' (hB.upd u))
 have HN := Qq (fun w' (u : Upd NoF w w') => Qj (hA.upd u) (Qj (hB.upd u) (Qj (hK.upd u (fun _ h => h)) (Qj (hD.upd u (fun _ h => h)) (hO.upd u)))))
 have HL := Qq (Qj hA.len hB.len)
 obtain ⟨s1, A1, k1, xs1, rfl, hA2⟩ := id hA
 obtain ⟨s2, A2, k2, xs2, rfl, hB2⟩ := id hB
 clear hA hB hA2 hB2 hK hD hO
 have hfd : ∀ (b : Bool) (x : Value) (w : World), (Instr.field 32 (.agg #[.bool b, x]) 1).run Tryz.prog w = .ok x w := field_nat
 go_enter Tryz.func5, Tryz.ntmps5
 go_wp2_with fail
 have hm := B2.made w s1 s2 A1 A2 n1 n2 k1 k2
 obtain ⟨g, hg⟩ : ∃ g, w.heap.size = g := ⟨_, rfl⟩
 obtain ⟨w1, hw1⟩ : ∃ w1, ((w.alloc (.cells #[.bool s1, .slice A1 n1 k1] 24)).alloc (.cells #[.bool s2, .slice A2 n2 k2] 24)) = w1 := ⟨_, rfl⟩
 rw [hg, hw1] at hm
 rw [hg, hw1]
 have H0 := Qq (show BB w w1 g s1 s2 A1 A2 n1 n2 k1 k2 from ⟨hm.1, hm.2.1, hm.2.2⟩)
 clear hm hg hw1
 refine (HZ1.out w1 H0.out.up).mono ?_
 rintro e wqa1 ⟨rfl, uqa1⟩
 by_cases hz : 2147483647 < n1
 .
  as_aux_lemma =>
  have q1 : decide (n1 <= 2147483647) = false := decide_eq_false (by omega)
  rw [q1]
  have HU := Qq (H0.out.up.trans uqa1)
  clear uqa1
  go_wp2_with fail
  go_ret
  exact ⟨rfl, HU.out⟩
 have q1 : decide (n1 <= 2147483647) = true := decide_eq_true (by omega)
 rw [q1]
 have Ha1 := Qq (H0.out.upd uqa1)
 have c0 := Ha1.out.b1.c0.cell
 have c1 := Ha1.out.b1.c1.cell
 have c2 := Ha1.out.b2.c0.cell
 have c3 := Ha1.out.b2.c1.cell
 clear uqa1 q1 hz
 go_wp2_with fail
 refine (HZ2.out wqa1 Ha1.out.up).mono ?_
 rintro e wqa2 ⟨rfl, uqa2⟩
 by_cases hz : 2147483647 < n2
 .
  as_aux_lemma =>
  have q1 : decide (n2 <= 2147483647) = false := decide_eq_false (by omega)
  rw [q1]
  have HU := Qq (Ha1.out.up.trans uqa2)
  clear uqa2
  go_wp2_with fail
  go_ret
  exact ⟨rfl, HU.out⟩
 have q1 : decide (n2 <= 2147483647) = true := decide_eq_true (by omega)
 rw [q1]
 have Ha2 := Qq (Ha1.out.upd uqa2)
 have c0 := Ha2.out.b1.c0.cell
 have c1 := Ha2.out.b1.c1.cell
 have c2 := Ha2.out.b2.c0.cell
 have c3 := Ha2.out.b2.c1.cell
 clear uqa2 q1 hz
 go_wp2_with fail
 refine (HG1.out wqa2 Ha2.out.up).mono ?_
 rintro e wqb1 ⟨rfl, uqb1⟩
 by_cases hz : 12 < n1
 .
  as_aux_lemma =>
  have q1 : decide (12 < n1) = true := decide_eq_true hz
  rw [q1]
  have HU := Qq (Ha2.out.up.trans uqb1)
  clear uqb1
  go_wp2_with fail
  go_ret
  exact ⟨rfl, HU.out⟩
 have q1 : decide (12 < n1) = false := decide_eq_false hz
 rw [q1]
 have Hb1 := Qq (Ha2.out.upd uqb1)
 have hn1 : n1 <= 12 := by omega
 have c0 := Hb1.out.b1.c0.cell
 have c1 := Hb1.out.b1.c1.cell
 have c2 := Hb1.out.b2.c0.cell
 have c3 := Hb1.out.b2.c1.cell
 clear uqb1 q1 hz
 go_wp2_with fail
 refine (HG2.out wqb1 Hb1.out.up).mono ?_
 rintro e wqb2 ⟨rfl, uqb2⟩
 by_cases hz : 12 < n2
 .
  as_aux_lemma =>
  have q1 : decide (12 < n2) = true := decide_eq_true hz
  rw [q1]
  have HU := Qq (Hb1.out.up.trans uqb2)
  clear uqb2
  go_wp2_with fail
  go_ret
  exact ⟨rfl, HU.out⟩
 have q1 : decide (12 < n2) = false := decide_eq_false hz
 rw [q1]
 have Hb2 := Qq (Hb1.out.upd uqb2)
 have hn2 : n2 <= 12 := by omega
 have c0 := Hb2.out.b1.c0.cell
 have c1 := Hb2.out.b1.c1.cell
 have c2 := Hb2.out.b2.c0.cell
 have c3 := Hb2.out.b2.c1.cell
 clear uqb2 q1 hz
 go_wp2_with fail
 have HLL := Qq (Qj hn1 hn2)
 have HGC := Qq (fun (w' : World) (u : Upd NoF w w') => implInv_law _ _ n1 n2 A B w' (HN.out w' u).1 (HN.out w' u).2.1 (by have := HLL.out; omega) (by have := HLL.out; omega) (HN.out w' u).2.2.2.1 (HN.out w' u).2.2.1 (HN.out w' u).2.2.2.2)
 clear hn1 hn2
 refine (HGC.out wqb2 Hb2.out.up).mono ?_
 rintro e wg1 ⟨sz, Az, mz, cz, k, rfl, hR, ug⟩
 have hb2 := BoxN.new wg1 sz Az mz cz
 have H1 := Qq (Qj (Hb2.out.upd ug) hR)
 clear hR ug
 go_wp2_with fail
 obtain ⟨gz, hgz⟩ : ∃ g, wg1.heap.size = g := ⟨_, rfl⟩
 have ub : Upd NoF wg1 (wg1.alloc (.cells #[.bool sz, .slice Az mz cz] 24)) := (Upd.refl NoF wg1).alloc _
 obtain ⟨w2, hw2⟩ : ∃ w2, wg1.alloc (.cells #[.bool sz, .slice Az mz cz] 24) = w2 := ⟨_, rfl⟩
 rw [hgz, hw2] at hb2
 rw [hw2] at ub
 (try rw [hgz, hw2])
 have hans : InvAns A B w2 (.agg #[.bool sz, .slice Az mz cz]) k := fun h => (H1.out.2 h).imp (fun ⟨a, b, V, c, d, e⟩ => ⟨a, b, V, c, d, e.upd ub⟩) id
 have H2 := Qq (Qj (H1.out.1.upd ub) (Qj hb2 hans))
 clear hb2 hgz hw2 H1 hans ub
 have HI1 := Qq (fun (w' : World) (u : Upd NoF w2 w') => in_sp _ n1 A w' (HN.out w' (H2.out.1.up.trans u)).1 (by have := HLL.out; omega))
 have HI2 := Qq (fun (w' : World) (u : Upd NoF w2 w') => in_sp _ n2 B w' (HN.out w' (H2.out.1.up.trans u)).2.1 (by have := HLL.out; omega))
 have HS := Qq (fun (w' : World) (u : Upd NoF w2 w') => (show w'.cell? ⟨g, 0, none⟩ = some (.bool s1) /\ w'.cell? ⟨g, 1, none⟩ = some (.slice A1 n1 k1) /\ w'.cell? ⟨g + 1, 0, none⟩ = some (.bool s2) /\ w'.cell? ⟨g + 1, 1, none⟩ = some (.slice A2 n2 k2) from
  ⟨(H2.out.1.upd u).b1.c0.cell, (H2.out.1.upd u).b1.c1.cell, (H2.out.1.upd u).b2.c0.cell, (H2.out.1.upd u).b2.c1.cell⟩))
 have H2b := Qq H2.out.1
 clear c0 c1 c2 c3
 have c0 := H2b.out.b1.c0.cell
 have c1 := H2b.out.b1.c1.cell
 have c2 := H2b.out.b2.c0.cell
 have c3 := H2b.out.b2.c1.cell
 clear H2b
 go_upto_region 6 with fail
 go_cut [7, 8] (fun p q wx => ∃ (ga gb : Nat) (sa sb : Bool) (Aa Ab : Option Addr) (ma mb ca cb : Nat), p = .pointer (some ⟨ga, 0, none⟩) /\ q = .pointer (some ⟨gb, 0, none⟩) /\ Hid (Upd NoF w2 wx /\ BoxI wx ga sa Aa ma ca /\ BoxI wx gb sb Ab mb cb /\ SpI wx (.agg #[.bool sa, .slice Aa ma ca]) A /\ SpI wx (.agg #[.bool sb, .slice Ab mb cb]) B))
 case first =>
  -- [R
  refine wp_region_held_drew (S := (fun w' => w'.cell? ⟨g, 0, none⟩ = some (.bool s1) /\ w'.cell? ⟨g, 1, none⟩ = some (.slice A1 n1 k1) /\ w'.cell? ⟨g + 1, 0, none⟩ = some (.bool s2) /\ w'.cell? ⟨g + 1, 1, none⟩ = some (.slice A2 n2 k2))) (by kernel_rfl) (by exact HS.out _ (by (repeat (first | exact Upd.refl _ _ | assumption | refine Upd.alloc ?_ _ | refine Upd.drew ?_ | refine Upd.drewN ?_ _ | refine Upd.trans ?_ (by assumption))))) (fun hHeld => ?_)
  refine wpAnyH_take (i := 0) (v := ?_) rfl (by kernel_rfl) (by kernel_rfl) (by kernel_rfl) (fun _ _ _ h => h) (Or.inl ⟨by rfl, ?_⟩) (by assumption) ?_
  rotate_left
  . (intro w' hSw; (try dsimp only at hSw); go_simp; try with_reducible rfl)
  (try simp only [Act.put, zqa, zqb, zqc, zqd, zqe, zqf])
  refine wpAnyH_take (i := 2) (v := ?_) rfl (by kernel_rfl) (by kernel_rfl) (by kernel_rfl) (fun _ _ _ h => h) (Or.inl ⟨by rfl, ?_⟩) (by assumption) ?_
  rotate_left
  . (intro w' hSw; (try dsimp only at hSw); go_simp; try with_reducible rfl)
  (try simp only [Act.put, zqa, zqb, zqc, zqd, zqe, zqf])
  refine wpAnyH_abs (fun F a0 hF ha0 => ?_)
  clear c0 c1 c2 c3
  have N2_45 : ∀ (ga : Nat) (gb : Nat) (va : Value) (vb : Value) (w' : World) (hu : Upd NoF w2 w') (b4 : BoxI w' ga false none 0 0) (l4 : w2.heap.size <= ga) (b5 : BoxI w' gb false none 0 0) (l5 : w2.heap.size <= gb) (d4_5 : ga ≠ gb) (na : SpI w' va A) (nb : SpI w' vb B), F 2 #[true, true, true, true, true, true, false, false] (Act.put (Act.put (Act.put (Act.put a0 (some 7) (.pointer (some ⟨ga, 0, none⟩))) (some 8) (.pointer (some ⟨gb, 0, none⟩))) (some 31) (va)) (some 33) (vb)) w' := by
   as_aux_lemma =>
   intro ga gb va vb w' hu b4 l4 b5 l5 d4_5 na nb
   subst ha0
   rw [<- hF]
   (try simp only [Act.put, zqa, zqb, zqc, zqd, zqe, zqf])
   obtain ⟨Aa, ca, rfl, _, _⟩ := id na
   obtain ⟨Ab, cb, rfl, _, _⟩ := id nb
   obtain ⟨sa, hsa⟩ : ∃ s, decide (A < 0) = s := ⟨_, rfl⟩
   rw [hsa] at na ⊢
   obtain ⟨sb, hsb⟩ : ∃ s, decide (B < 0) = s := ⟨_, rfl⟩
   rw [hsb] at nb ⊢
   obtain ⟨ma, hma⟩ : ∃ s, (ds A.natAbs).length = s := ⟨_, rfl⟩
   rw [hma] at na ⊢
   obtain ⟨mb, hmb⟩ : ∃ s, (ds B.natAbs).length = s := ⟨_, rfl⟩
   rw [hmb] at nb ⊢
   have e1 := b4.c0.cell
   have e2 := b4.c1.cell
   have e3 := b4.c0.frozen
   have e4 := b4.c1.frozen
   have x1 := b5.c0.cell
   have x2 := b5.c1.cell
   have x3 := b5.c0.frozen
   have x4 := b5.c1.frozen
   have hne1 := Ne.symm d4_5
   obtain ⟨wf, hwf, f1⟩ := istores (w := w2) hu l4 l5 b4 b5 d4_5 na nb
   have HWF := Qq (Qj hwf f1)
   have HB3 := Qq (Qj hu (Qj l4 l5))
   clear hwf f1 na nb b4 b5 hu hsa hsb hma hmb
   refine wpAnyH_ready (rs := [6]) (by kernel_rfl) (by simp) ?_
   refine AllReadyH.cons rfl (fun K hK => ?_) AllReadyH.nil
   go_simp
   refine hK.out _ _ ?_ (fun hHeld => ?_)
   case' refine_1 => (try dsimp only); exact HS.out _ ((HB3.out.1.setCell (fun h => by have := HB3.out.2.1; omega) _).setCell (fun h => by have := HB3.out.2.1; omega) _)
   clear hK K
   (try simp only [Act.put, zqa, zqb, zqc, zqd, zqe, zqf])
   refine wpAnyH_ready (rs := [7]) (by kernel_rfl) (by simp) ?_
   refine AllReadyH.cons rfl (fun K hK => ?_) AllReadyH.nil
   go_simp
   refine hK.out _ _ ?_ (fun hHeld => ?_)
   case' refine_1 => (try dsimp only); exact HS.out _ ((((HB3.out.1.setCell (fun h => by have := HB3.out.2.1; omega) _).setCell (fun h => by have := HB3.out.2.1; omega) _).setCell (fun h => by have := HB3.out.2.2; omega) _).setCell (fun h => by have := HB3.out.2.2; omega) _)
   clear hK K
   (try simp only [Act.put, zqa, zqb, zqc, zqd, zqe, zqf])
   refine wpAnyH_done (by kernel_rfl) ?_ _
   rw [<- HWF.out.1]
   go_wp2_with fail
   go_meet
   case rel => exact ⟨_, _, sa, sb, Aa, Ab, ma, mb, ca, cb, rfl, rfl, HWF.out.2⟩
  have N2_4 : ∀ (ga : Nat) (va : Value) (vb : Value) (w' : World) (hu : Upd NoF w2 w') (b4 : BoxI w' ga false none 0 0) (l4 : w2.heap.size <= ga) (na : SpI w' va A) (nb : SpI w' vb B), F 3 #[true, true, true, true, true, false, false, false] (Act.put (Act.put (Act.put a0 (some 7) (.pointer (some ⟨ga, 0, none⟩))) (some 31) (va)) (some 33) (vb)) w' := by
   as_aux_lemma =>
   intro ga va vb w' hu b4 l4 na nb
   subst ha0
   rw [<- hF]
   (try simp only [Act.put, zqa, zqb, zqc, zqd, zqe, zqf])
   refine wpAnyH_ready (rs := [5]) (by kernel_rfl) (by simp) ?_
   refine AllReadyH.cons rfl (fun K hK => ?_) AllReadyH.nil
   go_simp
   refine hK.out _ _ ?_ (fun hHeld => ?_)
   case' refine_1 => (try dsimp only); exact HS.out _ (hu.alloc _)
   rw [hF]
   have hn := N2_45 ga w'.heap.size va vb (w'.alloc (.cells #[.bool false, .slice none 0 0] 32)) (hu.alloc _) (b4.upd ((Upd.refl NoF w').alloc _)) l4 (BoxI.new w' false none 0 0) hu.size (by have := b4.c0.lt; omega) (na.upd ((Upd.refl NoF w').alloc _)) (nb.upd ((Upd.refl NoF w').alloc _))
   (try simp only [Act.put, zqa, zqb, zqc, zqd, zqe, zqf] at hn ⊢)
   exact hn
  have N2_5 : ∀ (gb : Nat) (va : Value) (vb : Value) (w' : World) (hu : Upd NoF w2 w') (b5 : BoxI w' gb false none 0 0) (l5 : w2.heap.size <= gb) (na : SpI w' va A) (nb : SpI w' vb B), F 3 #[true, true, true, true, false, true, false, false] (Act.put (Act.put (Act.put a0 (some 8) (.pointer (some ⟨gb, 0, none⟩))) (some 31) (va)) (some 33) (vb)) w' := by
   as_aux_lemma =>
   intro gb va vb w' hu b5 l5 na nb
   subst ha0
   rw [<- hF]
   (try simp only [Act.put, zqa, zqb, zqc, zqd, zqe, zqf])
   refine wpAnyH_ready (rs := [4]) (by kernel_rfl) (by simp) ?_
   refine AllReadyH.cons rfl (fun K hK => ?_) AllReadyH.nil
   go_simp
   refine hK.out _ _ ?_ (fun hHeld => ?_)
   case' refine_1 => (try dsimp only); exact HS.out _ (hu.alloc _)
   rw [hF]
   have hn := N2_45 w'.heap.size gb va vb (w'.alloc (.cells #[.bool false, .slice none 0 0] 32)) (hu.alloc _) (BoxI.new w' false none 0 0) hu.size (b5.upd ((Upd.refl NoF w').alloc _)) l5 (by have := b5.c0.lt; omega) (na.upd ((Upd.refl NoF w').alloc _)) (nb.upd ((Upd.refl NoF w').alloc _))
   (try simp only [Act.put, zqa, zqb, zqc, zqd, zqe, zqf] at hn ⊢)
   exact hn
  have N2_0 : ∀ (va : Value) (vb : Value) (w' : World) (hu : Upd NoF w2 w') (na : SpI w' va A) (nb : SpI w' vb B), F 4 #[true, true, true, true, false, false, false, false] (Act.put (Act.put a0 (some 31) (va)) (some 33) (vb)) w' := by
   as_aux_lemma =>
   intro va vb w' hu na nb
   subst ha0
   rw [<- hF]
   (try simp only [Act.put, zqa, zqb, zqc, zqd, zqe, zqf])
   refine wpAnyH_ready (rs := [4, 5]) (by kernel_rfl) (by simp) ?_
   refine AllReadyH.cons rfl (fun K hK => ?_) ?_
   .
    go_simp
    refine hK.out _ _ ?_ (fun hHeld => ?_)
    case' refine_1 => (try dsimp only); exact HS.out _ (hu.alloc _)
    rw [hF]
    have hn := N2_4 w'.heap.size va vb (w'.alloc (.cells #[.bool false, .slice none 0 0] 32)) (hu.alloc _) (BoxI.new w' false none 0 0) hu.size (na.upd ((Upd.refl NoF w').alloc _)) (nb.upd ((Upd.refl NoF w').alloc _))
    (try simp only [Act.put, zqa, zqb, zqc, zqd, zqe, zqf] at hn ⊢)
    exact hn
   refine AllReadyH.cons rfl (fun K hK => ?_) AllReadyH.nil
   go_simp
   refine hK.out _ _ ?_ (fun hHeld => ?_)
   case' refine_1 => (try dsimp only); exact HS.out _ (hu.alloc _)
   rw [hF]
   have hn := N2_5 w'.heap.size va vb (w'.alloc (.cells #[.bool false, .slice none 0 0] 32)) (hu.alloc _) (BoxI.new w' false none 0 0) hu.size (na.upd ((Upd.refl NoF w').alloc _)) (nb.upd ((Upd.refl NoF w').alloc _))
   (try simp only [Act.put, zqa, zqb, zqc, zqd, zqe, zqf] at hn ⊢)
   exact hn
  have N1_45 : ∀ (ga : Nat) (gb : Nat) (va : Value) (w' : World) (hu : Upd NoF w2 w') (b4 : BoxI w' ga false none 0 0) (l4 : w2.heap.size <= ga) (b5 : BoxI w' gb false none 0 0) (l5 : w2.heap.size <= gb) (d4_5 : ga ≠ gb) (na : SpI w' va A), F 3 #[true, true, true, false, true, true, false, false] (Act.put (Act.put (Act.put a0 (some 7) (.pointer (some ⟨ga, 0, none⟩))) (some 8) (.pointer (some ⟨gb, 0, none⟩))) (some 31) (va)) w' := by
   as_aux_lemma =>
   intro ga gb va w' hu b4 l4 b5 l5 d4_5 na
   subst ha0
   rw [<- hF]
   (try simp only [Act.put, zqa, zqb, zqc, zqd, zqe, zqf])
   refine wpAnyH_ready (rs := [3]) (by kernel_rfl) (by simp) ?_
   refine AllReadyH.cons rfl (fun K hK => ?_) AllReadyH.nil
   go_simp
   refine (HI2.out w' hu).mono ?_
   rintro e wc ⟨vb, rfl, nb, uc⟩
   refine hK.out _ _ ?_ (fun hHeld => ?_)
   case' refine_1 => (try dsimp only); exact HS.out _ (hu.trans uc)
   rw [hF]
   have hn := N2_45 ga gb va vb wc (hu.trans uc) (b4.upd uc) l4 (b5.upd uc) l5 d4_5 (na.upd uc) nb
   (try simp only [Act.put, zqa, zqb, zqc, zqd, zqe, zqf] at hn ⊢)
   exact hn
  have N1_4 : ∀ (ga : Nat) (va : Value) (w' : World) (hu : Upd NoF w2 w') (b4 : BoxI w' ga false none 0 0) (l4 : w2.heap.size <= ga) (na : SpI w' va A), F 4 #[true, true, true, false, true, false, false, false] (Act.put (Act.put a0 (some 7) (.pointer (some ⟨ga, 0, none⟩))) (some 31) (va)) w' := by
   as_aux_lemma =>
   intro ga va w' hu b4 l4 na
   subst ha0
   rw [<- hF]
   (try simp only [Act.put, zqa, zqb, zqc, zqd, zqe, zqf])
   refine wpAnyH_ready (rs := [3, 5]) (by kernel_rfl) (by simp) ?_
   refine AllReadyH.cons rfl (fun K hK => ?_) ?_
   .
    go_simp
    refine (HI2.out w' hu).mono ?_
    rintro e wc ⟨vb, rfl, nb, uc⟩
    refine hK.out _ _ ?_ (fun hHeld => ?_)
    case' refine_1 => (try dsimp only); exact HS.out _ (hu.trans uc)
    rw [hF]
    have hn := N2_4 ga va vb wc (hu.trans uc) (b4.upd uc) l4 (na.upd uc) nb
    (try simp only [Act.put, zqa, zqb, zqc, zqd, zqe, zqf] at hn ⊢)
    exact hn
   refine AllReadyH.cons rfl (fun K hK => ?_) AllReadyH.nil
   go_simp
   refine hK.out _ _ ?_ (fun hHeld => ?_)
   case' refine_1 => (try dsimp only); exact HS.out _ (hu.alloc _)
   rw [hF]
   have hn := N1_45 ga w'.heap.size va (w'.alloc (.cells #[.bool false, .slice none 0 0] 32)) (hu.alloc _) (b4.upd ((Upd.refl NoF w').alloc _)) l4 (BoxI.new w' false none 0 0) hu.size (by have := b4.c0.lt; omega) (na.upd ((Upd.refl NoF w').alloc _))
   (try simp only [Act.put, zqa, zqb, zqc, zqd, zqe, zqf] at hn ⊢)
   exact hn
  have N1_5 : ∀ (gb : Nat) (va : Value) (w' : World) (hu : Upd NoF w2 w') (b5 : BoxI w' gb false none 0 0) (l5 : w2.heap.size <= gb) (na : SpI w' va A), F 4 #[true, true, true, false, false, true, false, false] (Act.put (Act.put a0 (some 8) (.pointer (some ⟨gb, 0, none⟩))) (some 31) (va)) w' := by
   as_aux_lemma =>
   intro gb va w' hu b5 l5 na
   subst ha0
   rw [<- hF]
   (try simp only [Act.put, zqa, zqb, zqc, zqd, zqe, zqf])
   refine wpAnyH_ready (rs := [3, 4]) (by kernel_rfl) (by simp) ?_
   refine AllReadyH.cons rfl (fun K hK => ?_) ?_
   .
    go_simp
    refine (HI2.out w' hu).mono ?_
    rintro e wc ⟨vb, rfl, nb, uc⟩
    refine hK.out _ _ ?_ (fun hHeld => ?_)
    case' refine_1 => (try dsimp only); exact HS.out _ (hu.trans uc)
    rw [hF]
    have hn := N2_5 gb va vb wc (hu.trans uc) (b5.upd uc) l5 (na.upd uc) nb
    (try simp only [Act.put, zqa, zqb, zqc, zqd, zqe, zqf] at hn ⊢)
    exact hn
   refine AllReadyH.cons rfl (fun K hK => ?_) AllReadyH.nil
   go_simp
   refine hK.out _ _ ?_ (fun hHeld => ?_)
   case' refine_1 => (try dsimp only); exact HS.out _ (hu.alloc _)
   rw [hF]
   have hn := N1_45 w'.heap.size gb va (w'.alloc (.cells #[.bool false, .slice none 0 0] 32)) (hu.alloc _) (BoxI.new w' false none 0 0) hu.size (b5.upd ((Upd.refl NoF w').alloc _)) l5 (by have := b5.c0.lt; omega) (na.upd ((Upd.refl NoF w').alloc _))
   (try simp only [Act.put, zqa, zqb, zqc, zqd, zqe, zqf] at hn ⊢)
   exact hn
  have N1_0 : ∀ (va : Value) (w' : World) (hu : Upd NoF w2 w') (na : SpI w' va A), F 5 #[true, true, true, false, false, false, false, false] (Act.put a0 (some 31) (va)) w' := by
   as_aux_lemma =>
   intro va w' hu na
   subst ha0
   rw [<- hF]
   (try simp only [Act.put, zqa, zqb, zqc, zqd, zqe, zqf])
   refine wpAnyH_ready (rs := [3, 4, 5]) (by kernel_rfl) (by simp) ?_
   refine AllReadyH.cons rfl (fun K hK => ?_) ?_
   .
    go_simp
    refine (HI2.out w' hu).mono ?_
    rintro e wc ⟨vb, rfl, nb, uc⟩
    refine hK.out _ _ ?_ (fun hHeld => ?_)
    case' refine_1 => (try dsimp only); exact HS.out _ (hu.trans uc)
    rw [hF]
    have hn := N2_0 va vb wc (hu.trans uc) (na.upd uc) nb
    (try simp only [Act.put, zqa, zqb, zqc, zqd, zqe, zqf] at hn ⊢)
    exact hn
   refine AllReadyH.cons rfl (fun K hK => ?_) ?_
   .
    go_simp
    refine hK.out _ _ ?_ (fun hHeld => ?_)
    case' refine_1 => (try dsimp only); exact HS.out _ (hu.alloc _)
    rw [hF]
    have hn := N1_4 w'.heap.size va (w'.alloc (.cells #[.bool false, .slice none 0 0] 32)) (hu.alloc _) (BoxI.new w' false none 0 0) hu.size (na.upd ((Upd.refl NoF w').alloc _))
    (try simp only [Act.put, zqa, zqb, zqc, zqd, zqe, zqf] at hn ⊢)
    exact hn
   refine AllReadyH.cons rfl (fun K hK => ?_) AllReadyH.nil
   go_simp
   refine hK.out _ _ ?_ (fun hHeld => ?_)
   case' refine_1 => (try dsimp only); exact HS.out _ (hu.alloc _)
   rw [hF]
   have hn := N1_5 w'.heap.size va (w'.alloc (.cells #[.bool false, .slice none 0 0] 32)) (hu.alloc _) (BoxI.new w' false none 0 0) hu.size (na.upd ((Upd.refl NoF w').alloc _))
   (try simp only [Act.put, zqa, zqb, zqc, zqd, zqe, zqf] at hn ⊢)
   exact hn
  have N0_45 : ∀ (ga : Nat) (gb : Nat) (w' : World) (hu : Upd NoF w2 w') (b4 : BoxI w' ga false none 0 0) (l4 : w2.heap.size <= ga) (b5 : BoxI w' gb false none 0 0) (l5 : w2.heap.size <= gb) (d4_5 : ga ≠ gb), F 4 #[true, false, true, false, true, true, false, false] (Act.put (Act.put a0 (some 7) (.pointer (some ⟨ga, 0, none⟩))) (some 8) (.pointer (some ⟨gb, 0, none⟩))) w' := by
   as_aux_lemma =>
   intro ga gb w' hu b4 l4 b5 l5 d4_5
   subst ha0
   rw [<- hF]
   (try simp only [Act.put, zqa, zqb, zqc, zqd, zqe, zqf])
   refine wpAnyH_ready (rs := [1]) (by kernel_rfl) (by simp) ?_
   refine AllReadyH.cons rfl (fun K hK => ?_) AllReadyH.nil
   go_simp
   refine (HI1.out w' hu).mono ?_
   rintro e wc ⟨va, rfl, na, uc⟩
   refine hK.out _ _ ?_ (fun hHeld => ?_)
   case' refine_1 => (try dsimp only); exact HS.out _ (hu.trans uc)
   rw [hF]
   have hn := N1_45 ga gb va wc (hu.trans uc) (b4.upd uc) l4 (b5.upd uc) l5 d4_5 na
   (try simp only [Act.put, zqa, zqb, zqc, zqd, zqe, zqf] at hn ⊢)
   exact hn
  have N0_4 : ∀ (ga : Nat) (w' : World) (hu : Upd NoF w2 w') (b4 : BoxI w' ga false none 0 0) (l4 : w2.heap.size <= ga), F 5 #[true, false, true, false, true, false, false, false] (Act.put a0 (some 7) (.pointer (some ⟨ga, 0, none⟩))) w' := by
   as_aux_lemma =>
   intro ga w' hu b4 l4
   subst ha0
   rw [<- hF]
   (try simp only [Act.put, zqa, zqb, zqc, zqd, zqe, zqf])
   refine wpAnyH_ready (rs := [1, 5]) (by kernel_rfl) (by simp) ?_
   refine AllReadyH.cons rfl (fun K hK => ?_) ?_
   .
    go_simp
    refine (HI1.out w' hu).mono ?_
    rintro e wc ⟨va, rfl, na, uc⟩
    refine hK.out _ _ ?_ (fun hHeld => ?_)
    case' refine_1 => (try dsimp only); exact HS.out _ (hu.trans uc)
    rw [hF]
    have hn := N1_4 ga va wc (hu.trans uc) (b4.upd uc) l4 na
    (try simp only [Act.put, zqa, zqb, zqc, zqd, zqe, zqf] at hn ⊢)
    exact hn
   refine AllReadyH.cons rfl (fun K hK => ?_) AllReadyH.nil
   go_simp
   refine hK.out _ _ ?_ (fun hHeld => ?_)
   case' refine_1 => (try dsimp only); exact HS.out _ (hu.alloc _)
   rw [hF]
   have hn := N0_45 ga w'.heap.size (w'.alloc (.cells #[.bool false, .slice none 0 0] 32)) (hu.alloc _) (b4.upd ((Upd.refl NoF w').alloc _)) l4 (BoxI.new w' false none 0 0) hu.size (by have := b4.c0.lt; omega)
   (try simp only [Act.put, zqa, zqb, zqc, zqd, zqe, zqf] at hn ⊢)
   exact hn
  have N0_5 : ∀ (gb : Nat) (w' : World) (hu : Upd NoF w2 w') (b5 : BoxI w' gb false none 0 0) (l5 : w2.heap.size <= gb), F 5 #[true, false, true, false, false, true, false, false] (Act.put a0 (some 8) (.pointer (some ⟨gb, 0, none⟩))) w' := by
   as_aux_lemma =>
   intro gb w' hu b5 l5
   subst ha0
   rw [<- hF]
   (try simp only [Act.put, zqa, zqb, zqc, zqd, zqe, zqf])
   refine wpAnyH_ready (rs := [1, 4]) (by kernel_rfl) (by simp) ?_
   refine AllReadyH.cons rfl (fun K hK => ?_) ?_
   .
    go_simp
    refine (HI1.out w' hu).mono ?_
    rintro e wc ⟨va, rfl, na, uc⟩
    refine hK.out _ _ ?_ (fun hHeld => ?_)
    case' refine_1 => (try dsimp only); exact HS.out _ (hu.trans uc)
    rw [hF]
    have hn := N1_5 gb va wc (hu.trans uc) (b5.upd uc) l5 na
    (try simp only [Act.put, zqa, zqb, zqc, zqd, zqe, zqf] at hn ⊢)
    exact hn
   refine AllReadyH.cons rfl (fun K hK => ?_) AllReadyH.nil
   go_simp
   refine hK.out _ _ ?_ (fun hHeld => ?_)
   case' refine_1 => (try dsimp only); exact HS.out _ (hu.alloc _)
   rw [hF]
   have hn := N0_45 w'.heap.size gb (w'.alloc (.cells #[.bool false, .slice none 0 0] 32)) (hu.alloc _) (BoxI.new w' false none 0 0) hu.size (b5.upd ((Upd.refl NoF w').alloc _)) l5 (by have := b5.c0.lt; omega)
   (try simp only [Act.put, zqa, zqb, zqc, zqd, zqe, zqf] at hn ⊢)
   exact hn
  have N0_0 : ∀ (w' : World) (hu : Upd NoF w2 w'), F 6 #[true, false, true, false, false, false, false, false] a0 w' := by
   as_aux_lemma =>
   intro w' hu
   subst ha0
   rw [<- hF]
   (try simp only [Act.put, zqa, zqb, zqc, zqd, zqe, zqf])
   refine wpAnyH_ready (rs := [1, 4, 5]) (by kernel_rfl) (by simp) ?_
   refine AllReadyH.cons rfl (fun K hK => ?_) ?_
   .
    go_simp
    refine (HI1.out w' hu).mono ?_
    rintro e wc ⟨va, rfl, na, uc⟩
    refine hK.out _ _ ?_ (fun hHeld => ?_)
    case' refine_1 => (try dsimp only); exact HS.out _ (hu.trans uc)
    rw [hF]
    have hn := N1_0 va wc (hu.trans uc) na
    (try simp only [Act.put, zqa, zqb, zqc, zqd, zqe, zqf] at hn ⊢)
    exact hn
   refine AllReadyH.cons rfl (fun K hK => ?_) ?_
   .
    go_simp
    refine hK.out _ _ ?_ (fun hHeld => ?_)
    case' refine_1 => (try dsimp only); exact HS.out _ (hu.alloc _)
    rw [hF]
    have hn := N0_4 w'.heap.size (w'.alloc (.cells #[.bool false, .slice none 0 0] 32)) (hu.alloc _) (BoxI.new w' false none 0 0) hu.size
    (try simp only [Act.put, zqa, zqb, zqc, zqd, zqe, zqf] at hn ⊢)
    exact hn
   refine AllReadyH.cons rfl (fun K hK => ?_) AllReadyH.nil
   go_simp
   refine hK.out _ _ ?_ (fun hHeld => ?_)
   case' refine_1 => (try dsimp only); exact HS.out _ (hu.alloc _)
   rw [hF]
   have hn := N0_5 w'.heap.size (w'.alloc (.cells #[.bool false, .slice none 0 0] 32)) (hu.alloc _) (BoxI.new w' false none 0 0) hu.size
   (try simp only [Act.put, zqa, zqb, zqc, zqd, zqe, zqf] at hn ⊢)
   exact hn
  exact N0_0 _ (Upd.refl NoF w2).drew
  -- R]
 case rest =>
 obtain ⟨ga, gb, sa, sb, Aa, Ab, ma, mb, ca, cb, rfl, rfl, HW⟩ := hcut
 have hzA := HW.out.2.2.2.1.nat
 have hzB := HW.out.2.2.2.2.nat
 have lA : (ds A.natAbs).length <= 80 := by have := ds_len4 A.natAbs; have := HL.out; have := HLL.out; omega
 have lB : (ds B.natAbs).length <= 80 := by have := ds_len4 B.natAbs; have := HL.out; have := HLL.out; omega
 have hmb := hzB.2.len
 have H3 := Qq (Qj (H2.out.1.upd HW.out.1) (Qj (H2.out.2.1.upd HW.out.1) (Qj (show InvAns A B wc (.agg #[.bool sz, .slice Az mz cz]) k from fun h => (H2.out.2.2 h).imp (fun ⟨a, b, V, c, d, e⟩ => ⟨a, b, V, c, d, e.upd HW.out.1⟩) id) HW.out.2)))
 have HAB := Qq (Qj lA lB)
 have b1 := HW.out.2.2.1.c1.cell
 have a1 := HW.out.2.1.c1.cell
 by_cases hB0 : B = 0
 .
  have qb : ((mb : Int) == 0) = true := beq_iff_eq.2 (by rw [(ds_len_eq_zero (n := B.natAbs)).2 (by omega)] at hmb; omega)
  have HU := Qq H3.out.1.up
  clear HW H2 HI1 HI2 HS c0 c1 c2 c3 hzA hzB hmb lA lB hB0 a1
  go_wp2_with fail
  go_ret
  exact ⟨rfl, HU.out⟩
 have hBp : 0 < B.natAbs := by omega
 have qb : ((mb : Int) == 0) = false := beq_eq_false_iff_ne.2 (by have := mt (ds_len_eq_zero (n := B.natAbs)).1 (by omega); omega)
 have HGG := Qq (gcd_sp _ _ A.natAbs B.natAbs wc hzA.2 hzB.2 (by omega) (by omega))
 have HAN := Qq (Qj hBp (H3.out.2.2.1 hB0))
 clear HW H2 HI1 HI2 HS c0 c1 c2 c3 hzA hzB hmb lA lB hB0 hBp
 go_wp2_with fail
 refine HGG.out.mono ?_
 rintro e w4 ⟨vg, rfl, ng, u4⟩
 obtain ⟨D, hDD⟩ : ∃ D, Nat.gcd A.natAbs B.natAbs = D := ⟨_, rfl⟩
 rw [hDD] at ng
 have lD : (ds D).length <= 800000 := by
  rw [<- hDD]
  rcases Nat.eq_zero_or_pos A.natAbs with h | h
  . rw [h, Nat.gcd_zero_left]; have := HAB.out; omega
  . have := ds_len_mono (Nat.gcd_le_left B.natAbs h); have := HAB.out; omega
 have HO1 := Qq (one_sp vg D w4 ng (by omega))
 have HDD := Qq hDD
 have H4 := Qq (Qj (H3.out.1.upd u4) (Qj (H3.out.2.1.upd u4) (Qj (H3.out.2.2.2.1.upd u4) (Qj (H3.out.2.2.2.2.1.upd u4) (Qj (H3.out.2.2.2.2.2.1.upd u4) (Qj (H3.out.2.2.2.2.2.2.upd u4) u4))))))
 have HA4 := Qq (show (Nat.gcd A.natAbs B.natAbs = 1 /\ k = 0 /\ ∃ V : Int, B ∣ V * A - 1 /\ (digs V.natAbs).length <= 20 /\ NumI w4 (.agg #[.bool sz, .slice Az mz cz]) V) \/ (Nat.gcd A.natAbs B.natAbs ≠ 1 /\ k = 1) from HAN.out.2.imp (fun ⟨a, b, V, c, d, e⟩ => ⟨a, b, V, c, d, e.upd u4⟩) id)
 clear H3 HGG a1 b1 u4 ng hDD lD
 go_wp2_with fail
 refine HO1.out.mono ?_
 rintro e w5 ⟨rfl, u5⟩
 have H5 := Qq (Qj (H4.out.1.upd u5) (Qj (H4.out.2.1.upd u5) (Qj (H4.out.2.2.1.upd u5) (Qj (H4.out.2.2.2.1.upd u5) (Qj (H4.out.2.2.2.2.1.upd u5) (H4.out.2.2.2.2.2.1.upd u5))))))
 have HU5 := Qq u5
 clear HO1 H4 u5
 rcases HA4.out with ⟨hg1, rfl, V, hV1, hV2, hV3⟩ | ⟨hg1, rfl⟩
 .
  have q1 : decide (D = 1) = true := decide_eq_true (by rw [<- HDD.out]; exact hg1)
  rw [q1]
  have HV := Qq (Qj hV1 (Qj hV2 (hV3.upd HU5.out)))
  have lV : (ds V.natAbs).length <= 80 := by have := ds_len4 V.natAbs; omega
  have HLV := Qq (Qj lV (Qj HAB.out.1 HAB.out.2))
  clear hg1 hV1 hV2 hV3 q1 HA4 lV
  have HJ0 := Qq (fun (w' : World) (u : Upd NoF w5 w') => in_sp _ _ V w' ((HV.out.2.2.upd u).raw (by have := HV.out.2.1; omega)) (by have := HV.out.2.1; omega))
  have HJ1 := Qq (fun (w' : World) (u : Upd NoF w5 w') (va : Value) (na : SpI w' va V) => times_sp va _ V A w' na (H5.out.2.2.2.2.1.upd u) (by have := HLV.out; omega))
  have HJ2 := Qq (fun (w' : World) (u : Upd NoF w5 w') (vb : Value) (nb : SpI w' vb (V * A)) => srest_sp vb (.slice Ab mb cb) (V * A) B.natAbs w' nb (H5.out.2.2.2.2.2.nat.2.upd u) HAN.out.1 (by rw [Int.natAbs_mul]; have := ds_mul_len V.natAbs A.natAbs; have := HLV.out; omega) (by have := HLV.out; omega))
  have HS := Qq (fun (w' : World) (u : Upd NoF w5 w') => (show w'.cell? ⟨gz, 0, none⟩ = some (.bool sz) /\ w'.cell? ⟨gz, 1, none⟩ = some (.slice Az mz cz) /\ w'.cell? ⟨ga, 0, none⟩ = some (.bool sa) /\ w'.cell? ⟨ga, 1, none⟩ = some (.slice Aa ma ca) /\ w'.cell? ⟨gb, 1, none⟩ = some (.slice Ab mb cb) from
   ⟨(H5.out.2.1.upd u).c0.cell, (H5.out.2.1.upd u).c1.cell, (H5.out.2.2.1.upd u).c0.cell, (H5.out.2.2.1.upd u).c1.cell, (H5.out.2.2.2.1.upd u).c1.cell⟩))
  obtain ⟨c0, c1, c2, c3, c4⟩ := HS.out w5 (Upd.refl _ _)
  -- [T
  go_wp2_with fail
  refine wp_region_held_drew (S := (fun w' => w'.cell? ⟨gz, 0, none⟩ = some (.bool sz) /\ w'.cell? ⟨gz, 1, none⟩ = some (.slice Az mz cz) /\ w'.cell? ⟨ga, 0, none⟩ = some (.bool sa) /\ w'.cell? ⟨ga, 1, none⟩ = some (.slice Aa ma ca) /\ w'.cell? ⟨gb, 1, none⟩ = some (.slice Ab mb cb))) (by kernel_rfl) (by exact HS.out _ (by (repeat (first | exact Upd.refl _ _ | assumption | refine Upd.alloc ?_ _ | refine Upd.drew ?_ | refine Upd.drewN ?_ _ | refine Upd.trans ?_ (by assumption))))) (fun hHeld => ?_)
  refine wpAnyH_take (i := 0) (v := ?_) rfl (by kernel_rfl) (by kernel_rfl) (by kernel_rfl) (fun _ _ _ h => h) (Or.inl ⟨by rfl, ?_⟩) (by assumption) ?_
  rotate_left
  . (intro w' hSw; (try dsimp only at hSw); go_simp; try with_reducible rfl)
  (try simp only [Act.put, zqa, zqb, zqc, zqd, zqe, zqf])
  refine wpAnyH_take (i := 2) (v := ?_) rfl (by kernel_rfl) (by kernel_rfl) (by kernel_rfl) (fun _ _ _ h => h) (Or.inl ⟨by rfl, ?_⟩) (by assumption) ?_
  rotate_left
  . (intro w' hSw; (try dsimp only at hSw); go_simp; try with_reducible rfl)
  (try simp only [Act.put, zqa, zqb, zqc, zqd, zqe, zqf])
  refine wpAnyH_take (i := 4) (v := ?_) rfl (by kernel_rfl) (by kernel_rfl) (by kernel_rfl) (fun _ _ _ h => h) (Or.inl ⟨by rfl, ?_⟩) (by assumption) ?_
  rotate_left
  . (intro w' hSw; (try dsimp only at hSw); go_simp; try with_reducible rfl)
  (try simp only [Act.put, zqa, zqb, zqc, zqd, zqe, zqf])
  refine wpAnyH_take (i := 5) (v := ?_) rfl (by kernel_rfl) (by kernel_rfl) (by kernel_rfl) (fun _ _ _ h => h) (Or.inl ⟨by rfl, ?_⟩) (by assumption) ?_
  rotate_left
  . (intro w' hSw; (try dsimp only at hSw); go_simp; try with_reducible rfl)
  (try simp only [Act.put, zqa, zqb, zqc, zqd, zqe, zqf])
  refine wpAnyH_ready (rs := [1]) (by kernel_rfl) (by simp) ?_
  refine AllReadyH.cons rfl (fun K hK => ?_) AllReadyH.nil
  go_simp
  refine (HJ0.out _ (by (repeat (first | exact Upd.refl _ _ | assumption | refine Upd.alloc ?_ _ | refine Upd.drew ?_ | refine Upd.drewN ?_ _ | refine Upd.trans ?_ (by assumption))))).mono ?_
  rintro e w6 ⟨va, rfl, na, u6⟩
  refine hK.out _ _ ?_ (fun hHeld => ?_)
  case' refine_1 => (try dsimp only); exact HS.out _ (by (repeat (first | exact Upd.refl _ _ | assumption | refine Upd.alloc ?_ _ | refine Upd.drew ?_ | refine Upd.drewN ?_ _ | refine Upd.trans ?_ (by assumption))))
  clear hK K
  (try simp only [Act.put, zqd, zqe, zqf])
  (try simp only [Act.put, zqa, zqb, zqc, zqd, zqe, zqf])
  refine wpAnyH_ready (rs := [3]) (by kernel_rfl) (by simp) ?_
  refine AllReadyH.cons rfl (fun K hK => ?_) AllReadyH.nil
  go_simp
  refine (HJ1.out _ (by (repeat (first | exact Upd.refl _ _ | assumption | refine Upd.alloc ?_ _ | refine Upd.drew ?_ | refine Upd.drewN ?_ _ | refine Upd.trans ?_ (by assumption)))) va (na.upd (by (repeat (first | exact Upd.refl _ _ | assumption | refine Upd.alloc ?_ _ | refine Upd.drew ?_ | refine Upd.drewN ?_ _ | refine Upd.trans ?_ (by assumption)))))).mono ?_
  rintro e w7 ⟨vb, rfl, nb, u7⟩
  refine hK.out _ _ ?_ (fun hHeld => ?_)
  case' refine_1 => (try dsimp only); exact HS.out _ (by (repeat (first | exact Upd.refl _ _ | assumption | refine Upd.alloc ?_ _ | refine Upd.drew ?_ | refine Upd.drewN ?_ _ | refine Upd.trans ?_ (by assumption))))
  clear hK K
  (try simp only [Act.put, zqd, zqe, zqf])
  (try simp only [Act.put, zqa, zqb, zqc, zqd, zqe, zqf])
  refine wpAnyH_ready (rs := [6]) (by kernel_rfl) (by simp) ?_
  refine AllReadyH.cons rfl (fun K hK => ?_) AllReadyH.nil
  go_simp
  refine (HJ2.out _ (by (repeat (first | exact Upd.refl _ _ | assumption | refine Upd.alloc ?_ _ | refine Upd.drew ?_ | refine Upd.drewN ?_ _ | refine Upd.trans ?_ (by assumption)))) vb (nb.upd (by (repeat (first | exact Upd.refl _ _ | assumption | refine Upd.alloc ?_ _ | refine Upd.drew ?_ | refine Upd.drewN ?_ _ | refine Upd.trans ?_ (by assumption)))))).mono ?_
  rintro e w8 ⟨vr, rfl, nr, u8⟩
  obtain ⟨R, hR⟩ : ∃ R, (V * A % (B.natAbs : Int)).toNat = R := ⟨_, rfl⟩
  rw [hR] at nr
  obtain ⟨Ar, cr, rfl, _, _⟩ := id nr
  obtain ⟨mr, hmr⟩ : ∃ m, (ds R).length = m := ⟨_, rfl⟩
  rw [hmr] at nr ⊢
  refine hK.out _ _ ?_ (fun hHeld => ?_)
  case' refine_1 => (try dsimp only); exact HS.out _ (by (repeat (first | exact Upd.refl _ _ | assumption | refine Upd.alloc ?_ _ | refine Upd.drew ?_ | refine Upd.drewN ?_ _ | refine Upd.trans ?_ (by assumption))))
  clear hK K
  (try simp only [Act.put, zqd, zqe, zqf])
  (try simp only [Act.put, zqa, zqb, zqc, zqd, zqe, zqf])
  refine wpAnyH_take (i := 7) (v := ?_) rfl (by kernel_rfl) (by kernel_rfl) (by kernel_rfl) (fun _ _ _ h => h) (Or.inl ⟨by rfl, ?_⟩) (by assumption) ?_
  rotate_left
  . (intro w' hSw; (try dsimp only at hSw); go_simp; try with_reducible rfl)
  (try simp only [Act.put, zqa, zqb, zqc, zqd, zqe, zqf])
  have U8 := Qq (show Upd NoF w5 w8 from (by (repeat (first | exact Upd.refl _ _ | assumption | refine Upd.alloc ?_ _ | refine Upd.drew ?_ | refine Upd.drewN ?_ _ | refine Upd.trans ?_ (by assumption)))))
  have HR := Qq (Qj nr hR)
  clear na nb nr u6 u7 u8 hR hmr c0 c1 c2 c3 c4
  refine wpAnyH_done (by kernel_rfl) ?_ _
  have hRe : R = 1 % B.natAbs := by
   rw [<- HR.out.2]
   have h1 := Int.emod_emod_of_dvd (V * A - 1) (Int.dvd_refl (B.natAbs : Int))
   have h2 : V * A % (B.natAbs : Int) = 1 % (B.natAbs : Int) := Int.emod_eq_emod_iff_emod_sub_eq_zero.2 (Int.emod_eq_zero_of_dvd (Int.natAbs_dvd.2 HV.out.1))
   rw [h2]
   rfl
  have lR : (ds R).length <= 80 := by
   rw [hRe]
   have := ds_len_mono (Nat.le_of_lt (Nat.mod_lt 1 HAN.out.1))
   have := HAB.out.2
   omega
  have HRE := Qq (Qj hRe lR)
  clear hRe lR
  have HQ0 := Qq (fun (w' : World) (u : Upd NoF w8 w') (v : Value) (nv : SpN w' v 1) => mod_sp v (.slice Ab mb cb) 1 B.natAbs w' nv (H5.out.2.2.2.2.2.nat.2.upd (U8.out.trans u)) HAN.out.1 (by have h1 := ds_len4 1; have h2 : (digs 1).length <= 1 := digs_len_of_lt (by decide); omega) (by have := HLV.out; omega))
  have HQ1 := Qq (fun (w' : World) (u : Upd NoF w8 w') (v : Value) (nv : SpN w' v (1 % B.natAbs)) => (show Calls Tryz.prog 16 #[.slice Ar mr cr, v] w' fun e w'' => e = .returned (.int .i64 0) /\ Upd NoF w' w'' from
   (scmp_sp _ _ R (1 % B.natAbs) w' (HR.out.1.upd u) nv (by have := HRE.out.2; omega) (by have := HRE.out; rw [<- this.1]; omega)).mono (fun e w'' ⟨r, he, h1, h2, h3⟩ => ⟨by rw [he]; congr 2; have := HRE.out.1; have := h1.2 (by omega); have := h2.2 (by omega); omega, h3⟩)))
  have HS := Qq (fun (w' : World) (u : Upd NoF w8 w') => (show w'.cell? ⟨gb, 1, none⟩ = some (.slice Ab mb cb) from (H5.out.2.2.2.1.upd (U8.out.trans u)).c1.cell))
  have c4 := HS.out w8 (Upd.refl _ _)
  clear HJ0 HJ1 HJ2
  go_wp2_with fail
  refine wp_region_held_drew (S := (fun w' => w'.cell? ⟨gb, 1, none⟩ = some (.slice Ab mb cb))) (by kernel_rfl) (by exact HS.out _ (by (repeat (first | exact Upd.refl _ _ | assumption | refine Upd.alloc ?_ _ | refine Upd.drew ?_ | refine Upd.drewN ?_ _ | refine Upd.trans ?_ (by assumption))))) (fun hHeld => ?_)
  refine wpAnyH_take (i := 0) (v := ?_) rfl (by kernel_rfl) (by kernel_rfl) (by kernel_rfl) (fun _ _ _ h => h) (Or.inl ⟨by rfl, ?_⟩) (by assumption) ?_
  rotate_left
  . (intro w' hSw; (try dsimp only at hSw); go_simp; try with_reducible rfl)
  (try simp only [Act.put, zqa, zqb, zqc, zqd, zqe, zqf])
  refine wpAnyH_take (i := 1) (v := ?_) rfl (by kernel_rfl) (by kernel_rfl) (by kernel_rfl) (fun _ _ _ h => h) (Or.inl ⟨by rfl, ?_⟩) (by assumption) ?_
  rotate_left
  . (intro w' hSw; (try dsimp only at hSw); go_simp; try with_reducible rfl)
  (try simp only [Act.put, zqa, zqb, zqc, zqd, zqe, zqf])
  refine wpAnyH_take (i := 2) (v := ?_) rfl (by kernel_rfl) (by kernel_rfl) (by kernel_rfl) (fun _ _ _ h => h) (Or.inl ⟨by rfl, ?_⟩) (by assumption) ?_
  rotate_left
  . (intro w' hSw; (try dsimp only at hSw); go_simp; try with_reducible rfl)
  (try simp only [Act.put, zqa, zqb, zqc, zqd, zqe, zqf])
  refine wpAnyH_take (i := 3) (v := ?_) rfl (by kernel_rfl) (by kernel_rfl) (by kernel_rfl) (fun _ _ _ h => h) (Or.inl ⟨by rfl, ?_⟩) (by assumption) ?_
  rotate_left
  . (intro w' hSw; (try dsimp only at hSw); go_simp; try with_reducible rfl)
  (try simp only [Act.put, zqa, zqb, zqc, zqd, zqe, zqf])
  refine wpAnyH_take (i := 5) (v := ?_) rfl (by kernel_rfl) (by kernel_rfl) (by kernel_rfl) (fun _ _ _ h => h) (Or.inl ⟨by rfl, ?_⟩) (by assumption) ?_
  rotate_left
  . (intro w' hSw; (try dsimp only at hSw); go_simp; try with_reducible rfl)
  (try simp only [Act.put, zqa, zqb, zqc, zqd, zqe, zqf])
  refine wpAnyH_take (i := 6) (v := ?_) rfl (by kernel_rfl) (by kernel_rfl) (by kernel_rfl) (fun _ _ _ h => h) (Or.inl ⟨by rfl, ?_⟩) (by assumption) ?_
  rotate_left
  . (intro w' hSw; (try dsimp only at hSw); go_simp; try with_reducible rfl)
  (try simp only [Act.put, zqa, zqb, zqc, zqd, zqe, zqf])
  refine wpAnyH_ready (rs := [4]) (by kernel_rfl) (by simp) ?_
  refine AllReadyH.cons rfl (fun K hK => ?_) AllReadyH.nil
  go_simp
  refine (small_sp 1 _ (by omega)).mono ?_
  rintro e w9 ⟨v9, rfl, h9, u9⟩
  refine hK.out _ _ ?_ (fun hHeld => ?_)
  case' refine_1 => (try dsimp only); exact HS.out _ (by (repeat (first | exact Upd.refl _ _ | assumption | refine Upd.alloc ?_ _ | refine Upd.drew ?_ | refine Upd.drewN ?_ _ | refine Upd.trans ?_ (by assumption))))
  clear hK K
  (try simp only [Act.put, zqd, zqe, zqf])
  (try simp only [Act.put, zqa, zqb, zqc, zqd, zqe, zqf])
  refine wpAnyH_ready (rs := [7]) (by kernel_rfl) (by simp) ?_
  refine AllReadyH.cons rfl (fun K hK => ?_) AllReadyH.nil
  go_simp
  refine (HQ0.out _ (by (repeat (first | exact Upd.refl _ _ | assumption | refine Upd.alloc ?_ _ | refine Upd.drew ?_ | refine Upd.drewN ?_ _ | refine Upd.trans ?_ (by assumption)))) v9 (h9.upd (by (repeat (first | exact Upd.refl _ _ | assumption | refine Upd.alloc ?_ _ | refine Upd.drew ?_ | refine Upd.drewN ?_ _ | refine Upd.trans ?_ (by assumption)))))).mono ?_
  rintro e w10 ⟨v10, rfl, h10, u10⟩
  refine hK.out _ _ ?_ (fun hHeld => ?_)
  case' refine_1 => (try dsimp only); exact HS.out _ (by (repeat (first | exact Upd.refl _ _ | assumption | refine Upd.alloc ?_ _ | refine Upd.drew ?_ | refine Upd.drewN ?_ _ | refine Upd.trans ?_ (by assumption))))
  clear hK K
  (try simp only [Act.put, zqd, zqe, zqf])
  (try simp only [Act.put, zqa, zqb, zqc, zqd, zqe, zqf])
  refine wpAnyH_ready (rs := [8]) (by kernel_rfl) (by simp) ?_
  refine AllReadyH.cons rfl (fun K hK => ?_) AllReadyH.nil
  go_simp
  refine (HQ1.out _ (by (repeat (first | exact Upd.refl _ _ | assumption | refine Upd.alloc ?_ _ | refine Upd.drew ?_ | refine Upd.drewN ?_ _ | refine Upd.trans ?_ (by assumption)))) v10 (h10.upd (by (repeat (first | exact Upd.refl _ _ | assumption | refine Upd.alloc ?_ _ | refine Upd.drew ?_ | refine Upd.drewN ?_ _ | refine Upd.trans ?_ (by assumption)))))).mono ?_
  rintro e w11 ⟨rfl, u11⟩
  refine hK.out _ _ ?_ (fun hHeld => ?_)
  case' refine_1 => (try dsimp only); exact HS.out _ (by (repeat (first | exact Upd.refl _ _ | assumption | refine Upd.alloc ?_ _ | refine Upd.drew ?_ | refine Upd.drewN ?_ _ | refine Upd.trans ?_ (by assumption))))
  clear hK K
  (try simp only [Act.put, zqd, zqe, zqf])
  (try simp only [Act.put, zqa, zqb, zqc, zqd, zqe, zqf])
  refine wpAnyH_take (i := 9) (v := ?_) rfl (by kernel_rfl) (by kernel_rfl) (by kernel_rfl) (fun _ _ _ h => h) (Or.inl ⟨by rfl, ?_⟩) (by assumption) ?_
  rotate_left
  . (intro w' hSw; (try dsimp only at hSw); go_simp; try with_reducible rfl)
  (try simp only [Act.put, zqa, zqb, zqc, zqd, zqe, zqf])
  refine wpAnyH_take (i := 10) (v := ?_) rfl (by kernel_rfl) (by kernel_rfl) (by kernel_rfl) (fun _ _ _ h => h) (Or.inl ⟨by rfl, ?_⟩) (by assumption) ?_
  rotate_left
  . (intro w' hSw; (try dsimp only at hSw); go_simp; try with_reducible rfl)
  (try simp only [Act.put, zqa, zqb, zqc, zqd, zqe, zqf])
  refine wpAnyH_take (i := 11) (v := ?_) rfl (by kernel_rfl) (by kernel_rfl) (by kernel_rfl) (fun _ _ _ h => h) (Or.inl ⟨by rfl, ?_⟩) (by assumption) ?_
  rotate_left
  . (intro w' hSw; (try dsimp only at hSw); go_simp; try with_reducible rfl)
  (try simp only [Act.put, zqa, zqb, zqc, zqd, zqe, zqf])
  have HU := Qq (H5.out.1.up.trans (U8.out.trans (show Upd NoF w8 w11 from (by (repeat (first | exact Upd.refl _ _ | assumption | refine Upd.alloc ?_ _ | refine Upd.drew ?_ | refine Upd.drewN ?_ _ | refine Upd.trans ?_ (by assumption)))))))
  clear u9 u10 u11 h9 h10
  refine wpAnyH_done (by kernel_rfl) ?_ _
  go_wp2_with fail
  go_ret
  exact ⟨rfl, HU.out⟩
  -- T]
 .
  have q1 : decide (D = 1) = false := decide_eq_false (by rw [<- HDD.out]; exact hg1)
  rw [q1]
  have HU := Qq H5.out.1.up
  clear hg1 q1 HA4
  go_wp2_with fail
  go_ret
  exact ⟨rfl, HU.out⟩
end Go.Proofs.YthkklkjldpcbkaaGreatDoor
