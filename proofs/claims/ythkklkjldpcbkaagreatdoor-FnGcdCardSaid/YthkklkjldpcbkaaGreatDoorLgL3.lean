/- For the claim of laws.FnGcd: LawGcd. -/
import Derived.Test.YthkklkjldpcbkaaGreatDoorLgL2
import Derived.Test.YthkklkjldpcbkaaGreatDoorLgS1
set_option linter.unusedVariables false
set_option linter.unusedSimpArgs false
open List renaming getElem_toArray → zqa, getElem_cons_zero → zqb, getElem_cons_succ → zqc, setIfInBounds_toArray → zqd, set_cons_zero → zqe, set_cons_succ → zqf
namespace Go.Proofs.YthkklkjldpcbkaaGreatDoor
open Go.RowKit
set_option linter.unusedSimpArgs false
structure BB (w wr : World) (g : Nat) (s1 s2 : Bool) (A1 A2 : Option Addr) (n1 n2 c1 c2 : Nat) : Prop where
 up : Upd NoF w wr
 b1 : BoxN wr g s1 A1 n1 c1
 b2 : BoxN wr (g + 1) s2 A2 n2 c2
theorem BB.upd {w wr w' : World} {g : Nat} {s1 s2 : Bool} {A1 A2 : Option Addr} {n1 n2 c1 c2 : Nat} (h : BB w wr g s1 s2 A1 A2 n1 n2 c1 c2) (u : Upd NoF wr w') : BB w w' g s1 s2 A1 A2 n1 n2 c1 c2 := ⟨h.up.trans u, h.b1.upd u, h.b2.upd u⟩
structure BoxI (w : World) (g : Nat) (s : Bool) (A : Option Addr) (n c : Nat) : Prop where
 c0 : Zi 32 w g 0 (.bool s)
 c1 : Zi 32 w g 1 (.slice A n c)
theorem BoxI.upd {w w' : World} {g : Nat} {s : Bool} {A : Option Addr} {n c : Nat} (h : BoxI w g s A n c) (u : Upd NoF w w') : BoxI w' g s A n c := ⟨h.c0.upd u (fun h => h), h.c1.upd u (fun h => h)⟩
theorem BoxI.new (w : World) (s : Bool) (A : Option Addr) (n c : Nat) : BoxI (w.alloc (.cells #[.bool s, .slice A n c] 32)) w.heap.size s A n c :=
 ⟨⟨_, heap_alloc_new w _, by simp⟩, ⟨_, heap_alloc_new w _, by simp⟩⟩
theorem BoxI.put {w : World} {g : Nat} {s : Bool} {A : Option Addr} {n c : Nat} (h : BoxI w g s A n c) (s' : Bool) (A' : Option Addr) (n' c' : Nat) :
  BoxI ((w.setCell ⟨g, 0, none⟩ (.bool s')).setCell ⟨g, 1, none⟩ (.slice A' n' c')) g s' A' n' c' :=
 ⟨(h.c0.set (.bool s')).far (b' := g) (i' := 1) (.slice A' n' c') (by omega), (h.c1.far (b' := g) (i' := 0) (.bool s') (by omega)).set (.slice A' n' c')⟩
theorem BoxI.far {w : World} {g k : Nat} {s : Bool} {A : Option Addr} {n c : Nat} (h : BoxI w g s A n c) (hk : k ≠ g) (x y : Value) :
  BoxI ((w.setCell ⟨k, 0, none⟩ x).setCell ⟨k, 1, none⟩ y) g s A n c :=
 ⟨(h.c0.far (b' := k) (i' := 0) x (by omega)).far (b' := k) (i' := 1) y (by omega), (h.c1.far (b' := k) (i' := 0) x (by omega)).far (b' := k) (i' := 1) y (by omega)⟩
theorem SpI.store {w : World} {g : Nat} {s : Bool} {A : Option Addr} {n c : Nat} {v x y : Value} {V : Int} (h : SpI w v V) (b : BoxI w g s A n c) : SpI ((w.setCell ⟨g, 0, none⟩ x).setCell ⟨g, 1, none⟩ y) v V := by
 obtain ⟨A', c', h1, h2, h3⟩ := h
 exact ⟨A', c', h1, h2, C_set (C_set h3 b.c0.cell (fun _ h => by cases h) x) (b.c1.far (b' := g) (i' := 0) x (by omega)).cell (fun _ h => by cases h) y⟩
theorem istores {w wt : World} {g1 g2 : Nat} {A B : Int} {sa sb : Bool} {Aa Ab : Option Addr} {ma mb ca cb : Nat} (hu : Upd NoF w wt) (l1 : w.heap.size <= g1) (l2 : w.heap.size <= g2) (b1 : BoxI wt g1 false none 0 0) (b2 : BoxI wt g2 false none 0 0) (h12 : g1 ≠ g2)
  (na : SpI wt (.agg #[.bool sa, .slice Aa ma ca]) A) (nb : SpI wt (.agg #[.bool sb, .slice Ab mb cb]) B) :
  ∃ w', w' = (((wt.setCell ⟨g1, 0, none⟩ (.bool sa)).setCell ⟨g1, 1, none⟩ (.slice Aa ma ca)).setCell ⟨g2, 0, none⟩ (.bool sb)).setCell ⟨g2, 1, none⟩ (.slice Ab mb cb) /\ Upd NoF w w' /\ BoxI w' g1 sa Aa ma ca /\ BoxI w' g2 sb Ab mb cb /\ SpI w' (.agg #[.bool sa, .slice Aa ma ca]) A /\ SpI w' (.agg #[.bool sb, .slice Ab mb cb]) B := by
 have b2' := b2.far h12 (.bool sa) (.slice Aa ma ca)
 refine ⟨_, rfl, ?_, (b1.put sa Aa ma ca).far (Ne.symm h12) _ _, b2'.put sb Ab mb cb, (na.store b1).store b2', (nb.store b1).store b2'⟩
 exact (((hu.setCell (fun h => by omega) _).setCell (fun h => by omega) _).setCell (fun h => by omega) _).setCell (fun h => by omega) _
theorem istore1 {w wt : World} {g1 : Nat} {A : Int} {sa : Bool} {Aa : Option Addr} {ma ca : Nat} (hu : Upd NoF w wt) (l1 : w.heap.size <= g1) (b1 : BoxI wt g1 false none 0 0) (na : SpI wt (.agg #[.bool sa, .slice Aa ma ca]) A) :
  ∃ w', w' = (wt.setCell ⟨g1, 0, none⟩ (.bool sa)).setCell ⟨g1, 1, none⟩ (.slice Aa ma ca) /\ Upd NoF w w' /\ BoxI w' g1 sa Aa ma ca /\ SpI w' (.agg #[.bool sa, .slice Aa ma ca]) A :=
 ⟨_, rfl, (hu.setCell (fun h => by omega) _).setCell (fun h => by omega) _, b1.put sa Aa ma ca, na.store b1⟩
theorem SpI.nat {w : World} {s : Bool} {v : Value} {V : Int} (h : SpI w (.agg #[.bool s, v]) V) : s = decide (V < 0) /\ SpN w v V.natAbs := by
 obtain ⟨A, c, e, h1, h2⟩ := h
 simp only [Value.agg.injEq, Array.mk.injEq, List.cons.injEq, Value.bool.injEq, and_true] at e
 exact ⟨e.1, A, c, e.2, h1, h2⟩
theorem SpN.len {w : World} {A : Option Addr} {m c N : Nat} (h : SpN w (.slice A m c) N) : m = (ds N).length := by
 obtain ⟨_, _, e, _⟩ := h
 injection e
theorem sign_spI {w : World} {sb : Bool} {v : Value} {B : Int} (h : sb = decide (B < 0)) (hB : B ≠ 0) (hv : SpN w v 1) : SpI w (.agg #[.bool sb, v]) B.sign := by
 subst h
 rcases Int.lt_trichotomy B 0 with h | h | h
 .
  rw [decide_eq_true h, Int.sign_eq_neg_one_of_neg h]
  exact hv.neg (by omega)
 . exact absurd h hB
 .
  rw [decide_eq_false (by omega), Int.sign_eq_one_of_pos h]
  exact hv.int
set_option maxRecDepth 1000000 in
set_option maxHeartbeats 16000000 in
theorem FnGcd_any (v1 v2 : Value) (n1 n2 : Nat) (A B : Int) (w : World) (hA : NumR w v1 n1 A) (hB : NumR w v2 n2 B) (hK : Thr w 40) (hD : DThr w 40) :
  Calls Tryz.prog 3 #[v1, v2] w fun e w' => e = .returned (.bool true) /\ Upd NoF w w' := by
 have HZ1 := Qq (fun w' (u : Upd NoF w w') => zz_sp v1 n1 A w' (hA.upd u))
 have HZ2 := Qq (fun w' (u : Upd NoF w w') => zz_sp v2 n2 B w' (hB.upd u))
 have HG1 := Qq (fun w' (u : Upd NoF w w') => big_sp v1 n1 A 20 w' (hA.upd u))
 have HG2 := Qq (fun w' (u : Upd NoF w w') => big_sp v2 n2 B 20 w' (hB.upd u))
 have HN := Qq (fun w' (u : Upd NoF w w') => Qj (hA.upd u) (Qj (hB.upd u) (Qj (hK.upd u (fun _ h => h)) (hD.upd u (fun _ h => h)))))
 have HL := Qq (Qj hA.len hB.len)
 obtain ⟨s1, A1, k1, xs1, rfl, hA2⟩ := id hA
 obtain ⟨s2, A2, k2, xs2, rfl, hB2⟩ := id hB
 clear hA hB hA2 hB2 hK hD
 have hfd : ∀ (b : Bool) (x : Value) (w : World), (Instr.field 32 (.agg #[.bool b, x]) 1).run Tryz.prog w = .ok x w := field_nat
 go_enter Tryz.func3, Tryz.ntmps3
 go_wp2_with fail
 have hm := B2.made w s1 s2 A1 A2 n1 n2 k1 k2
 obtain ⟨g, hg⟩ : ∃ g, w.heap.size = g := ⟨_, rfl⟩
 obtain ⟨w1, hw1⟩ : ∃ w1, ((w.alloc (.cells #[.bool s1, .slice A1 n1 k1] 24)).alloc (.cells #[.bool s2, .slice A2 n2 k2] 24)) = w1 := ⟨_, rfl⟩
 rw [hg, hw1] at hm
 rw [hg, hw1]
 have H0 := Qq (show BB w w1 g s1 s2 A1 A2 n1 n2 k1 k2 from ⟨hm.1, hm.2.1, hm.2.2⟩)
 clear hm hg hw1
 refine (HZ1.out w1 H0.out.up).mono ?_
 rintro e wqa1 ⟨rfl, uqa1⟩
 by_cases hz : 2147483647 < n1
 .
  as_aux_lemma =>
  have q1 : decide (n1 <= 2147483647) = false := decide_eq_false (by omega)
  rw [q1]
  have HU := Qq (H0.out.up.trans uqa1)
  clear uqa1
  go_wp2_with fail
  go_ret
  exact ⟨rfl, HU.out⟩
 have q1 : decide (n1 <= 2147483647) = true := decide_eq_true (by omega)
 rw [q1]
 have Ha1 := Qq (H0.out.upd uqa1)
 have c0 := Ha1.out.b1.c0.cell
 have c1 := Ha1.out.b1.c1.cell
 have c2 := Ha1.out.b2.c0.cell
 have c3 := Ha1.out.b2.c1.cell
 clear uqa1 q1 hz
 go_wp2_with fail
 refine (HZ2.out wqa1 Ha1.out.up).mono ?_
 rintro e wqa2 ⟨rfl, uqa2⟩
 by_cases hz : 2147483647 < n2
 .
  as_aux_lemma =>
  have q1 : decide (n2 <= 2147483647) = false := decide_eq_false (by omega)
  rw [q1]
  have HU := Qq (Ha1.out.up.trans uqa2)
  clear uqa2
  go_wp2_with fail
  go_ret
  exact ⟨rfl, HU.out⟩
 have q1 : decide (n2 <= 2147483647) = true := decide_eq_true (by omega)
 rw [q1]
 have Ha2 := Qq (Ha1.out.upd uqa2)
 have c0 := Ha2.out.b1.c0.cell
 have c1 := Ha2.out.b1.c1.cell
 have c2 := Ha2.out.b2.c0.cell
 have c3 := Ha2.out.b2.c1.cell
 clear uqa2 q1 hz
 go_wp2_with fail
 refine (HG1.out wqa2 Ha2.out.up).mono ?_
 rintro e wqb1 ⟨rfl, uqb1⟩
 by_cases hz : 20 < n1
 .
  as_aux_lemma =>
  have q1 : decide (20 < n1) = true := decide_eq_true hz
  rw [q1]
  have HU := Qq (Ha2.out.up.trans uqb1)
  clear uqb1
  go_wp2_with fail
  go_ret
  exact ⟨rfl, HU.out⟩
 have q1 : decide (20 < n1) = false := decide_eq_false hz
 rw [q1]
 have Hb1 := Qq (Ha2.out.upd uqb1)
 have hn1 : n1 <= 20 := by omega
 have c0 := Hb1.out.b1.c0.cell
 have c1 := Hb1.out.b1.c1.cell
 have c2 := Hb1.out.b2.c0.cell
 have c3 := Hb1.out.b2.c1.cell
 clear uqb1 q1 hz
 go_wp2_with fail
 refine (HG2.out wqb1 Hb1.out.up).mono ?_
 rintro e wqb2 ⟨rfl, uqb2⟩
 by_cases hz : 20 < n2
 .
  as_aux_lemma =>
  have q1 : decide (20 < n2) = true := decide_eq_true hz
  rw [q1]
  have HU := Qq (Hb1.out.up.trans uqb2)
  clear uqb2
  go_wp2_with fail
  go_ret
  exact ⟨rfl, HU.out⟩
 have q1 : decide (20 < n2) = false := decide_eq_false hz
 rw [q1]
 have Hb2 := Qq (Hb1.out.upd uqb2)
 have hn2 : n2 <= 20 := by omega
 have c0 := Hb2.out.b1.c0.cell
 have c1 := Hb2.out.b1.c1.cell
 have c2 := Hb2.out.b2.c0.cell
 have c3 := Hb2.out.b2.c1.cell
 clear uqb2 q1 hz
 go_wp2_with fail
 have HLL := Qq (Qj hn1 hn2)
 have HGC := Qq (fun (w' : World) (u : Upd NoF w w') => implGcd_any 40 40 _ _ n1 n2 A B w' (HN.out w' u).1 (HN.out w' u).2.1 (by have := HLL.out; omega) (by have := HLL.out; omega) (HN.out w' u).2.2.2 (KThr.small (HN.out w' u).2.2.1 (by have := HLL.out; omega)) (fun X Y h0 h1 h2 => div40 X Y h0 (by have := HLL.out; omega) (by omega)))
 clear hn1 hn2
 refine (HGC.out wqb2 Hb2.out.up).mono ?_
 rintro e wg1 ⟨vz, vx, vy, X, Y, rfl, hR, nz, nx, ny, ug⟩
 obtain ⟨G, hG⟩ : ∃ G : Nat, Nat.gcd A.natAbs B.natAbs = G := ⟨_, rfl⟩
 rw [hG] at nz hR
 have HGE := Qq (Qj hG hR)
 obtain ⟨Az, cz, rfl, _, _⟩ := id nz
 obtain ⟨Ax, cx, rfl, _, _⟩ := id nx
 obtain ⟨Ay, cy, rfl, _, _⟩ := id ny
 rw [Int.natAbs_natCast] at nz ⊢
 obtain ⟨sz, hsz⟩ : ∃ s, decide ((G : Int) < 0) = s := ⟨_, rfl⟩
 obtain ⟨sx, hsx⟩ : ∃ s, decide (X < 0) = s := ⟨_, rfl⟩
 obtain ⟨sy, hsy⟩ : ∃ s, decide (Y < 0) = s := ⟨_, rfl⟩
 obtain ⟨mz, hmz⟩ : ∃ m, (digs G).length = m := ⟨_, rfl⟩
 obtain ⟨mx, hmx⟩ : ∃ m, (digs X.natAbs).length = m := ⟨_, rfl⟩
 obtain ⟨my, hmy⟩ : ∃ m, (digs Y.natAbs).length = m := ⟨_, rfl⟩
 rw [hsz, hmz] at nz ⊢
 rw [hsx, hmx] at nx
 rw [hsy, hmy] at ny
 rw [hsx, hmx, hsy, hmy]
 have hb2 := B3.made wg1 sz sx sy Az Ax Ay mz mx my cz cx cy
 have H1 := Qq (Qj (Hb2.out.upd ug) (Qj nz (Qj nx ny)))
 clear hG hR nz nx ny ug hsz hsx hsy hmz hmx hmy
 go_wp2_with fail
 obtain ⟨gz, hgz⟩ : ∃ g, wg1.heap.size = g := ⟨_, rfl⟩
 obtain ⟨w2, hw2⟩ : ∃ w2, (((wg1.alloc (.cells #[.bool sz, .slice Az mz cz] 24)).alloc (.cells #[.bool sx, .slice Ax mx cx] 24)).alloc (.cells #[.bool sy, .slice Ay my cy] 24)) = w2 := ⟨_, rfl⟩
 rw [hgz, hw2] at hb2
 rw [hgz, hw2]
 have H2 := Qq (Qj (H1.out.1.upd hb2.up) (Qj hb2 (Qj (H1.out.2.1.upd hb2.up) (Qj (H1.out.2.2.1.upd hb2.up) (H1.out.2.2.2.upd hb2.up)))))
 clear hb2 hgz hw2 H1
 have HI1 := Qq (fun (w' : World) (u : Upd NoF w2 w') => in_sp _ n1 A w' (HN.out w' (H2.out.1.up.trans u)).1 (by have := HLL.out; omega))
 have HI2 := Qq (fun (w' : World) (u : Upd NoF w2 w') => in_sp _ n2 B w' (HN.out w' (H2.out.1.up.trans u)).2.1 (by have := HLL.out; omega))
 have HS := Qq (fun (w' : World) (u : Upd NoF w2 w') => (show w'.cell? ⟨g, 0, none⟩ = some (.bool s1) /\ w'.cell? ⟨g, 1, none⟩ = some (.slice A1 n1 k1) /\ w'.cell? ⟨g + 1, 0, none⟩ = some (.bool s2) /\ w'.cell? ⟨g + 1, 1, none⟩ = some (.slice A2 n2 k2) from
  ⟨(H2.out.1.upd u).b1.c0.cell, (H2.out.1.upd u).b1.c1.cell, (H2.out.1.upd u).b2.c0.cell, (H2.out.1.upd u).b2.c1.cell⟩))
 have H2b := Qq H2.out.1
 clear c0 c1 c2 c3
 have c0 := H2b.out.b1.c0.cell
 have c1 := H2b.out.b1.c1.cell
 have c2 := H2b.out.b2.c0.cell
 have c3 := H2b.out.b2.c1.cell
 clear H2b
 go_upto_region 6 with fail
 go_cut [8, 9] (fun p q wx => ∃ (ga gb : Nat) (sa sb : Bool) (Aa Ab : Option Addr) (ma mb ca cb : Nat), p = .pointer (some ⟨ga, 0, none⟩) /\ q = .pointer (some ⟨gb, 0, none⟩) /\ Hid (Upd NoF w2 wx /\ BoxI wx ga sa Aa ma ca /\ BoxI wx gb sb Ab mb cb /\ SpI wx (.agg #[.bool sa, .slice Aa ma ca]) A /\ SpI wx (.agg #[.bool sb, .slice Ab mb cb]) B))
 case first =>
  -- [R
  refine wp_region_held_drew (S := (fun w' => w'.cell? ⟨g, 0, none⟩ = some (.bool s1) /\ w'.cell? ⟨g, 1, none⟩ = some (.slice A1 n1 k1) /\ w'.cell? ⟨g + 1, 0, none⟩ = some (.bool s2) /\ w'.cell? ⟨g + 1, 1, none⟩ = some (.slice A2 n2 k2))) (by kernel_rfl) (by exact HS.out _ (by (repeat (first | exact Upd.refl _ _ | assumption | refine Upd.alloc ?_ _ | refine Upd.drew ?_ | refine Upd.drewN ?_ _ | refine Upd.trans ?_ (by assumption))))) (fun hHeld => ?_)
  refine wpAnyH_take (i := 0) (v := ?_) rfl (by kernel_rfl) (by kernel_rfl) (by kernel_rfl) (fun _ _ _ h => h) (Or.inl ⟨by rfl, ?_⟩) (by assumption) ?_
  rotate_left
  . (intro w' hSw; (try dsimp only at hSw); go_simp; try with_reducible rfl)
  (try simp only [Act.put, zqa, zqb, zqc, zqd, zqe, zqf])
  refine wpAnyH_take (i := 2) (v := ?_) rfl (by kernel_rfl) (by kernel_rfl) (by kernel_rfl) (fun _ _ _ h => h) (Or.inl ⟨by rfl, ?_⟩) (by assumption) ?_
  rotate_left
  . (intro w' hSw; (try dsimp only at hSw); go_simp; try with_reducible rfl)
  (try simp only [Act.put, zqa, zqb, zqc, zqd, zqe, zqf])
  refine wpAnyH_abs (fun F a0 hF ha0 => ?_)
  clear c0 c1 c2 c3
  have N2_45 : ∀ (ga : Nat) (gb : Nat) (va : Value) (vb : Value) (w' : World) (hu : Upd NoF w2 w') (b4 : BoxI w' ga false none 0 0) (l4 : w2.heap.size <= ga) (b5 : BoxI w' gb false none 0 0) (l5 : w2.heap.size <= gb) (d4_5 : ga ≠ gb) (na : SpI w' va A) (nb : SpI w' vb B), F 2 #[true, true, true, true, true, true, false, false] (Act.put (Act.put (Act.put (Act.put a0 (some 8) (.pointer (some ⟨ga, 0, none⟩))) (some 9) (.pointer (some ⟨gb, 0, none⟩))) (some 34) (va)) (some 36) (vb)) w' := by
   as_aux_lemma =>
   intro ga gb va vb w' hu b4 l4 b5 l5 d4_5 na nb
   subst ha0
   rw [<- hF]
   (try simp only [Act.put, zqa, zqb, zqc, zqd, zqe, zqf])
   obtain ⟨Aa, ca, rfl, _, _⟩ := id na
   obtain ⟨Ab, cb, rfl, _, _⟩ := id nb
   obtain ⟨sa, hsa⟩ : ∃ s, decide (A < 0) = s := ⟨_, rfl⟩
   rw [hsa] at na ⊢
   obtain ⟨sb, hsb⟩ : ∃ s, decide (B < 0) = s := ⟨_, rfl⟩
   rw [hsb] at nb ⊢
   obtain ⟨ma, hma⟩ : ∃ s, (ds A.natAbs).length = s := ⟨_, rfl⟩
   rw [hma] at na ⊢
   obtain ⟨mb, hmb⟩ : ∃ s, (ds B.natAbs).length = s := ⟨_, rfl⟩
   rw [hmb] at nb ⊢
   have e1 := b4.c0.cell
   have e2 := b4.c1.cell
   have e3 := b4.c0.frozen
   have e4 := b4.c1.frozen
   have x1 := b5.c0.cell
   have x2 := b5.c1.cell
   have x3 := b5.c0.frozen
   have x4 := b5.c1.frozen
   have hne1 := Ne.symm d4_5
   obtain ⟨wf, hwf, f1⟩ := istores (w := w2) hu l4 l5 b4 b5 d4_5 na nb
   have HWF := Qq (Qj hwf f1)
   have HB3 := Qq (Qj hu (Qj l4 l5))
   clear hwf f1 na nb b4 b5 hu hsa hsb hma hmb
   refine wpAnyH_ready (rs := [6]) (by kernel_rfl) (by simp) ?_
   refine AllReadyH.cons rfl (fun K hK => ?_) AllReadyH.nil
   go_simp
   refine hK.out _ _ ?_ (fun hHeld => ?_)
   case' refine_1 => (try dsimp only); exact HS.out _ ((HB3.out.1.setCell (fun h => by have := HB3.out.2.1; omega) _).setCell (fun h => by have := HB3.out.2.1; omega) _)
   clear hK K
   (try simp only [Act.put, zqa, zqb, zqc, zqd, zqe, zqf])
   refine wpAnyH_ready (rs := [7]) (by kernel_rfl) (by simp) ?_
   refine AllReadyH.cons rfl (fun K hK => ?_) AllReadyH.nil
   go_simp
   refine hK.out _ _ ?_ (fun hHeld => ?_)
   case' refine_1 => (try dsimp only); exact HS.out _ ((((HB3.out.1.setCell (fun h => by have := HB3.out.2.1; omega) _).setCell (fun h => by have := HB3.out.2.1; omega) _).setCell (fun h => by have := HB3.out.2.2; omega) _).setCell (fun h => by have := HB3.out.2.2; omega) _)
   clear hK K
   (try simp only [Act.put, zqa, zqb, zqc, zqd, zqe, zqf])
   refine wpAnyH_done (by kernel_rfl) ?_ _
   rw [<- HWF.out.1]
   go_wp2_with fail
   go_meet
   case rel => exact ⟨_, _, sa, sb, Aa, Ab, ma, mb, ca, cb, rfl, rfl, HWF.out.2⟩
  have N2_4 : ∀ (ga : Nat) (va : Value) (vb : Value) (w' : World) (hu : Upd NoF w2 w') (b4 : BoxI w' ga false none 0 0) (l4 : w2.heap.size <= ga) (na : SpI w' va A) (nb : SpI w' vb B), F 3 #[true, true, true, true, true, false, false, false] (Act.put (Act.put (Act.put a0 (some 8) (.pointer (some ⟨ga, 0, none⟩))) (some 34) (va)) (some 36) (vb)) w' := by
   as_aux_lemma =>
   intro ga va vb w' hu b4 l4 na nb
   subst ha0
   rw [<- hF]
   (try simp only [Act.put, zqa, zqb, zqc, zqd, zqe, zqf])
   refine wpAnyH_ready (rs := [5]) (by kernel_rfl) (by simp) ?_
   refine AllReadyH.cons rfl (fun K hK => ?_) AllReadyH.nil
   go_simp
   refine hK.out _ _ ?_ (fun hHeld => ?_)
   case' refine_1 => (try dsimp only); exact HS.out _ (hu.alloc _)
   rw [hF]
   have hn := N2_45 ga w'.heap.size va vb (w'.alloc (.cells #[.bool false, .slice none 0 0] 32)) (hu.alloc _) (b4.upd ((Upd.refl NoF w').alloc _)) l4 (BoxI.new w' false none 0 0) hu.size (by have := b4.c0.lt; omega) (na.upd ((Upd.refl NoF w').alloc _)) (nb.upd ((Upd.refl NoF w').alloc _))
   (try simp only [Act.put, zqa, zqb, zqc, zqd, zqe, zqf] at hn ⊢)
   exact hn
  have N2_5 : ∀ (gb : Nat) (va : Value) (vb : Value) (w' : World) (hu : Upd NoF w2 w') (b5 : BoxI w' gb false none 0 0) (l5 : w2.heap.size <= gb) (na : SpI w' va A) (nb : SpI w' vb B), F 3 #[true, true, true, true, false, true, false, false] (Act.put (Act.put (Act.put a0 (some 9) (.pointer (some ⟨gb, 0, none⟩))) (some 34) (va)) (some 36) (vb)) w' := by
   as_aux_lemma =>
   intro gb va vb w' hu b5 l5 na nb
   subst ha0
   rw [<- hF]
   (try simp only [Act.put, zqa, zqb, zqc, zqd, zqe, zqf])
   refine wpAnyH_ready (rs := [4]) (by kernel_rfl) (by simp) ?_
   refine AllReadyH.cons rfl (fun K hK => ?_) AllReadyH.nil
   go_simp
   refine hK.out _ _ ?_ (fun hHeld => ?_)
   case' refine_1 => (try dsimp only); exact HS.out _ (hu.alloc _)
   rw [hF]
   have hn := N2_45 w'.heap.size gb va vb (w'.alloc (.cells #[.bool false, .slice none 0 0] 32)) (hu.alloc _) (BoxI.new w' false none 0 0) hu.size (b5.upd ((Upd.refl NoF w').alloc _)) l5 (by have := b5.c0.lt; omega) (na.upd ((Upd.refl NoF w').alloc _)) (nb.upd ((Upd.refl NoF w').alloc _))
   (try simp only [Act.put, zqa, zqb, zqc, zqd, zqe, zqf] at hn ⊢)
   exact hn
  have N2_0 : ∀ (va : Value) (vb : Value) (w' : World) (hu : Upd NoF w2 w') (na : SpI w' va A) (nb : SpI w' vb B), F 4 #[true, true, true, true, false, false, false, false] (Act.put (Act.put a0 (some 34) (va)) (some 36) (vb)) w' := by
   as_aux_lemma =>
   intro va vb w' hu na nb
   subst ha0
   rw [<- hF]
   (try simp only [Act.put, zqa, zqb, zqc, zqd, zqe, zqf])
   refine wpAnyH_ready (rs := [4, 5]) (by kernel_rfl) (by simp) ?_
   refine AllReadyH.cons rfl (fun K hK => ?_) ?_
   .
    go_simp
    refine hK.out _ _ ?_ (fun hHeld => ?_)
    case' refine_1 => (try dsimp only); exact HS.out _ (hu.alloc _)
    rw [hF]
    have hn := N2_4 w'.heap.size va vb (w'.alloc (.cells #[.bool false, .slice none 0 0] 32)) (hu.alloc _) (BoxI.new w' false none 0 0) hu.size (na.upd ((Upd.refl NoF w').alloc _)) (nb.upd ((Upd.refl NoF w').alloc _))
    (try simp only [Act.put, zqa, zqb, zqc, zqd, zqe, zqf] at hn ⊢)
    exact hn
   refine AllReadyH.cons rfl (fun K hK => ?_) AllReadyH.nil
   go_simp
   refine hK.out _ _ ?_ (fun hHeld => ?_)
   case' refine_1 => (try dsimp only); exact HS.out _ (hu.alloc _)
   rw [hF]
   have hn := N2_5 w'.heap.size va vb (w'.alloc (.cells #[.bool false, .slice none 0 0] 32)) (hu.alloc _) (BoxI.new w' false none 0 0) hu.size (na.upd ((Upd.refl NoF w').alloc _)) (nb.upd ((Upd.refl NoF w').alloc _))
   (try simp only [Act.put, zqa, zqb, zqc, zqd, zqe, zqf] at hn ⊢)
   exact hn
  have N1_45 : ∀ (ga : Nat) (gb : Nat) (va : Value) (w' : World) (hu : Upd NoF w2 w') (b4 : BoxI w' ga false none 0 0) (l4 : w2.heap.size <= ga) (b5 : BoxI w' gb false none 0 0) (l5 : w2.heap.size <= gb) (d4_5 : ga ≠ gb) (na : SpI w' va A), F 3 #[true, true, true, false, true, true, false, false] (Act.put (Act.put (Act.put a0 (some 8) (.pointer (some ⟨ga, 0, none⟩))) (some 9) (.pointer (some ⟨gb, 0, none⟩))) (some 34) (va)) w' := by
   as_aux_lemma =>
   intro ga gb va w' hu b4 l4 b5 l5 d4_5 na
   subst ha0
   rw [<- hF]
   (try simp only [Act.put, zqa, zqb, zqc, zqd, zqe, zqf])
   refine wpAnyH_ready (rs := [3]) (by kernel_rfl) (by simp) ?_
   refine AllReadyH.cons rfl (fun K hK => ?_) AllReadyH.nil
   go_simp
   refine (HI2.out w' hu).mono ?_
   rintro e wc ⟨vb, rfl, nb, uc⟩
   refine hK.out _ _ ?_ (fun hHeld => ?_)
   case' refine_1 => (try dsimp only); exact HS.out _ (hu.trans uc)
   rw [hF]
   have hn := N2_45 ga gb va vb wc (hu.trans uc) (b4.upd uc) l4 (b5.upd uc) l5 d4_5 (na.upd uc) nb
   (try simp only [Act.put, zqa, zqb, zqc, zqd, zqe, zqf] at hn ⊢)
   exact hn
  have N1_4 : ∀ (ga : Nat) (va : Value) (w' : World) (hu : Upd NoF w2 w') (b4 : BoxI w' ga false none 0 0) (l4 : w2.heap.size <= ga) (na : SpI w' va A), F 4 #[true, true, true, false, true, false, false, false] (Act.put (Act.put a0 (some 8) (.pointer (some ⟨ga, 0, none⟩))) (some 34) (va)) w' := by
   as_aux_lemma =>
   intro ga va w' hu b4 l4 na
   subst ha0
   rw [<- hF]
   (try simp only [Act.put, zqa, zqb, zqc, zqd, zqe, zqf])
   refine wpAnyH_ready (rs := [3, 5]) (by kernel_rfl) (by simp) ?_
   refine AllReadyH.cons rfl (fun K hK => ?_) ?_
   .
    go_simp
    refine (HI2.out w' hu).mono ?_
    rintro e wc ⟨vb, rfl, nb, uc⟩
    refine hK.out _ _ ?_ (fun hHeld => ?_)
    case' refine_1 => (try dsimp only); exact HS.out _ (hu.trans uc)
    rw [hF]
    have hn := N2_4 ga va vb wc (hu.trans uc) (b4.upd uc) l4 (na.upd uc) nb
    (try simp only [Act.put, zqa, zqb, zqc, zqd, zqe, zqf] at hn ⊢)
    exact hn
   refine AllReadyH.cons rfl (fun K hK => ?_) AllReadyH.nil
   go_simp
   refine hK.out _ _ ?_ (fun hHeld => ?_)
   case' refine_1 => (try dsimp only); exact HS.out _ (hu.alloc _)
   rw [hF]
   have hn := N1_45 ga w'.heap.size va (w'.alloc (.cells #[.bool false, .slice none 0 0] 32)) (hu.alloc _) (b4.upd ((Upd.refl NoF w').alloc _)) l4 (BoxI.new w' false none 0 0) hu.size (by have := b4.c0.lt; omega) (na.upd ((Upd.refl NoF w').alloc _))
   (try simp only [Act.put, zqa, zqb, zqc, zqd, zqe, zqf] at hn ⊢)
   exact hn
  have N1_5 : ∀ (gb : Nat) (va : Value) (w' : World) (hu : Upd NoF w2 w') (b5 : BoxI w' gb false none 0 0) (l5 : w2.heap.size <= gb) (na : SpI w' va A), F 4 #[true, true, true, false, false, true, false, false] (Act.put (Act.put a0 (some 9) (.pointer (some ⟨gb, 0, none⟩))) (some 34) (va)) w' := by
   as_aux_lemma =>
   intro gb va w' hu b5 l5 na
   subst ha0
   rw [<- hF]
   (try simp only [Act.put, zqa, zqb, zqc, zqd, zqe, zqf])
   refine wpAnyH_ready (rs := [3, 4]) (by kernel_rfl) (by simp) ?_
   refine AllReadyH.cons rfl (fun K hK => ?_) ?_
   .
    go_simp
    refine (HI2.out w' hu).mono ?_
    rintro e wc ⟨vb, rfl, nb, uc⟩
    refine hK.out _ _ ?_ (fun hHeld => ?_)
    case' refine_1 => (try dsimp only); exact HS.out _ (hu.trans uc)
    rw [hF]
    have hn := N2_5 gb va vb wc (hu.trans uc) (b5.upd uc) l5 (na.upd uc) nb
    (try simp only [Act.put, zqa, zqb, zqc, zqd, zqe, zqf] at hn ⊢)
    exact hn
   refine AllReadyH.cons rfl (fun K hK => ?_) AllReadyH.nil
   go_simp
   refine hK.out _ _ ?_ (fun hHeld => ?_)
   case' refine_1 => (try dsimp only); exact HS.out _ (hu.alloc _)
   rw [hF]
   have hn := N1_45 w'.heap.size gb va (w'.alloc (.cells #[.bool false, .slice none 0 0] 32)) (hu.alloc _) (BoxI.new w' false none 0 0) hu.size (b5.upd ((Upd.refl NoF w').alloc _)) l5 (by have := b5.c0.lt; omega) (na.upd ((Upd.refl NoF w').alloc _))
   (try simp only [Act.put, zqa, zqb, zqc, zqd, zqe, zqf] at hn ⊢)
   exact hn
  have N1_0 : ∀ (va : Value) (w' : World) (hu : Upd NoF w2 w') (na : SpI w' va A), F 5 #[true, true, true, false, false, false, false, false] (Act.put a0 (some 34) (va)) w' := by
   as_aux_lemma =>
   intro va w' hu na
   subst ha0
   rw [<- hF]
   (try simp only [Act.put, zqa, zqb, zqc, zqd, zqe, zqf])
   refine wpAnyH_ready (rs := [3, 4, 5]) (by kernel_rfl) (by simp) ?_
   refine AllReadyH.cons rfl (fun K hK => ?_) ?_
   .
    go_simp
    refine (HI2.out w' hu).mono ?_
    rintro e wc ⟨vb, rfl, nb, uc⟩
    refine hK.out _ _ ?_ (fun hHeld => ?_)
    case' refine_1 => (try dsimp only); exact HS.out _ (hu.trans uc)
    rw [hF]
    have hn := N2_0 va vb wc (hu.trans uc) (na.upd uc) nb
    (try simp only [Act.put, zqa, zqb, zqc, zqd, zqe, zqf] at hn ⊢)
    exact hn
   refine AllReadyH.cons rfl (fun K hK => ?_) ?_
   .
    go_simp
    refine hK.out _ _ ?_ (fun hHeld => ?_)
    case' refine_1 => (try dsimp only); exact HS.out _ (hu.alloc _)
    rw [hF]
    have hn := N1_4 w'.heap.size va (w'.alloc (.cells #[.bool false, .slice none 0 0] 32)) (hu.alloc _) (BoxI.new w' false none 0 0) hu.size (na.upd ((Upd.refl NoF w').alloc _))
    (try simp only [Act.put, zqa, zqb, zqc, zqd, zqe, zqf] at hn ⊢)
    exact hn
   refine AllReadyH.cons rfl (fun K hK => ?_) AllReadyH.nil
   go_simp
   refine hK.out _ _ ?_ (fun hHeld => ?_)
   case' refine_1 => (try dsimp only); exact HS.out _ (hu.alloc _)
   rw [hF]
   have hn := N1_5 w'.heap.size va (w'.alloc (.cells #[.bool false, .slice none 0 0] 32)) (hu.alloc _) (BoxI.new w' false none 0 0) hu.size (na.upd ((Upd.refl NoF w').alloc _))
   (try simp only [Act.put, zqa, zqb, zqc, zqd, zqe, zqf] at hn ⊢)
   exact hn
  have N0_45 : ∀ (ga : Nat) (gb : Nat) (w' : World) (hu : Upd NoF w2 w') (b4 : BoxI w' ga false none 0 0) (l4 : w2.heap.size <= ga) (b5 : BoxI w' gb false none 0 0) (l5 : w2.heap.size <= gb) (d4_5 : ga ≠ gb), F 4 #[true, false, true, false, true, true, false, false] (Act.put (Act.put a0 (some 8) (.pointer (some ⟨ga, 0, none⟩))) (some 9) (.pointer (some ⟨gb, 0, none⟩))) w' := by
   as_aux_lemma =>
   intro ga gb w' hu b4 l4 b5 l5 d4_5
   subst ha0
   rw [<- hF]
   (try simp only [Act.put, zqa, zqb, zqc, zqd, zqe, zqf])
   refine wpAnyH_ready (rs := [1]) (by kernel_rfl) (by simp) ?_
   refine AllReadyH.cons rfl (fun K hK => ?_) AllReadyH.nil
   go_simp
   refine (HI1.out w' hu).mono ?_
   rintro e wc ⟨va, rfl, na, uc⟩
   refine hK.out _ _ ?_ (fun hHeld => ?_)
   case' refine_1 => (try dsimp only); exact HS.out _ (hu.trans uc)
   rw [hF]
   have hn := N1_45 ga gb va wc (hu.trans uc) (b4.upd uc) l4 (b5.upd uc) l5 d4_5 na
   (try simp only [Act.put, zqa, zqb, zqc, zqd, zqe, zqf] at hn ⊢)
   exact hn
  have N0_4 : ∀ (ga : Nat) (w' : World) (hu : Upd NoF w2 w') (b4 : BoxI w' ga false none 0 0) (l4 : w2.heap.size <= ga), F 5 #[true, false, true, false, true, false, false, false] (Act.put a0 (some 8) (.pointer (some ⟨ga, 0, none⟩))) w' := by
   as_aux_lemma =>
   intro ga w' hu b4 l4
   subst ha0
   rw [<- hF]
   (try simp only [Act.put, zqa, zqb, zqc, zqd, zqe, zqf])
   refine wpAnyH_ready (rs := [1, 5]) (by kernel_rfl) (by simp) ?_
   refine AllReadyH.cons rfl (fun K hK => ?_) ?_
   .
    go_simp
    refine (HI1.out w' hu).mono ?_
    rintro e wc ⟨va, rfl, na, uc⟩
    refine hK.out _ _ ?_ (fun hHeld => ?_)
    case' refine_1 => (try dsimp only); exact HS.out _ (hu.trans uc)
    rw [hF]
    have hn := N1_4 ga va wc (hu.trans uc) (b4.upd uc) l4 na
    (try simp only [Act.put, zqa, zqb, zqc, zqd, zqe, zqf] at hn ⊢)
    exact hn
   refine AllReadyH.cons rfl (fun K hK => ?_) AllReadyH.nil
   go_simp
   refine hK.out _ _ ?_ (fun hHeld => ?_)
   case' refine_1 => (try dsimp only); exact HS.out _ (hu.alloc _)
   rw [hF]
   have hn := N0_45 ga w'.heap.size (w'.alloc (.cells #[.bool false, .slice none 0 0] 32)) (hu.alloc _) (b4.upd ((Upd.refl NoF w').alloc _)) l4 (BoxI.new w' false none 0 0) hu.size (by have := b4.c0.lt; omega)
   (try simp only [Act.put, zqa, zqb, zqc, zqd, zqe, zqf] at hn ⊢)
   exact hn
  have N0_5 : ∀ (gb : Nat) (w' : World) (hu : Upd NoF w2 w') (b5 : BoxI w' gb false none 0 0) (l5 : w2.heap.size <= gb), F 5 #[true, false, true, false, false, true, false, false] (Act.put a0 (some 9) (.pointer (some ⟨gb, 0, none⟩))) w' := by
   as_aux_lemma =>
   intro gb w' hu b5 l5
   subst ha0
   rw [<- hF]
   (try simp only [Act.put, zqa, zqb, zqc, zqd, zqe, zqf])
   refine wpAnyH_ready (rs := [1, 4]) (by kernel_rfl) (by simp) ?_
   refine AllReadyH.cons rfl (fun K hK => ?_) ?_
   .
    go_simp
    refine (HI1.out w' hu).mono ?_
    rintro e wc ⟨va, rfl, na, uc⟩
    refine hK.out _ _ ?_ (fun hHeld => ?_)
    case' refine_1 => (try dsimp only); exact HS.out _ (hu.trans uc)
    rw [hF]
    have hn := N1_5 gb va wc (hu.trans uc) (b5.upd uc) l5 na
    (try simp only [Act.put, zqa, zqb, zqc, zqd, zqe, zqf] at hn ⊢)
    exact hn
   refine AllReadyH.cons rfl (fun K hK => ?_) AllReadyH.nil
   go_simp
   refine hK.out _ _ ?_ (fun hHeld => ?_)
   case' refine_1 => (try dsimp only); exact HS.out _ (hu.alloc _)
   rw [hF]
   have hn := N0_45 w'.heap.size gb (w'.alloc (.cells #[.bool false, .slice none 0 0] 32)) (hu.alloc _) (BoxI.new w' false none 0 0) hu.size (b5.upd ((Upd.refl NoF w').alloc _)) l5 (by have := b5.c0.lt; omega)
   (try simp only [Act.put, zqa, zqb, zqc, zqd, zqe, zqf] at hn ⊢)
   exact hn
  have N0_0 : ∀ (w' : World) (hu : Upd NoF w2 w'), F 6 #[true, false, true, false, false, false, false, false] a0 w' := by
   as_aux_lemma =>
   intro w' hu
   subst ha0
   rw [<- hF]
   (try simp only [Act.put, zqa, zqb, zqc, zqd, zqe, zqf])
   refine wpAnyH_ready (rs := [1, 4, 5]) (by kernel_rfl) (by simp) ?_
   refine AllReadyH.cons rfl (fun K hK => ?_) ?_
   .
    go_simp
    refine (HI1.out w' hu).mono ?_
    rintro e wc ⟨va, rfl, na, uc⟩
    refine hK.out _ _ ?_ (fun hHeld => ?_)
    case' refine_1 => (try dsimp only); exact HS.out _ (hu.trans uc)
    rw [hF]
    have hn := N1_0 va wc (hu.trans uc) na
    (try simp only [Act.put, zqa, zqb, zqc, zqd, zqe, zqf] at hn ⊢)
    exact hn
   refine AllReadyH.cons rfl (fun K hK => ?_) ?_
   .
    go_simp
    refine hK.out _ _ ?_ (fun hHeld => ?_)
    case' refine_1 => (try dsimp only); exact HS.out _ (hu.alloc _)
    rw [hF]
    have hn := N0_4 w'.heap.size (w'.alloc (.cells #[.bool false, .slice none 0 0] 32)) (hu.alloc _) (BoxI.new w' false none 0 0) hu.size
    (try simp only [Act.put, zqa, zqb, zqc, zqd, zqe, zqf] at hn ⊢)
    exact hn
   refine AllReadyH.cons rfl (fun K hK => ?_) AllReadyH.nil
   go_simp
   refine hK.out _ _ ?_ (fun hHeld => ?_)
   case' refine_1 => (try dsimp only); exact HS.out _ (hu.alloc _)
   rw [hF]
   have hn := N0_5 w'.heap.size (w'.alloc (.cells #[.bool false, .slice none 0 0] 32)) (hu.alloc _) (BoxI.new w' false none 0 0) hu.size
   (try simp only [Act.put, zqa, zqb, zqc, zqd, zqe, zqf] at hn ⊢)
   exact hn
  exact N0_0 _ (Upd.refl NoF w2).drew
  -- R]
 case rest =>
 obtain ⟨ga, gb, sa, sb, Aa, Ab, ma, mb, ca, cb, rfl, rfl, HW⟩ := hcut
 have hzA := HW.out.2.2.2.1.nat
 have hzB := HW.out.2.2.2.2.nat
 have lA : (ds A.natAbs).length <= 80 := by have := ds_len4 A.natAbs; have := HL.out; have := HLL.out; omega
 have lB : (ds B.natAbs).length <= 80 := by have := ds_len4 B.natAbs; have := HL.out; have := HLL.out; omega
 have hma := hzA.2.len
 have hmb := hzB.2.len
 have H3 := Qq (Qj (H2.out.1.upd HW.out.1) (Qj (H2.out.2.1.upd HW.out.1) (Qj (H2.out.2.2.1.upd HW.out.1) (Qj (H2.out.2.2.2.1.upd HW.out.1) (Qj (H2.out.2.2.2.2.upd HW.out.1) HW.out.2)))))
 have HAB := Qq (Qj hzA.1 (Qj hzB.1 (Qj hma (Qj hmb (Qj lA lB)))))
 have HGG := Qq (gcd_sp _ _ A.natAbs B.natAbs wc hzA.2 hzB.2 (by omega) (by omega))
 have a1 := HW.out.2.1.c1.cell
 have b1 := HW.out.2.2.1.c1.cell
 clear HW H2 HI1 HI2 HS c0 c1 c2 c3 hzA hzB hma hmb lA lB
 go_wp2_with fail
 refine HGG.out.mono ?_
 rintro e w4 ⟨vg, rfl, ng, u4⟩
 rw [HGE.out.1] at ng
 obtain ⟨Ag, cg, rfl, _, _⟩ := id ng
 obtain ⟨mg, hmg⟩ : ∃ m, (ds G).length = m := ⟨_, rfl⟩
 rw [hmg] at ng ⊢
 have H4 := Qq (Qj (H3.out.1.upd u4) (Qj (H3.out.2.1.upd u4) (Qj (H3.out.2.2.1.upd u4) (Qj (H3.out.2.2.2.1.upd u4) (Qj (H3.out.2.2.2.2.1.upd u4) (Qj (H3.out.2.2.2.2.2.1.upd u4) (Qj (H3.out.2.2.2.2.2.2.1.upd u4) (Qj (H3.out.2.2.2.2.2.2.2.1.upd u4) (Qj (H3.out.2.2.2.2.2.2.2.2.upd u4) ng)))))))))
 have hX : (digs X.natAbs).length <= 30 := by
  have h1 := HGE.out.2.bX
  have h2 := Zn h1
  have h3 : (digs (B.natAbs + 1)).length <= (digs B.natAbs).length + 1 := digs_succ_len B.natAbs
  have := HL.out; have := HLL.out; omega
 have hY : (digs Y.natAbs).length <= 30 := by
  have h1 := HGE.out.2.bY
  have h2 := Zn h1
  have h3 : (digs (A.natAbs + 1)).length <= (digs A.natAbs).length + 1 := digs_succ_len A.natAbs
  have := HL.out; have := HLL.out; omega
 have HXY := Qq (Qj hX (Qj hY (Qj (show (ds X.natAbs).length <= 120 by have := ds_len4 X.natAbs; omega) (show (ds Y.natAbs).length <= 120 by have := ds_len4 Y.natAbs; omega))))
 clear H3 HGG a1 b1 u4 ng hmg hX hY
 have HJ0 := Qq (fun (w' : World) (u : Upd NoF w4 w') => in_sp _ _ X w' ((H4.out.2.2.2.1.upd u).raw (by have := HXY.out; omega)) (by have := HXY.out; omega))
 have HJ1 := Qq (fun (w' : World) (u : Upd NoF w4 w') (va : Value) (na : SpI w' va X) => times_sp _ va A X w' (H4.out.2.2.2.2.2.2.2.1.upd u) na (by have := HXY.out; have := HAB.out; omega))
 have HJ2 := Qq (fun (w' : World) (u : Upd NoF w4 w') => in_sp _ _ Y w' ((H4.out.2.2.2.2.1.upd u).raw (by have := HXY.out; omega)) (by have := HXY.out; omega))
 have HJ3 := Qq (fun (w' : World) (u : Upd NoF w4 w') (vc : Value) (nc : SpI w' vc Y) => times_sp _ vc B Y w' (H4.out.2.2.2.2.2.2.2.2.1.upd u) nc (by have := HXY.out; have := HAB.out; omega))
 have HJ4 := Qq (fun (w' : World) (u : Upd NoF w4 w') (vb vd : Value) (nb : SpI w' vb (A * X)) (nd : SpI w' vd (B * Y)) => plusz_sp vb vd (A * X) (B * Y) w' nb nd
  (by rw [Int.natAbs_mul]; have := ds_mul_len A.natAbs X.natAbs; have := HXY.out; have := HAB.out; omega) (by rw [Int.natAbs_mul]; have := ds_mul_len B.natAbs Y.natAbs; have := HXY.out; have := HAB.out; omega))
 have HS := Qq (fun (w' : World) (u : Upd NoF w4 w') => (show w'.cell? ⟨ga, 0, none⟩ = some (.bool sa) /\ w'.cell? ⟨ga, 1, none⟩ = some (.slice Aa ma ca) /\ w'.cell? ⟨gb, 0, none⟩ = some (.bool sb) /\ w'.cell? ⟨gb, 1, none⟩ = some (.slice Ab mb cb) /\ w'.cell? ⟨gz + 1, 0, none⟩ = some (.bool sx) /\ w'.cell? ⟨gz + 1, 1, none⟩ = some (.slice Ax mx cx) /\ w'.cell? ⟨gz + 1 + 1, 0, none⟩ = some (.bool sy) /\ w'.cell? ⟨gz + 1 + 1, 1, none⟩ = some (.slice Ay my cy) from
  ⟨(H4.out.2.2.2.2.2.1.upd u).c0.cell, (H4.out.2.2.2.2.2.1.upd u).c1.cell, (H4.out.2.2.2.2.2.2.1.upd u).c0.cell, (H4.out.2.2.2.2.2.2.1.upd u).c1.cell, (H4.out.2.1.upd u).b2.c0.cell, (H4.out.2.1.upd u).b2.c1.cell, (H4.out.2.1.upd u).b3.c0.cell, (H4.out.2.1.upd u).b3.c1.cell⟩))
 obtain ⟨c0, c1, c2, c3, c4, c5, c6, c7⟩ := HS.out w4 (Upd.refl _ _)
 go_upto_region 8 with fail
 go_cut [11] (fun p wx => ∃ (gs : Nat) (ss : Bool) (As : Option Addr) (ms cs : Nat), p = .pointer (some ⟨gs, 0, none⟩) /\ Hid (Upd NoF w4 wx /\ BoxI wx gs ss As ms cs /\ SpI wx (.agg #[.bool ss, .slice As ms cs]) (A * X + B * Y)))
 case first =>
  -- [T
  refine wp_region_held_drew (S := (fun w' => w'.cell? ⟨ga, 0, none⟩ = some (.bool sa) /\ w'.cell? ⟨ga, 1, none⟩ = some (.slice Aa ma ca) /\ w'.cell? ⟨gb, 0, none⟩ = some (.bool sb) /\ w'.cell? ⟨gb, 1, none⟩ = some (.slice Ab mb cb) /\ w'.cell? ⟨gz + 1, 0, none⟩ = some (.bool sx) /\ w'.cell? ⟨gz + 1, 1, none⟩ = some (.slice Ax mx cx) /\ w'.cell? ⟨gz + 1 + 1, 0, none⟩ = some (.bool sy) /\ w'.cell? ⟨gz + 1 + 1, 1, none⟩ = some (.slice Ay my cy))) (by kernel_rfl) (by exact HS.out _ (by (repeat (first | exact Upd.refl _ _ | assumption | refine Upd.alloc ?_ _ | refine Upd.drew ?_ | refine Upd.drewN ?_ _ | refine Upd.trans ?_ (by assumption))))) (fun hHeld => ?_)
  refine wpAnyH_take (i := 0) (v := ?_) rfl (by kernel_rfl) (by kernel_rfl) (by kernel_rfl) (fun _ _ _ h => h) (Or.inl ⟨by rfl, ?_⟩) (by assumption) ?_
  rotate_left
  . (intro w' hSw; (try dsimp only at hSw); go_simp; try with_reducible rfl)
  (try simp only [Act.put, zqa, zqb, zqc, zqd, zqe, zqf])
  refine wpAnyH_take (i := 1) (v := ?_) rfl (by kernel_rfl) (by kernel_rfl) (by kernel_rfl) (fun _ _ _ h => h) (Or.inl ⟨by rfl, ?_⟩) (by assumption) ?_
  rotate_left
  . (intro w' hSw; (try dsimp only at hSw); go_simp; try with_reducible rfl)
  (try simp only [Act.put, zqa, zqb, zqc, zqd, zqe, zqf])
  refine wpAnyH_take (i := 4) (v := ?_) rfl (by kernel_rfl) (by kernel_rfl) (by kernel_rfl) (fun _ _ _ h => h) (Or.inl ⟨by rfl, ?_⟩) (by assumption) ?_
  rotate_left
  . (intro w' hSw; (try dsimp only at hSw); go_simp; try with_reducible rfl)
  (try simp only [Act.put, zqa, zqb, zqc, zqd, zqe, zqf])
  refine wpAnyH_take (i := 5) (v := ?_) rfl (by kernel_rfl) (by kernel_rfl) (by kernel_rfl) (fun _ _ _ h => h) (Or.inl ⟨by rfl, ?_⟩) (by assumption) ?_
  rotate_left
  . (intro w' hSw; (try dsimp only at hSw); go_simp; try with_reducible rfl)
  (try simp only [Act.put, zqa, zqb, zqc, zqd, zqe, zqf])
  refine wpAnyH_abs (fun F a0 hF ha0 => ?_)
  clear c0 c1 c2 c3 c4 c5 c6 c7
  have M5_1 : ∀ (gs : Nat) (va : Value) (vb : Value) (vc : Value) (vd : Value) (ve : Value) (w' : World) (hu : Upd NoF w4 w') (b9 : BoxI w' gs false none 0 0) (l9 : w4.heap.size <= gs) (na : SpI w' va X) (nb : SpI w' vb (A * X)) (nc : SpI w' vc Y) (nd : SpI w' vd (B * Y)) (ne : SpI w' ve (A * X + B * Y)), F 1 #[true, true, true, true, true, true, true, true, true, true, false] (Act.put (Act.put (Act.put (Act.put (Act.put (Act.put a0 (some 11) (.pointer (some ⟨gs, 0, none⟩))) (some 44) (va)) (some 45) (vb)) (some 48) (vc)) (some 49) (vd)) (some 50) (ve)) w' := by
   as_aux_lemma =>
   intro gs va vb vc vd ve w' hu b9 l9 na nb nc nd ne
   subst ha0
   rw [<- hF]
   (try simp only [Act.put, zqa, zqb, zqc, zqd, zqe, zqf])
   obtain ⟨As, cs, rfl, _, _⟩ := id ne
   obtain ⟨ss, hss⟩ : ∃ s, decide (A * X + B * Y < 0) = s := ⟨_, rfl⟩
   obtain ⟨ms, hms⟩ : ∃ s, (ds (A * X + B * Y).natAbs).length = s := ⟨_, rfl⟩
   rw [hss, hms] at ne ⊢
   have e1 := b9.c0.cell
   have e2 := b9.c1.cell
   have e3 := b9.c0.frozen
   have e4 := b9.c1.frozen
   obtain ⟨wf, hwf, f1⟩ := istore1 (w := w4) hu l9 b9 ne
   have HWF := Qq (Qj hwf f1)
   have HB3 := Qq (Qj hu l9)
   clear hwf f1 na nb nc nd ne b9 hu hss hms
   refine wpAnyH_ready (rs := [10]) (by kernel_rfl) (by simp) ?_
   refine AllReadyH.cons rfl (fun K hK => ?_) AllReadyH.nil
   go_simp
   refine hK.out _ _ ?_ (fun hHeld => ?_)
   case' refine_1 => (try dsimp only); exact HS.out _ ((HB3.out.1.setCell (fun h => by have := HB3.out.2; omega) _).setCell (fun h => by have := HB3.out.2; omega) _)
   clear hK K
   (try simp only [Act.put, zqa, zqb, zqc, zqd, zqe, zqf])
   refine wpAnyH_done (by kernel_rfl) ?_ _
   rw [<- HWF.out.1]
   go_wp2_with fail
   go_meet
   case rel => exact ⟨_, ss, As, ms, cs, rfl, HWF.out.2⟩
  have M5_0 : ∀ (va : Value) (vb : Value) (vc : Value) (vd : Value) (ve : Value) (w' : World) (hu : Upd NoF w4 w') (na : SpI w' va X) (nb : SpI w' vb (A * X)) (nc : SpI w' vc Y) (nd : SpI w' vd (B * Y)) (ne : SpI w' ve (A * X + B * Y)), F 2 #[true, true, true, true, true, true, true, true, true, false, false] (Act.put (Act.put (Act.put (Act.put (Act.put a0 (some 44) (va)) (some 45) (vb)) (some 48) (vc)) (some 49) (vd)) (some 50) (ve)) w' := by
   as_aux_lemma =>
   intro va vb vc vd ve w' hu na nb nc nd ne
   subst ha0
   rw [<- hF]
   (try simp only [Act.put, zqa, zqb, zqc, zqd, zqe, zqf])
   refine wpAnyH_ready (rs := [9]) (by kernel_rfl) (by simp) ?_
   refine AllReadyH.cons rfl (fun K hK => ?_) AllReadyH.nil
   go_simp
   refine hK.out _ _ ?_ (fun hHeld => ?_)
   case' refine_1 => (try dsimp only); exact HS.out _ (hu.alloc _)
   rw [hF]
   have hn := M5_1 w'.heap.size va vb vc vd ve (w'.alloc (.cells #[.bool false, .slice none 0 0] 32)) (hu.alloc _) (BoxI.new w' false none 0 0) hu.size (na.upd ((Upd.refl NoF w').alloc _)) (nb.upd ((Upd.refl NoF w').alloc _)) (nc.upd ((Upd.refl NoF w').alloc _)) (nd.upd ((Upd.refl NoF w').alloc _)) (ne.upd ((Upd.refl NoF w').alloc _))
   (try simp only [Act.put, zqa, zqb, zqc, zqd, zqe, zqf] at hn ⊢)
   exact hn
  have M4_1 : ∀ (gs : Nat) (va : Value) (vb : Value) (vc : Value) (vd : Value) (w' : World) (hu : Upd NoF w4 w') (b9 : BoxI w' gs false none 0 0) (l9 : w4.heap.size <= gs) (na : SpI w' va X) (nb : SpI w' vb (A * X)) (nc : SpI w' vc Y) (nd : SpI w' vd (B * Y)), F 2 #[true, true, true, true, true, true, true, true, false, true, false] (Act.put (Act.put (Act.put (Act.put (Act.put a0 (some 11) (.pointer (some ⟨gs, 0, none⟩))) (some 44) (va)) (some 45) (vb)) (some 48) (vc)) (some 49) (vd)) w' := by
   as_aux_lemma =>
   intro gs va vb vc vd w' hu b9 l9 na nb nc nd
   subst ha0
   rw [<- hF]
   (try simp only [Act.put, zqa, zqb, zqc, zqd, zqe, zqf])
   refine wpAnyH_ready (rs := [8]) (by kernel_rfl) (by simp) ?_
   refine AllReadyH.cons rfl (fun K hK => ?_) AllReadyH.nil
   go_simp
   refine (HJ4.out w' hu vb vd nb nd).mono ?_
   rintro e wc ⟨ve, rfl, ne, uc⟩
   refine hK.out _ _ ?_ (fun hHeld => ?_)
   case' refine_1 => (try dsimp only); exact HS.out _ (hu.trans uc)
   rw [hF]
   have hn := M5_1 gs va vb vc vd ve wc (hu.trans uc) (b9.upd uc) l9 (na.upd uc) (nb.upd uc) (nc.upd uc) (nd.upd uc) ne
   (try simp only [Act.put, zqa, zqb, zqc, zqd, zqe, zqf] at hn ⊢)
   exact hn
  have M4_0 : ∀ (va : Value) (vb : Value) (vc : Value) (vd : Value) (w' : World) (hu : Upd NoF w4 w') (na : SpI w' va X) (nb : SpI w' vb (A * X)) (nc : SpI w' vc Y) (nd : SpI w' vd (B * Y)), F 3 #[true, true, true, true, true, true, true, true, false, false, false] (Act.put (Act.put (Act.put (Act.put a0 (some 44) (va)) (some 45) (vb)) (some 48) (vc)) (some 49) (vd)) w' := by
   as_aux_lemma =>
   intro va vb vc vd w' hu na nb nc nd
   subst ha0
   rw [<- hF]
   (try simp only [Act.put, zqa, zqb, zqc, zqd, zqe, zqf])
   refine wpAnyH_ready (rs := [8, 9]) (by kernel_rfl) (by simp) ?_
   refine AllReadyH.cons rfl (fun K hK => ?_) ?_
   .
    go_simp
    refine (HJ4.out w' hu vb vd nb nd).mono ?_
    rintro e wc ⟨ve, rfl, ne, uc⟩
    refine hK.out _ _ ?_ (fun hHeld => ?_)
    case' refine_1 => (try dsimp only); exact HS.out _ (hu.trans uc)
    rw [hF]
    have hn := M5_0 va vb vc vd ve wc (hu.trans uc) (na.upd uc) (nb.upd uc) (nc.upd uc) (nd.upd uc) ne
    (try simp only [Act.put, zqa, zqb, zqc, zqd, zqe, zqf] at hn ⊢)
    exact hn
   refine AllReadyH.cons rfl (fun K hK => ?_) AllReadyH.nil
   go_simp
   refine hK.out _ _ ?_ (fun hHeld => ?_)
   case' refine_1 => (try dsimp only); exact HS.out _ (hu.alloc _)
   rw [hF]
   have hn := M4_1 w'.heap.size va vb vc vd (w'.alloc (.cells #[.bool false, .slice none 0 0] 32)) (hu.alloc _) (BoxI.new w' false none 0 0) hu.size (na.upd ((Upd.refl NoF w').alloc _)) (nb.upd ((Upd.refl NoF w').alloc _)) (nc.upd ((Upd.refl NoF w').alloc _)) (nd.upd ((Upd.refl NoF w').alloc _))
   (try simp only [Act.put, zqa, zqb, zqc, zqd, zqe, zqf] at hn ⊢)
   exact hn
  have M3_1 : ∀ (gs : Nat) (va : Value) (vb : Value) (vc : Value) (w' : World) (hu : Upd NoF w4 w') (b9 : BoxI w' gs false none 0 0) (l9 : w4.heap.size <= gs) (na : SpI w' va X) (nb : SpI w' vb (A * X)) (nc : SpI w' vc Y), F 3 #[true, true, true, true, true, true, true, false, false, true, false] (Act.put (Act.put (Act.put (Act.put a0 (some 11) (.pointer (some ⟨gs, 0, none⟩))) (some 44) (va)) (some 45) (vb)) (some 48) (vc)) w' := by
   as_aux_lemma =>
   intro gs va vb vc w' hu b9 l9 na nb nc
   subst ha0
   rw [<- hF]
   (try simp only [Act.put, zqa, zqb, zqc, zqd, zqe, zqf])
   refine wpAnyH_ready (rs := [7]) (by kernel_rfl) (by simp) ?_
   refine AllReadyH.cons rfl (fun K hK => ?_) AllReadyH.nil
   go_simp
   refine (HJ3.out w' hu vc nc).mono ?_
   rintro e wc ⟨vd, rfl, nd, uc⟩
   refine hK.out _ _ ?_ (fun hHeld => ?_)
   case' refine_1 => (try dsimp only); exact HS.out _ (hu.trans uc)
   rw [hF]
   have hn := M4_1 gs va vb vc vd wc (hu.trans uc) (b9.upd uc) l9 (na.upd uc) (nb.upd uc) (nc.upd uc) nd
   (try simp only [Act.put, zqa, zqb, zqc, zqd, zqe, zqf] at hn ⊢)
   exact hn
  have M3_0 : ∀ (va : Value) (vb : Value) (vc : Value) (w' : World) (hu : Upd NoF w4 w') (na : SpI w' va X) (nb : SpI w' vb (A * X)) (nc : SpI w' vc Y), F 4 #[true, true, true, true, true, true, true, false, false, false, false] (Act.put (Act.put (Act.put a0 (some 44) (va)) (some 45) (vb)) (some 48) (vc)) w' := by
   as_aux_lemma =>
   intro va vb vc w' hu na nb nc
   subst ha0
   rw [<- hF]
   (try simp only [Act.put, zqa, zqb, zqc, zqd, zqe, zqf])
   refine wpAnyH_ready (rs := [7, 9]) (by kernel_rfl) (by simp) ?_
   refine AllReadyH.cons rfl (fun K hK => ?_) ?_
   .
    go_simp
    refine (HJ3.out w' hu vc nc).mono ?_
    rintro e wc ⟨vd, rfl, nd, uc⟩
    refine hK.out _ _ ?_ (fun hHeld => ?_)
    case' refine_1 => (try dsimp only); exact HS.out _ (hu.trans uc)
    rw [hF]
    have hn := M4_0 va vb vc vd wc (hu.trans uc) (na.upd uc) (nb.upd uc) (nc.upd uc) nd
    (try simp only [Act.put, zqa, zqb, zqc, zqd, zqe, zqf] at hn ⊢)
    exact hn
   refine AllReadyH.cons rfl (fun K hK => ?_) AllReadyH.nil
   go_simp
   refine hK.out _ _ ?_ (fun hHeld => ?_)
   case' refine_1 => (try dsimp only); exact HS.out _ (hu.alloc _)
   rw [hF]
   have hn := M3_1 w'.heap.size va vb vc (w'.alloc (.cells #[.bool false, .slice none 0 0] 32)) (hu.alloc _) (BoxI.new w' false none 0 0) hu.size (na.upd ((Upd.refl NoF w').alloc _)) (nb.upd ((Upd.refl NoF w').alloc _)) (nc.upd ((Upd.refl NoF w').alloc _))
   (try simp only [Act.put, zqa, zqb, zqc, zqd, zqe, zqf] at hn ⊢)
   exact hn
  have M2_1 : ∀ (gs : Nat) (va : Value) (vb : Value) (w' : World) (hu : Upd NoF w4 w') (b9 : BoxI w' gs false none 0 0) (l9 : w4.heap.size <= gs) (na : SpI w' va X) (nb : SpI w' vb (A * X)), F 4 #[true, true, true, true, true, true, false, false, false, true, false] (Act.put (Act.put (Act.put a0 (some 11) (.pointer (some ⟨gs, 0, none⟩))) (some 44) (va)) (some 45) (vb)) w' := by
   as_aux_lemma =>
   intro gs va vb w' hu b9 l9 na nb
   subst ha0
   rw [<- hF]
   (try simp only [Act.put, zqa, zqb, zqc, zqd, zqe, zqf])
   refine wpAnyH_ready (rs := [6]) (by kernel_rfl) (by simp) ?_
   refine AllReadyH.cons rfl (fun K hK => ?_) AllReadyH.nil
   go_simp
   refine (HJ2.out w' hu).mono ?_
   rintro e wc ⟨vc, rfl, nc, uc⟩
   refine hK.out _ _ ?_ (fun hHeld => ?_)
   case' refine_1 => (try dsimp only); exact HS.out _ (hu.trans uc)
   rw [hF]
   have hn := M3_1 gs va vb vc wc (hu.trans uc) (b9.upd uc) l9 (na.upd uc) (nb.upd uc) nc
   (try simp only [Act.put, zqa, zqb, zqc, zqd, zqe, zqf] at hn ⊢)
   exact hn
  have M2_0 : ∀ (va : Value) (vb : Value) (w' : World) (hu : Upd NoF w4 w') (na : SpI w' va X) (nb : SpI w' vb (A * X)), F 5 #[true, true, true, true, true, true, false, false, false, false, false] (Act.put (Act.put a0 (some 44) (va)) (some 45) (vb)) w' := by
   as_aux_lemma =>
   intro va vb w' hu na nb
   subst ha0
   rw [<- hF]
   (try simp only [Act.put, zqa, zqb, zqc, zqd, zqe, zqf])
   refine wpAnyH_ready (rs := [6, 9]) (by kernel_rfl) (by simp) ?_
   refine AllReadyH.cons rfl (fun K hK => ?_) ?_
   .
    go_simp
    refine (HJ2.out w' hu).mono ?_
    rintro e wc ⟨vc, rfl, nc, uc⟩
    refine hK.out _ _ ?_ (fun hHeld => ?_)
    case' refine_1 => (try dsimp only); exact HS.out _ (hu.trans uc)
    rw [hF]
    have hn := M3_0 va vb vc wc (hu.trans uc) (na.upd uc) (nb.upd uc) nc
    (try simp only [Act.put, zqa, zqb, zqc, zqd, zqe, zqf] at hn ⊢)
    exact hn
   refine AllReadyH.cons rfl (fun K hK => ?_) AllReadyH.nil
   go_simp
   refine hK.out _ _ ?_ (fun hHeld => ?_)
   case' refine_1 => (try dsimp only); exact HS.out _ (hu.alloc _)
   rw [hF]
   have hn := M2_1 w'.heap.size va vb (w'.alloc (.cells #[.bool false, .slice none 0 0] 32)) (hu.alloc _) (BoxI.new w' false none 0 0) hu.size (na.upd ((Upd.refl NoF w').alloc _)) (nb.upd ((Upd.refl NoF w').alloc _))
   (try simp only [Act.put, zqa, zqb, zqc, zqd, zqe, zqf] at hn ⊢)
   exact hn
  have M1_1 : ∀ (gs : Nat) (va : Value) (w' : World) (hu : Upd NoF w4 w') (b9 : BoxI w' gs false none 0 0) (l9 : w4.heap.size <= gs) (na : SpI w' va X), F 5 #[true, true, true, false, true, true, false, false, false, true, false] (Act.put (Act.put a0 (some 11) (.pointer (some ⟨gs, 0, none⟩))) (some 44) (va)) w' := by
   as_aux_lemma =>
   intro gs va w' hu b9 l9 na
   subst ha0
   rw [<- hF]
   (try simp only [Act.put, zqa, zqb, zqc, zqd, zqe, zqf])
   refine wpAnyH_ready (rs := [3]) (by kernel_rfl) (by simp) ?_
   refine AllReadyH.cons rfl (fun K hK => ?_) AllReadyH.nil
   go_simp
   refine (HJ1.out w' hu va na).mono ?_
   rintro e wc ⟨vb, rfl, nb, uc⟩
   refine hK.out _ _ ?_ (fun hHeld => ?_)
   case' refine_1 => (try dsimp only); exact HS.out _ (hu.trans uc)
   rw [hF]
   have hn := M2_1 gs va vb wc (hu.trans uc) (b9.upd uc) l9 (na.upd uc) nb
   (try simp only [Act.put, zqa, zqb, zqc, zqd, zqe, zqf] at hn ⊢)
   exact hn
  have M1_0 : ∀ (va : Value) (w' : World) (hu : Upd NoF w4 w') (na : SpI w' va X), F 6 #[true, true, true, false, true, true, false, false, false, false, false] (Act.put a0 (some 44) (va)) w' := by
   as_aux_lemma =>
   intro va w' hu na
   subst ha0
   rw [<- hF]
   (try simp only [Act.put, zqa, zqb, zqc, zqd, zqe, zqf])
   refine wpAnyH_ready (rs := [3, 9]) (by kernel_rfl) (by simp) ?_
   refine AllReadyH.cons rfl (fun K hK => ?_) ?_
   .
    go_simp
    refine (HJ1.out w' hu va na).mono ?_
    rintro e wc ⟨vb, rfl, nb, uc⟩
    refine hK.out _ _ ?_ (fun hHeld => ?_)
    case' refine_1 => (try dsimp only); exact HS.out _ (hu.trans uc)
    rw [hF]
    have hn := M2_0 va vb wc (hu.trans uc) (na.upd uc) nb
    (try simp only [Act.put, zqa, zqb, zqc, zqd, zqe, zqf] at hn ⊢)
    exact hn
   refine AllReadyH.cons rfl (fun K hK => ?_) AllReadyH.nil
   go_simp
   refine hK.out _ _ ?_ (fun hHeld => ?_)
   case' refine_1 => (try dsimp only); exact HS.out _ (hu.alloc _)
   rw [hF]
   have hn := M1_1 w'.heap.size va (w'.alloc (.cells #[.bool false, .slice none 0 0] 32)) (hu.alloc _) (BoxI.new w' false none 0 0) hu.size (na.upd ((Upd.refl NoF w').alloc _))
   (try simp only [Act.put, zqa, zqb, zqc, zqd, zqe, zqf] at hn ⊢)
   exact hn
  have M0_1 : ∀ (gs : Nat) (w' : World) (hu : Upd NoF w4 w') (b9 : BoxI w' gs false none 0 0) (l9 : w4.heap.size <= gs), F 6 #[true, true, false, false, true, true, false, false, false, true, false] (Act.put a0 (some 11) (.pointer (some ⟨gs, 0, none⟩))) w' := by
   as_aux_lemma =>
   intro gs w' hu b9 l9
   subst ha0
   rw [<- hF]
   (try simp only [Act.put, zqa, zqb, zqc, zqd, zqe, zqf])
   refine wpAnyH_ready (rs := [2]) (by kernel_rfl) (by simp) ?_
   refine AllReadyH.cons rfl (fun K hK => ?_) AllReadyH.nil
   go_simp
   refine (HJ0.out w' hu).mono ?_
   rintro e wc ⟨va, rfl, na, uc⟩
   refine hK.out _ _ ?_ (fun hHeld => ?_)
   case' refine_1 => (try dsimp only); exact HS.out _ (hu.trans uc)
   rw [hF]
   have hn := M1_1 gs va wc (hu.trans uc) (b9.upd uc) l9 na
   (try simp only [Act.put, zqa, zqb, zqc, zqd, zqe, zqf] at hn ⊢)
   exact hn
  have M0_0 : ∀ (w' : World) (hu : Upd NoF w4 w'), F 7 #[true, true, false, false, true, true, false, false, false, false, false] a0 w' := by
   as_aux_lemma =>
   intro w' hu
   subst ha0
   rw [<- hF]
   (try simp only [Act.put, zqa, zqb, zqc, zqd, zqe, zqf])
   refine wpAnyH_ready (rs := [2, 9]) (by kernel_rfl) (by simp) ?_
   refine AllReadyH.cons rfl (fun K hK => ?_) ?_
   .
    go_simp
    refine (HJ0.out w' hu).mono ?_
    rintro e wc ⟨va, rfl, na, uc⟩
    refine hK.out _ _ ?_ (fun hHeld => ?_)
    case' refine_1 => (try dsimp only); exact HS.out _ (hu.trans uc)
    rw [hF]
    have hn := M1_0 va wc (hu.trans uc) na
    (try simp only [Act.put, zqa, zqb, zqc, zqd, zqe, zqf] at hn ⊢)
    exact hn
   refine AllReadyH.cons rfl (fun K hK => ?_) AllReadyH.nil
   go_simp
   refine hK.out _ _ ?_ (fun hHeld => ?_)
   case' refine_1 => (try dsimp only); exact HS.out _ (hu.alloc _)
   rw [hF]
   have hn := M0_1 w'.heap.size (w'.alloc (.cells #[.bool false, .slice none 0 0] 32)) (hu.alloc _) (BoxI.new w' false none 0 0) hu.size
   (try simp only [Act.put, zqa, zqb, zqc, zqd, zqe, zqf] at hn ⊢)
   exact hn
  exact M0_0 _ (Upd.refl NoF w4).drew
  -- T]
 case rest =>
 obtain ⟨gs, ss, As, ms, cs, rfl, HW⟩ := hcut
 have hs := HW.out
 rw [HGE.out.2.sum] at hs
 have hsn := hs.2.2.nat
 have hss : ss = false := hsn.1.trans (decide_eq_false (by omega))
 subst hss
 have hsn2 := hsn.2
 rw [Int.natAbs_natCast] at hsn2
 have H5 := Qq (Qj (H4.out.1.upd hs.1) (Qj (H4.out.2.1.upd hs.1) (Qj (H4.out.2.2.1.upd hs.1) (Qj (H4.out.2.2.2.1.upd hs.1) (Qj (H4.out.2.2.2.2.1.upd hs.1) (Qj (H4.out.2.2.2.2.2.1.upd hs.1) (Qj (H4.out.2.2.2.2.2.2.1.upd hs.1) (Qj (H4.out.2.2.2.2.2.2.2.2.2.upd hs.1) (Qj hs.2.1 hsn2)))))))))
 clear HW H4 hs hsn hsn2 HJ0 HJ1 HJ2 HJ3 HJ4 HS c0 c1 c2 c3 c4 c5 c6 c7
 have lG : (digs G).length <= 20 := by
  rw [<- HGE.out.1]
  have h1 : (digs (Nat.gcd A.natAbs B.natAbs)).length <= max n1 n2 := by
   rcases Nat.le_total A.natAbs B.natAbs with h | h
   . have := Zn (gcd_le_max h (Nat.le_refl _)); have := HL.out; omega
   . have := Zn (gcd_le_max (Nat.le_refl _) h); have := HL.out; omega
  have := HLL.out
  omega
 have lGd : (ds G).length <= 80 := by have := ds_len4 G; omega
 have KI := Qq (isnat_sp _ _ G wc H5.out.2.2.1 H5.out.2.2.2.2.2.2.2.1 (by omega))
 have KC := Qq (fun (w' : World) (u : Upd NoF wc w') => (show Calls Tryz.prog 16 #[.slice As ms cs, .slice Ag mg cg] w' fun e w'' => e = .returned (.int .i64 0) /\ Upd NoF w' w'' from
  (scmp_sp _ _ G G w' (H5.out.2.2.2.2.2.2.2.2.2.upd u) (H5.out.2.2.2.2.2.2.2.1.upd u) (by omega) (by omega)).mono (fun e w'' ⟨r, he, h1, h2, h3⟩ => ⟨by rw [he]; congr 2; have := h1.2 (Nat.le_refl _); have := h2.2 (Nat.le_refl _); omega, h3⟩)))
 clear lG lGd
 have z0 := H5.out.2.1.b1.c0.cell
 have z1 := H5.out.2.1.b1.c1.cell
 go_wp2_with fail
 refine KI.out.mono ?_
 rintro e w6 ⟨rfl, u6⟩
 have s0 := (H5.out.2.2.2.2.2.2.2.2.1.upd u6).c0.cell
 have s1' := (H5.out.2.2.2.2.2.2.2.2.1.upd u6).c1.cell
 have HU6 := Qq u6
 clear KI u6 z0 z1
 go_wp2_with fail
 refine (KC.out w6 HU6.out).mono ?_
 rintro e w7 ⟨rfl, u7⟩
 have u57 := HU6.out.trans u7
 have H7 := Qq (Qj (H5.out.1.upd u57) (Qj (H5.out.2.1.upd u57) (Qj (H5.out.2.2.1.upd u57) (Qj (H5.out.2.2.2.1.upd u57) (Qj (H5.out.2.2.2.2.1.upd u57) (Qj (H5.out.2.2.2.2.2.1.upd u57) (H5.out.2.2.2.2.2.2.1.upd u57)))))))
 clear KC u7 u57 H5 HU6 s0 s1'
 have a1 := H7.out.2.2.2.2.2.1.c1.cell
 have b1 := H7.out.2.2.2.2.2.2.c1.cell
 by_cases hA0 : A = 0
 .
  have qa : ((ma : Int) == 0) = true := beq_iff_eq.2 (by have := HAB.out.2.2.1; rw [(ds_len_eq_zero (n := A.natAbs)).2 (by omega)] at this; omega)
  obtain ⟨hX0, hYs⟩ := HGE.out.2.a0 hA0
  by_cases hB0 : B = 0
  .
   have qb : ((mb : Int) == 0) = true := beq_iff_eq.2 (by have := HAB.out.2.2.2.1; rw [(ds_len_eq_zero (n := B.natAbs)).2 (by omega)] at this; omega)
   have hY0 : Y = 0 := by rw [hYs, hB0]; rfl
   have KZ1 := Qq (show Calls Tryz.prog 17 #[.agg #[.bool sx, .slice Ax mx cx]] w7 fun e w'' => e = .returned (.bool true) /\ Upd NoF w7 w'' from
    (zero_sp _ X w7 H7.out.2.2.2.1 (by have := HXY.out; omega)).mono (fun e w'' ⟨he, h⟩ => ⟨by rw [he, decide_eq_true hX0], h⟩))
   have KZ2 := Qq (fun (w' : World) (u : Upd NoF w7 w') => (show Calls Tryz.prog 17 #[.agg #[.bool sy, .slice Ay my cy]] w' fun e w'' => e = .returned (.bool true) /\ Upd NoF w' w'' from
    (zero_sp _ Y w' (H7.out.2.2.2.2.1.upd u) (by have := HXY.out; omega)).mono (fun e w'' ⟨he, h⟩ => ⟨by rw [he, decide_eq_true hY0], h⟩)))
   have c0 := H7.out.2.1.b2.c0.cell
   have c1 := H7.out.2.1.b2.c1.cell
   clear hA0 hB0 hX0 hY0 hYs
   go_wp2_with fail
   refine KZ1.out.mono ?_
   rintro e w8 ⟨rfl, u8⟩
   have d0 := (H7.out.2.1.b3.upd u8).c0.cell
   have d1 := (H7.out.2.1.b3.upd u8).c1.cell
   have HU8 := Qq u8
   clear u8 c0 c1 a1 b1
   go_wp2_with fail
   refine (KZ2.out w8 HU8.out).mono ?_
   rintro e w9 ⟨rfl, u9⟩
   have HU := Qq (H7.out.1.up.trans (HU8.out.trans u9))
   clear u9
   go_wp2_with fail
   go_ret
   exact ⟨rfl, HU.out⟩
  .
   have qb : ((mb : Int) == 0) = false := beq_eq_false_iff_ne.2 (by have := HAB.out.2.2.2.1; have := mt (ds_len_eq_zero (n := B.natAbs)).1 (by omega); omega)
   -- [U
   go_wp2_with fail
   as_aux_lemma =>
   have HS := Qq (fun (w' : World) (u : Upd NoF w7 w') => (show w'.cell? ⟨gz + 1, 0, none⟩ = some (.bool sx) /\ w'.cell? ⟨gz + 1, 1, none⟩ = some (.slice Ax mx cx) /\ w'.cell? ⟨gz + 1 + 1, 0, none⟩ = some (.bool sy) /\ w'.cell? ⟨gz + 1 + 1, 1, none⟩ = some (.slice Ay my cy) /\ w'.cell? ⟨gb, 0, none⟩ = some (.bool sb) from
    ⟨(H7.out.2.1.upd u).b2.c0.cell, (H7.out.2.1.upd u).b2.c1.cell, (H7.out.2.1.upd u).b3.c0.cell, (H7.out.2.1.upd u).b3.c1.cell, (H7.out.2.2.2.2.2.2.upd u).c0.cell⟩))
   have KZ := Qq (fun (w' : World) (u : Upd NoF w7 w') => (show Calls Tryz.prog 17 #[.agg #[.bool sx, .slice Ax mx cx]] w' fun e w'' => e = .returned (.bool true) /\ Upd NoF w' w'' from
    (zero_sp _ X w' (H7.out.2.2.2.1.upd u) (by have := HXY.out; omega)).mono (fun e w'' ⟨he, h⟩ => ⟨by rw [he, decide_eq_true hX0], h⟩)))
   have KIS := Qq (fun (v : Value) (w' : World) (u : Upd NoF w7 w') (hv : SpN w' v 1) => is_sp (.agg #[.bool sy, .slice Ay my cy]) (.agg #[.bool sb, v]) Y w' (H7.out.2.2.2.2.1.upd u) (by rw [hYs]; exact sign_spI HAB.out.2.1 hB0 hv) (by have := HXY.out; omega))
   refine wp_region_held_drew (S := (fun w' => w'.cell? ⟨gz + 1, 0, none⟩ = some (.bool sx) /\ w'.cell? ⟨gz + 1, 1, none⟩ = some (.slice Ax mx cx) /\ w'.cell? ⟨gz + 1 + 1, 0, none⟩ = some (.bool sy) /\ w'.cell? ⟨gz + 1 + 1, 1, none⟩ = some (.slice Ay my cy) /\ w'.cell? ⟨gb, 0, none⟩ = some (.bool sb))) (by kernel_rfl) (by exact HS.out _ (by (repeat (first | exact Upd.refl _ _ | assumption | refine Upd.alloc ?_ _ | refine Upd.drew ?_ | refine Upd.drewN ?_ _ | refine Upd.trans ?_ (by assumption))))) (fun hHeld => ?_)
   refine wpAnyH_take (i := 0) (v := ?_) rfl (by kernel_rfl) (by kernel_rfl) (by kernel_rfl) (fun _ _ _ h => h) (Or.inl ⟨by rfl, ?_⟩) (by assumption) ?_
   rotate_left
   . (intro w' hSw; (try dsimp only at hSw); go_simp; try with_reducible rfl)
   (try simp only [Act.put, zqa, zqb, zqc, zqd, zqe, zqf])
   refine wpAnyH_ready (rs := [1]) (by kernel_rfl) (by simp) ?_
   refine AllReadyH.cons rfl (fun K hK => ?_) AllReadyH.nil
   go_simp
   refine (KZ.out _ (by (repeat (first | exact Upd.refl _ _ | assumption | refine Upd.alloc ?_ _ | refine Upd.drew ?_ | refine Upd.drewN ?_ _ | refine Upd.trans ?_ (by assumption))))).mono ?_
   rintro e w8 ⟨rfl, u8⟩
   refine hK.out _ _ ?_ (fun hHeld => ?_)
   case' refine_1 => (try dsimp only); exact HS.out _ (by (repeat (first | exact Upd.refl _ _ | assumption | refine Upd.alloc ?_ _ | refine Upd.drew ?_ | refine Upd.drewN ?_ _ | refine Upd.trans ?_ (by assumption))))
   clear hK K
   (try simp only [Act.put, zqd, zqe, zqf])
   (try simp only [Act.put, zqa, zqb, zqc, zqd, zqe, zqf])
   refine wpAnyH_take (i := 2) (v := ?_) rfl (by kernel_rfl) (by kernel_rfl) (by kernel_rfl) (fun _ _ _ h => h) (Or.inl ⟨by rfl, ?_⟩) (by assumption) ?_
   rotate_left
   . (intro w' hSw; (try dsimp only at hSw); go_simp; try with_reducible rfl)
   (try simp only [Act.put, zqa, zqb, zqc, zqd, zqe, zqf])
   refine wpAnyH_take (i := 3) (v := ?_) rfl (by kernel_rfl) (by kernel_rfl) (by kernel_rfl) (fun _ _ _ h => h) (Or.inl ⟨by rfl, ?_⟩) (by assumption) ?_
   rotate_left
   . (intro w' hSw; (try dsimp only at hSw); go_simp; try with_reducible rfl)
   (try simp only [Act.put, zqa, zqb, zqc, zqd, zqe, zqf])
   refine wpAnyH_take (i := 4) (v := ?_) rfl (by kernel_rfl) (by kernel_rfl) (by kernel_rfl) (fun _ _ _ h => h) (Or.inl ⟨by rfl, ?_⟩) (by assumption) ?_
   rotate_left
   . (intro w' hSw; (try dsimp only at hSw); go_simp; try with_reducible rfl)
   (try simp only [Act.put, zqa, zqb, zqc, zqd, zqe, zqf])
   refine wpAnyH_take (i := 5) (v := ?_) rfl (by kernel_rfl) (by kernel_rfl) (by kernel_rfl) (fun _ _ _ h => h) (Or.inl ⟨by rfl, ?_⟩) (by assumption) ?_
   rotate_left
   . (intro w' hSw; (try dsimp only at hSw); go_simp; try with_reducible rfl)
   (try simp only [Act.put, zqa, zqb, zqc, zqd, zqe, zqf])
   refine wpAnyH_ready (rs := [6]) (by kernel_rfl) (by simp) ?_
   refine AllReadyH.cons rfl (fun K hK => ?_) AllReadyH.nil
   go_simp
   refine (small_sp 1 _ (by omega)).mono ?_
   rintro e w9 ⟨v9, rfl, h9, u9⟩
   obtain ⟨A9, c9, rfl, _, _⟩ := id h9
   obtain ⟨m9, hm9⟩ : ∃ m, (ds 1).length = m := ⟨_, rfl⟩
   rw [hm9] at h9 ⊢
   clear hm9
   refine hK.out _ _ ?_ (fun hHeld => ?_)
   case' refine_1 => (try dsimp only); exact HS.out _ (by (repeat (first | exact Upd.refl _ _ | assumption | refine Upd.alloc ?_ _ | refine Upd.drew ?_ | refine Upd.drewN ?_ _ | refine Upd.trans ?_ (by assumption))))
   clear hK K
   (try simp only [Act.put, zqd, zqe, zqf])
   (try simp only [Act.put, zqa, zqb, zqc, zqd, zqe, zqf])
   refine wpAnyH_ready (rs := [7]) (by kernel_rfl) (by simp) ?_
   refine AllReadyH.cons rfl (fun K hK => ?_) AllReadyH.nil
   go_simp
   refine hK.out _ _ ?_ (fun hHeld => ?_)
   case' refine_1 => (try dsimp only); exact HS.out _ (by (repeat (first | exact Upd.refl _ _ | assumption | refine Upd.alloc ?_ _ | refine Upd.drew ?_ | refine Upd.drewN ?_ _ | refine Upd.trans ?_ (by assumption))))
   clear hK K
   (try simp only [Act.put, zqd, zqe, zqf])
   (try simp only [Act.put, zqa, zqb, zqc, zqd, zqe, zqf])
   refine wpAnyH_ready (rs := [8]) (by kernel_rfl) (by simp) ?_
   refine AllReadyH.cons rfl (fun K hK => ?_) AllReadyH.nil
   go_simp
   refine (KIS.out _ _ (by (repeat (first | exact Upd.refl _ _ | assumption | refine Upd.alloc ?_ _ | refine Upd.drew ?_ | refine Upd.drewN ?_ _ | refine Upd.trans ?_ (by assumption)))) (h9.upd (by (repeat (first | exact Upd.refl _ _ | assumption | refine Upd.alloc ?_ _ | refine Upd.drew ?_ | refine Upd.drewN ?_ _ | refine Upd.trans ?_ (by assumption)))))).mono ?_
   rintro e w10 ⟨rfl, u10⟩
   refine hK.out _ _ ?_ (fun hHeld => ?_)
   case' refine_1 => (try dsimp only); exact HS.out _ (by (repeat (first | exact Upd.refl _ _ | assumption | refine Upd.alloc ?_ _ | refine Upd.drew ?_ | refine Upd.drewN ?_ _ | refine Upd.trans ?_ (by assumption))))
   clear hK K
   (try simp only [Act.put, zqd, zqe, zqf])
   (try simp only [Act.put, zqa, zqb, zqc, zqd, zqe, zqf])
   refine wpAnyH_take (i := 9) (v := ?_) rfl (by kernel_rfl) (by kernel_rfl) (by kernel_rfl) (fun _ _ _ h => h) (Or.inl ⟨by rfl, ?_⟩) (by assumption) ?_
   rotate_left
   . (intro w' hSw; (try dsimp only at hSw); go_simp; try with_reducible rfl)
   (try simp only [Act.put, zqa, zqb, zqc, zqd, zqe, zqf])
   refine wpAnyH_take (i := 10) (v := ?_) rfl (by kernel_rfl) (by kernel_rfl) (by kernel_rfl) (fun _ _ _ h => h) (Or.inl ⟨by rfl, ?_⟩) (by assumption) ?_
   rotate_left
   . (intro w' hSw; (try dsimp only at hSw); go_simp; try with_reducible rfl)
   (try simp only [Act.put, zqa, zqb, zqc, zqd, zqe, zqf])
   have HU := Qq (H7.out.1.up.trans (show Upd NoF w7 w10 from (by (repeat (first | exact Upd.refl _ _ | assumption | refine Upd.alloc ?_ _ | refine Upd.drew ?_ | refine Upd.drewN ?_ _ | refine Upd.trans ?_ (by assumption))))))
   clear u8 u9 u10 h9
   refine wpAnyH_done (by kernel_rfl) ?_ _
   go_wp2_with fail
   go_ret
   exact ⟨rfl, HU.out⟩
   -- U]
 .
  have qa : ((ma : Int) == 0) = false := beq_eq_false_iff_ne.2 (by have := HAB.out.2.2.1; have := mt (ds_len_eq_zero (n := A.natAbs)).1 (by omega); omega)
  by_cases hB0 : B = 0
  .
   have qb : ((mb : Int) == 0) = true := beq_iff_eq.2 (by have := HAB.out.2.2.2.1; rw [(ds_len_eq_zero (n := B.natAbs)).2 (by omega)] at this; omega)
   obtain ⟨hXs, hY0⟩ := HGE.out.2.b0 hB0 hA0
   -- [V
   go_wp2_with fail
   as_aux_lemma =>
   have HS := Qq (fun (w' : World) (u : Upd NoF w7 w') => (show w'.cell? ⟨gz + 1, 0, none⟩ = some (.bool sx) /\ w'.cell? ⟨gz + 1, 1, none⟩ = some (.slice Ax mx cx) /\ w'.cell? ⟨gz + 1 + 1, 0, none⟩ = some (.bool sy) /\ w'.cell? ⟨gz + 1 + 1, 1, none⟩ = some (.slice Ay my cy) /\ w'.cell? ⟨ga, 0, none⟩ = some (.bool sa) from
    ⟨(H7.out.2.1.upd u).b2.c0.cell, (H7.out.2.1.upd u).b2.c1.cell, (H7.out.2.1.upd u).b3.c0.cell, (H7.out.2.1.upd u).b3.c1.cell, (H7.out.2.2.2.2.2.1.upd u).c0.cell⟩))
   have KZ := Qq (fun (w' : World) (u : Upd NoF w7 w') => (show Calls Tryz.prog 17 #[.agg #[.bool sy, .slice Ay my cy]] w' fun e w'' => e = .returned (.bool true) /\ Upd NoF w' w'' from
    (zero_sp _ Y w' (H7.out.2.2.2.2.1.upd u) (by have := HXY.out; omega)).mono (fun e w'' ⟨he, h⟩ => ⟨by rw [he, decide_eq_true hY0], h⟩)))
   have KIS := Qq (fun (v : Value) (w' : World) (u : Upd NoF w7 w') (hv : SpN w' v 1) => is_sp (.agg #[.bool sx, .slice Ax mx cx]) (.agg #[.bool sa, v]) X w' (H7.out.2.2.2.1.upd u) (by rw [hXs]; exact sign_spI HAB.out.1 hA0 hv) (by have := HXY.out; omega))
   refine wp_region_held_drew (S := (fun w' => w'.cell? ⟨gz + 1, 0, none⟩ = some (.bool sx) /\ w'.cell? ⟨gz + 1, 1, none⟩ = some (.slice Ax mx cx) /\ w'.cell? ⟨gz + 1 + 1, 0, none⟩ = some (.bool sy) /\ w'.cell? ⟨gz + 1 + 1, 1, none⟩ = some (.slice Ay my cy) /\ w'.cell? ⟨ga, 0, none⟩ = some (.bool sa))) (by kernel_rfl) (by exact HS.out _ (by (repeat (first | exact Upd.refl _ _ | assumption | refine Upd.alloc ?_ _ | refine Upd.drew ?_ | refine Upd.drewN ?_ _ | refine Upd.trans ?_ (by assumption))))) (fun hHeld => ?_)
   refine wpAnyH_take (i := 0) (v := ?_) rfl (by kernel_rfl) (by kernel_rfl) (by kernel_rfl) (fun _ _ _ h => h) (Or.inl ⟨by rfl, ?_⟩) (by assumption) ?_
   rotate_left
   . (intro w' hSw; (try dsimp only at hSw); go_simp; try with_reducible rfl)
   (try simp only [Act.put, zqa, zqb, zqc, zqd, zqe, zqf])
   refine wpAnyH_ready (rs := [1]) (by kernel_rfl) (by simp) ?_
   refine AllReadyH.cons rfl (fun K hK => ?_) AllReadyH.nil
   go_simp
   refine (KZ.out _ (by (repeat (first | exact Upd.refl _ _ | assumption | refine Upd.alloc ?_ _ | refine Upd.drew ?_ | refine Upd.drewN ?_ _ | refine Upd.trans ?_ (by assumption))))).mono ?_
   rintro e w8 ⟨rfl, u8⟩
   refine hK.out _ _ ?_ (fun hHeld => ?_)
   case' refine_1 => (try dsimp only); exact HS.out _ (by (repeat (first | exact Upd.refl _ _ | assumption | refine Upd.alloc ?_ _ | refine Upd.drew ?_ | refine Upd.drewN ?_ _ | refine Upd.trans ?_ (by assumption))))
   clear hK K
   (try simp only [Act.put, zqd, zqe, zqf])
   (try simp only [Act.put, zqa, zqb, zqc, zqd, zqe, zqf])
   refine wpAnyH_take (i := 2) (v := ?_) rfl (by kernel_rfl) (by kernel_rfl) (by kernel_rfl) (fun _ _ _ h => h) (Or.inl ⟨by rfl, ?_⟩) (by assumption) ?_
   rotate_left
   . (intro w' hSw; (try dsimp only at hSw); go_simp; try with_reducible rfl)
   (try simp only [Act.put, zqa, zqb, zqc, zqd, zqe, zqf])
   refine wpAnyH_take (i := 3) (v := ?_) rfl (by kernel_rfl) (by kernel_rfl) (by kernel_rfl) (fun _ _ _ h => h) (Or.inl ⟨by rfl, ?_⟩) (by assumption) ?_
   rotate_left
   . (intro w' hSw; (try dsimp only at hSw); go_simp; try with_reducible rfl)
   (try simp only [Act.put, zqa, zqb, zqc, zqd, zqe, zqf])
   refine wpAnyH_take (i := 4) (v := ?_) rfl (by kernel_rfl) (by kernel_rfl) (by kernel_rfl) (fun _ _ _ h => h) (Or.inl ⟨by rfl, ?_⟩) (by assumption) ?_
   rotate_left
   . (intro w' hSw; (try dsimp only at hSw); go_simp; try with_reducible rfl)
   (try simp only [Act.put, zqa, zqb, zqc, zqd, zqe, zqf])
   refine wpAnyH_take (i := 5) (v := ?_) rfl (by kernel_rfl) (by kernel_rfl) (by kernel_rfl) (fun _ _ _ h => h) (Or.inl ⟨by rfl, ?_⟩) (by assumption) ?_
   rotate_left
   . (intro w' hSw; (try dsimp only at hSw); go_simp; try with_reducible rfl)
   (try simp only [Act.put, zqa, zqb, zqc, zqd, zqe, zqf])
   refine wpAnyH_ready (rs := [6]) (by kernel_rfl) (by simp) ?_
   refine AllReadyH.cons rfl (fun K hK => ?_) AllReadyH.nil
   go_simp
   refine (small_sp 1 _ (by omega)).mono ?_
   rintro e w9 ⟨v9, rfl, h9, u9⟩
   obtain ⟨A9, c9, rfl, _, _⟩ := id h9
   obtain ⟨m9, hm9⟩ : ∃ m, (ds 1).length = m := ⟨_, rfl⟩
   rw [hm9] at h9 ⊢
   clear hm9
   refine hK.out _ _ ?_ (fun hHeld => ?_)
   case' refine_1 => (try dsimp only); exact HS.out _ (by (repeat (first | exact Upd.refl _ _ | assumption | refine Upd.alloc ?_ _ | refine Upd.drew ?_ | refine Upd.drewN ?_ _ | refine Upd.trans ?_ (by assumption))))
   clear hK K
   (try simp only [Act.put, zqd, zqe, zqf])
   (try simp only [Act.put, zqa, zqb, zqc, zqd, zqe, zqf])
   refine wpAnyH_ready (rs := [7]) (by kernel_rfl) (by simp) ?_
   refine AllReadyH.cons rfl (fun K hK => ?_) AllReadyH.nil
   go_simp
   refine hK.out _ _ ?_ (fun hHeld => ?_)
   case' refine_1 => (try dsimp only); exact HS.out _ (by (repeat (first | exact Upd.refl _ _ | assumption | refine Upd.alloc ?_ _ | refine Upd.drew ?_ | refine Upd.drewN ?_ _ | refine Upd.trans ?_ (by assumption))))
   clear hK K
   (try simp only [Act.put, zqd, zqe, zqf])
   (try simp only [Act.put, zqa, zqb, zqc, zqd, zqe, zqf])
   refine wpAnyH_ready (rs := [8]) (by kernel_rfl) (by simp) ?_
   refine AllReadyH.cons rfl (fun K hK => ?_) AllReadyH.nil
   go_simp
   refine (KIS.out _ _ (by (repeat (first | exact Upd.refl _ _ | assumption | refine Upd.alloc ?_ _ | refine Upd.drew ?_ | refine Upd.drewN ?_ _ | refine Upd.trans ?_ (by assumption)))) (h9.upd (by (repeat (first | exact Upd.refl _ _ | assumption | refine Upd.alloc ?_ _ | refine Upd.drew ?_ | refine Upd.drewN ?_ _ | refine Upd.trans ?_ (by assumption)))))).mono ?_
   rintro e w10 ⟨rfl, u10⟩
   refine hK.out _ _ ?_ (fun hHeld => ?_)
   case' refine_1 => (try dsimp only); exact HS.out _ (by (repeat (first | exact Upd.refl _ _ | assumption | refine Upd.alloc ?_ _ | refine Upd.drew ?_ | refine Upd.drewN ?_ _ | refine Upd.trans ?_ (by assumption))))
   clear hK K
   (try simp only [Act.put, zqd, zqe, zqf])
   (try simp only [Act.put, zqa, zqb, zqc, zqd, zqe, zqf])
   refine wpAnyH_take (i := 9) (v := ?_) rfl (by kernel_rfl) (by kernel_rfl) (by kernel_rfl) (fun _ _ _ h => h) (Or.inl ⟨by rfl, ?_⟩) (by assumption) ?_
   rotate_left
   . (intro w' hSw; (try dsimp only at hSw); go_simp; try with_reducible rfl)
   (try simp only [Act.put, zqa, zqb, zqc, zqd, zqe, zqf])
   refine wpAnyH_take (i := 10) (v := ?_) rfl (by kernel_rfl) (by kernel_rfl) (by kernel_rfl) (fun _ _ _ h => h) (Or.inl ⟨by rfl, ?_⟩) (by assumption) ?_
   rotate_left
   . (intro w' hSw; (try dsimp only at hSw); go_simp; try with_reducible rfl)
   (try simp only [Act.put, zqa, zqb, zqc, zqd, zqe, zqf])
   have HU := Qq (H7.out.1.up.trans (show Upd NoF w7 w10 from (by (repeat (first | exact Upd.refl _ _ | assumption | refine Upd.alloc ?_ _ | refine Upd.drew ?_ | refine Upd.drewN ?_ _ | refine Upd.trans ?_ (by assumption))))))
   clear u8 u9 u10 h9
   refine wpAnyH_done (by kernel_rfl) ?_ _
   go_wp2_with fail
   go_ret
   exact ⟨rfl, HU.out⟩
   -- V]
  .
   have qb : ((mb : Int) == 0) = false := beq_eq_false_iff_ne.2 (by have := HAB.out.2.2.2.1; have := mt (ds_len_eq_zero (n := B.natAbs)).1 (by omega); omega)
   have HU := Qq H7.out.1.up
   clear hA0 hB0
   go_wp2_with fail
   go_ret
   exact ⟨rfl, HU.out⟩
end Go.Proofs.YthkklkjldpcbkaaGreatDoor
