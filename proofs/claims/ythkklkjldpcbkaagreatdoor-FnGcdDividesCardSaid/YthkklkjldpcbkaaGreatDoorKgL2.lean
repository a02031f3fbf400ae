/- For the claim of laws.FnGcdDivides: Lazy, LawGcdDivides. -/
import Derived.Deep.RegionHeld3
import Derived.Test.YthkklkjldpcbkaaGreatDoorKgG7
import Derived.Test.YthkklkjldpcbkaaGreatDoorKgB4
import Derived.Test.YthkklkjldpcbkaaGreatDoorKgD6
set_option linter.unusedVariables false
set_option linter.unusedSimpArgs false
namespace Go.Proofs.YthkklkjldpcbkaaGreatDoor
open Go
theorem wpAnyH_abs {P : Program} {md : Region.Mode} {ops : Array Oper} {Q : Exit → Act → World → Prop} {S : World → Prop} {n : Nat} {l : Array Bool} {a : Act} {w : World}
  (h : ∀ (F : Nat → Array Bool → Act → World → Prop) (a0 : Act), wpAnyH P md ops Q S = F → a = a0 → F n l a0 w) : wpAnyH P md ops Q S n l a w := h _ _ rfl rfl
end Go.Proofs.YthkklkjldpcbkaaGreatDoor
namespace Go.Proofs.YthkklkjldpcbkaaGreatDoor
open Go.RowKit
open List renaming getElem_toArray → qa, getElem_cons_zero → qb, getElem_cons_succ → qc, setIfInBounds_toArray → qd, set_cons_zero → qe, set_cons_succ → qf
set_option linter.unusedSimpArgs false
structure B3 (w wr : World) (g : Nat) (s1 s2 s3 : Bool) (A1 A2 A3 : Option Addr) (n1 n2 n3 c1 c2 c3 : Nat) : Prop where
 up : Upd NoF w wr
 b1 : BoxN wr g s1 A1 n1 c1
 b2 : BoxN wr (g + 1) s2 A2 n2 c2
 b3 : BoxN wr (g + 1 + 1) s3 A3 n3 c3
theorem B3.upd {w wr w' : World} {g : Nat} {s1 s2 s3 : Bool} {A1 A2 A3 : Option Addr} {n1 n2 n3 c1 c2 c3 : Nat} (h : B3 w wr g s1 s2 s3 A1 A2 A3 n1 n2 n3 c1 c2 c3) (u : Upd NoF wr w') : B3 w w' g s1 s2 s3 A1 A2 A3 n1 n2 n3 c1 c2 c3 := ⟨h.up.trans u, h.b1.upd u, h.b2.upd u, h.b3.upd u⟩
theorem B3.made (w : World) (s1 s2 s3 : Bool) (A1 A2 A3 : Option Addr) (n1 n2 n3 c1 c2 c3 : Nat) :
  B3 w (((w.alloc (.cells #[.bool s1, .slice A1 n1 c1] 24)).alloc (.cells #[.bool s2, .slice A2 n2 c2] 24)).alloc (.cells #[.bool s3, .slice A3 n3 c3] 24)) w.heap.size s1 s2 s3 A1 A2 A3 n1 n2 n3 c1 c2 c3 := by
 have b1 := BoxN.new w s1 A1 n1 c1
 obtain ⟨w1, hw1⟩ : ∃ w1, w.alloc (.cells #[.bool s1, .slice A1 n1 c1] 24) = w1 := ⟨_, rfl⟩
 have s1' : w1.heap.size = w.heap.size + 1 := by rw [← hw1]; simp
 have u1 : Upd NoF w w1 := by rw [← hw1]; exact (Upd.refl NoF w).alloc _
 rw [hw1] at b1 ⊢
 have b2 := BoxN.new w1 s2 A2 n2 c2
 obtain ⟨w2, hw2⟩ : ∃ w2, w1.alloc (.cells #[.bool s2, .slice A2 n2 c2] 24) = w2 := ⟨_, rfl⟩
 have s2' : w2.heap.size = w.heap.size + 1 + 1 := by rw [← hw2]; simp [s1']
 have u2 : Upd NoF w1 w2 := by rw [← hw2]; exact (Upd.refl NoF w1).alloc _
 rw [hw2, s1'] at b2
 rw [hw2]
 have b3 := BoxN.new w2 s3 A3 n3 c3
 rw [s2'] at b3
 have u3 : Upd NoF w2 (w2.alloc (.cells #[.bool s3, .slice A3 n3 c3] 24)) := (Upd.refl NoF w2).alloc _
 exact ⟨(u1.trans u2).trans u3, b1.upd (u2.trans u3), b2.upd u3, b3⟩
theorem gcd_tmod {a b : Nat} {A : Int} (h : A.natAbs = a) : A.tmod (Nat.gcd a b : Int) = 0 := by
 refine Int.tmod_eq_zero_of_dvd (Int.natAbs_dvd_natAbs.1 ?_)
 rw [Int.natAbs_natCast, h]
 exact Nat.gcd_dvd_left a b
theorem gcd_tmod2 {a b : Nat} {B : Int} (h : B.natAbs = b) : B.tmod (Nat.gcd a b : Int) = 0 := by
 refine Int.tmod_eq_zero_of_dvd (Int.natAbs_dvd_natAbs.1 ?_)
 rw [Int.natAbs_natCast, h]
 exact Nat.gcd_dvd_right a b
theorem gcd_mulC (A B C : Int) : (Nat.gcd (A * C).natAbs (B * C).natAbs : Int) = (Nat.gcd A.natAbs B.natAbs : Int) * (C.natAbs : Int) := by
 rw [Int.natAbs_mul, Int.natAbs_mul, Nat.gcd_mul_right, Int.natCast_mul]
theorem B2.made (w : World) (s1 s2 : Bool) (A1 A2 : Option Addr) (n1 n2 c1 c2 : Nat) : Upd NoF w ((w.alloc (.cells #[.bool s1, .slice A1 n1 c1] 24)).alloc (.cells #[.bool s2, .slice A2 n2 c2] 24)) ∧
  BoxN ((w.alloc (.cells #[.bool s1, .slice A1 n1 c1] 24)).alloc (.cells #[.bool s2, .slice A2 n2 c2] 24)) w.heap.size s1 A1 n1 c1 ∧ BoxN ((w.alloc (.cells #[.bool s1, .slice A1 n1 c1] 24)).alloc (.cells #[.bool s2, .slice A2 n2 c2] 24)) (w.heap.size + 1) s2 A2 n2 c2 := by
 have b2 := BoxN.new (w.alloc (.cells #[.bool s1, .slice A1 n1 c1] 24)) s2 A2 n2 c2
 rw [size_alloc] at b2
 exact ⟨((Upd.refl NoF w).alloc _).alloc _, (BoxN.new w s1 A1 n1 c1).upd ((Upd.refl NoF _).alloc _), b2⟩
theorem wstores {w wt : World} {g1 g2 g3 : Nat} {a0 a1 x0 x1 y0 y1 : Value} {v : Value} {G : Int} {sw : Bool} {Aw : Option Addr} {mw cw : Nat} (hu : Upd NoF w wt) (l1 : w.heap.size ≤ g1) (l2 : w.heap.size ≤ g2) (l3 : w.heap.size ≤ g3) (b1 : BoxN wt g1 false none 0 0) (b2 : BoxN wt g2 false none 0 0) (b3 : BoxN wt g3 false none 0 0) (h12 : g1 ≠ g2) (h13 : g1 ≠ g3) (h23 : g2 ≠ g3) (nv : NumI wt v G)
  (ha0 : a0 = .bool sw := by rfl) (ha1 : a1 = .slice Aw mw cw := by rfl) :
  ∃ w', w' = (((((wt.setCell ⟨g1, 0, none⟩ a0).setCell ⟨g1, 1, none⟩ a1).setCell ⟨g2, 0, none⟩ x0).setCell ⟨g2, 1, none⟩ x1).setCell ⟨g3, 0, none⟩ y0).setCell ⟨g3, 1, none⟩ y1 ∧ Upd NoF w w' ∧ BoxN w' g1 sw Aw mw cw ∧ NumI w' v G := by
 have x' := b2.v.far (k := g1) h12 a0 a1
 have y' := (b3.v.far (k := g1) h13 a0 a1).far (k := g2) h23 x0 x1
 have z' := ((b1.v.put a0 a1).far (k := g2) (Ne.symm h12) x0 x1).far (k := g3) (Ne.symm h13) y0 y1
 refine ⟨_, rfl, ?_, ⟨ha0 ▸ z'.c0, ha1 ▸ z'.c1⟩, ?_⟩
 · exact (((((hu.setCell (fun h => by omega) _).setCell (fun h => by omega) _).setCell (fun h => by omega) _).setCell (fun h => by omega) _).setCell (fun h => by omega) _).setCell (fun h => by omega) _
 · exact ((nv.store b1.c0 b1.c1 (fun _ _ h => by cases h) (fun _ _ h => by cases h)).store x'.c0 x'.c1 (fun _ _ h => by cases h) (fun _ _ h => by cases h)).store y'.c0 y'.c1 (fun _ _ h => by cases h) (fun _ _ h => by cases h)
theorem div40 (X Y : Nat) (h0 : Y ≠ 0) (h1 : (digs Y).length ≤ 39) (h2 : (digs X).length ≤ 100000) : DivAtT 40 X Y := by
 have h3 := G_mono (show (digs Y).length ≤ 39 from h1)
 have h4 : G 39 = 1849 := by decide
 exact divAtT_any h0 (fun _ h => by omega) (by omega) (by omega)
set_option maxRecDepth 1000000 in
set_option maxHeartbeats 3200000 in
theorem FnGcdDivides_any (v1 v2 v3 : Value) (n1 n2 n3 : Nat) (A B C : Int) (w : World) (hA : NumR w v1 n1 A) (hB : NumR w v2 n2 B) (hC : NumR w v3 n3 C) (hK : Thr w 40) (hD : DThr w 40) :
  Calls Tryz.prog 4 #[v1, v2, v3] w fun e w' => e = .returned (.bool true) ∧ Upd NoF w w' := by
 have HZ1 := Lib.hid (fun w' (u : Upd NoF w w') => zz_sp v1 n1 A w' (hA.upd u))
 have HZ2 := Lib.hid (fun w' (u : Upd NoF w w') => zz_sp v2 n2 B w' (hB.upd u))
 have HZ3 := Lib.hid (fun w' (u : Upd NoF w w') => zz_sp v3 n3 C w' (hC.upd u))
 have HG1 := Lib.hid (fun w' (u : Upd NoF w w') => big_sp v1 n1 A 12 w' (hA.upd u))
 have HG2 := Lib.hid (fun w' (u : Upd NoF w w') => big_sp v2 n2 B 12 w' (hB.upd u))
 have HG3 := Lib.hid (fun w' (u : Upd NoF w w') => big_sp v3 n3 C 8 w' (hC.upd u))
 have HN := Lib.hid (fun w' (u : Upd NoF w w') => And.intro (hA.upd u) (And.intro (hB.upd u) (And.intro (hC.upd u) (And.intro (hK.upd u (fun _ h => h)) (hD.upd u (fun _ h => h))))))
 have HL := Lib.hid (And.intro hA.len (And.intro hB.len hC.len))
 obtain ⟨s1, A1, k1, xs1, rfl, hA2⟩ := id hA
 obtain ⟨s2, A2, k2, xs2, rfl, hB2⟩ := id hB
 obtain ⟨s3, A3, k3, xs3, rfl, hC2⟩ := id hC
 clear hA hB hC hA2 hB2 hC2 hK hD
 have hfd : ∀ (b : Bool) (x : Value) (w : World), (Instr.field 32 (.agg #[.bool b, x]) 1).run Tryz.prog w = .ok x w := field_nat
 go_enter Tryz.func4, Tryz.ntmps4
 go_wp2_with fail
 have hb := B3.made w s1 s2 s3 A1 A2 A3 n1 n2 n3 k1 k2 k3
 obtain ⟨g, hg⟩ : ∃ g, w.heap.size = g := ⟨_, rfl⟩
 obtain ⟨w1, hw1⟩ : ∃ w1, (((w.alloc (.cells #[.bool s1, .slice A1 n1 k1] 24)).alloc (.cells #[.bool s2, .slice A2 n2 k2] 24)).alloc (.cells #[.bool s3, .slice A3 n3 k3] 24)) = w1 := ⟨_, rfl⟩
 rw [hg, hw1] at hb
 rw [hg, hw1]
 have H0 := Lib.hid hb
 clear hb hg hw1
 refine (HZ1.out w1 H0.out.up).mono ?_
 rintro e wqa1 ⟨rfl, uqa1⟩
 by_cases hz : 2147483647 < n1
 ·
  as_aux_lemma =>
  have q1 : decide (n1 ≤ 2147483647) = false := decide_eq_false (by omega)
  rw [q1]
  have HU := Lib.hid (H0.out.up.trans uqa1)
  clear uqa1
  go_wp2_with fail
  go_ret
  exact ⟨rfl, HU.out⟩
 have q1 : decide (n1 ≤ 2147483647) = true := decide_eq_true (by omega)
 rw [q1]
 have Ha1 := Lib.hid (H0.out.upd uqa1)
 have c0 := Ha1.out.b1.c0.cell
 have c1 := Ha1.out.b1.c1.cell
 have c2 := Ha1.out.b2.c0.cell
 have c3 := Ha1.out.b2.c1.cell
 have c4 := Ha1.out.b3.c0.cell
 have c5 := Ha1.out.b3.c1.cell
 clear uqa1 q1 hz
 go_wp2_with fail
 refine (HZ2.out wqa1 Ha1.out.up).mono ?_
 rintro e wqa2 ⟨rfl, uqa2⟩
 by_cases hz : 2147483647 < n2
 ·
  as_aux_lemma =>
  have q1 : decide (n2 ≤ 2147483647) = false := decide_eq_false (by omega)
  rw [q1]
  have HU := Lib.hid (Ha1.out.up.trans uqa2)
  clear uqa2
  go_wp2_with fail
  go_ret
  exact ⟨rfl, HU.out⟩
 have q1 : decide (n2 ≤ 2147483647) = true := decide_eq_true (by omega)
 rw [q1]
 have Ha2 := Lib.hid (Ha1.out.upd uqa2)
 have c0 := Ha2.out.b1.c0.cell
 have c1 := Ha2.out.b1.c1.cell
 have c2 := Ha2.out.b2.c0.cell
 have c3 := Ha2.out.b2.c1.cell
 have c4 := Ha2.out.b3.c0.cell
 have c5 := Ha2.out.b3.c1.cell
 clear uqa2 q1 hz
 go_wp2_with fail
 refine (HZ3.out wqa2 Ha2.out.up).mono ?_
 rintro e wqa3 ⟨rfl, uqa3⟩
 by_cases hz : 2147483647 < n3
 ·
  as_aux_lemma =>
  have q1 : decide (n3 ≤ 2147483647) = false := decide_eq_false (by omega)
  rw [q1]
  have HU := Lib.hid (Ha2.out.up.trans uqa3)
  clear uqa3
  go_wp2_with fail
  go_ret
  exact ⟨rfl, HU.out⟩
 have q1 : decide (n3 ≤ 2147483647) = true := decide_eq_true (by omega)
 rw [q1]
 have Ha3 := Lib.hid (Ha2.out.upd uqa3)
 have c0 := Ha3.out.b1.c0.cell
 have c1 := Ha3.out.b1.c1.cell
 have c2 := Ha3.out.b2.c0.cell
 have c3 := Ha3.out.b2.c1.cell
 have c4 := Ha3.out.b3.c0.cell
 have c5 := Ha3.out.b3.c1.cell
 clear uqa3 q1 hz
 go_wp2_with fail
 refine (HG1.out wqa3 Ha3.out.up).mono ?_
 rintro e wqb1 ⟨rfl, uqb1⟩
 by_cases hz : 12 < n1
 ·
  as_aux_lemma =>
  have q1 : decide (12 < n1) = true := decide_eq_true hz
  rw [q1]
  have HU := Lib.hid (Ha3.out.up.trans uqb1)
  clear uqb1
  go_wp2_with fail
  go_ret
  exact ⟨rfl, HU.out⟩
 have q1 : decide (12 < n1) = false := decide_eq_false hz
 rw [q1]
 have Hb1 := Lib.hid (Ha3.out.upd uqb1)
 have hn1 : n1 ≤ 12 := by omega
 have c0 := Hb1.out.b1.c0.cell
 have c1 := Hb1.out.b1.c1.cell
 have c2 := Hb1.out.b2.c0.cell
 have c3 := Hb1.out.b2.c1.cell
 have c4 := Hb1.out.b3.c0.cell
 have c5 := Hb1.out.b3.c1.cell
 clear uqb1 q1 hz
 go_wp2_with fail
 refine (HG2.out wqb1 Hb1.out.up).mono ?_
 rintro e wqb2 ⟨rfl, uqb2⟩
 by_cases hz : 12 < n2
 ·
  as_aux_lemma =>
  have q1 : decide (12 < n2) = true := decide_eq_true hz
  rw [q1]
  have HU := Lib.hid (Hb1.out.up.trans uqb2)
  clear uqb2
  go_wp2_with fail
  go_ret
  exact ⟨rfl, HU.out⟩
 have q1 : decide (12 < n2) = false := decide_eq_false hz
 rw [q1]
 have Hb2 := Lib.hid (Hb1.out.upd uqb2)
 have hn2 : n2 ≤ 12 := by omega
 have c0 := Hb2.out.b1.c0.cell
 have c1 := Hb2.out.b1.c1.cell
 have c2 := Hb2.out.b2.c0.cell
 have c3 := Hb2.out.b2.c1.cell
 have c4 := Hb2.out.b3.c0.cell
 have c5 := Hb2.out.b3.c1.cell
 clear uqb2 q1 hz
 go_wp2_with fail
 refine (HG3.out wqb2 Hb2.out.up).mono ?_
 rintro e wqb3 ⟨rfl, uqb3⟩
 by_cases hz : 8 < n3
 ·
  as_aux_lemma =>
  have q1 : decide (8 < n3) = true := decide_eq_true hz
  rw [q1]
  have HU := Lib.hid (Hb2.out.up.trans uqb3)
  clear uqb3
  go_wp2_with fail
  go_ret
  exact ⟨rfl, HU.out⟩
 have q1 : decide (8 < n3) = false := decide_eq_false hz
 rw [q1]
 have Hb3 := Lib.hid (Hb2.out.upd uqb3)
 have hn3 : n3 ≤ 8 := by omega
 have c0 := Hb3.out.b1.c0.cell
 have c1 := Hb3.out.b1.c1.cell
 have c2 := Hb3.out.b2.c0.cell
 have c3 := Hb3.out.b2.c1.cell
 have c4 := Hb3.out.b3.c0.cell
 have c5 := Hb3.out.b3.c1.cell
 clear uqb3 q1 hz
 go_wp2_with fail
 have HLL := Lib.hid (And.intro hn1 (And.intro hn2 hn3))
 have HGC := Lib.hid (fun (w' : World) (u : Upd NoF w w') => implGcd_any 40 40 _ _ n1 n2 A B w' (HN.out w' u).1 (HN.out w' u).2.1 (by have := HLL.out; omega) (by have := HLL.out; omega) (HN.out w' u).2.2.2.2 (HN.out w' u).2.2.2.1 (fun X Y h0 h1 h2 => div40 X Y h0 (by have := HLL.out; omega) (by omega)))
 clear hn1 hn2 hn3
 refine (HGC.out wqb3 Hb3.out.up).mono ?_
 rintro e wg1 ⟨vz, vx, vy, X, Y, rfl, _, nz, nx, ny, ug⟩
 obtain ⟨G, hG⟩ : ∃ G : Nat, Nat.gcd A.natAbs B.natAbs = G := ⟨_, rfl⟩
 rw [hG] at nz
 have HGE := Lib.hid hG
 obtain ⟨Az, cz, rfl, _, _⟩ := id nz
 obtain ⟨Ax, cx, rfl, _, _⟩ := id nx
 obtain ⟨Ay, cy, rfl, _, _⟩ := id ny
 rw [Int.natAbs_natCast] at nz ⊢
 obtain ⟨sz, hsz⟩ : ∃ s, decide ((G : Int) < 0) = s := ⟨_, rfl⟩
 obtain ⟨sx, hsx⟩ : ∃ s, decide (X < 0) = s := ⟨_, rfl⟩
 obtain ⟨sy, hsy⟩ : ∃ s, decide (Y < 0) = s := ⟨_, rfl⟩
 obtain ⟨mz, hmz⟩ : ∃ m, (digs G).length = m := ⟨_, rfl⟩
 obtain ⟨mx, hmx⟩ : ∃ m, (digs X.natAbs).length = m := ⟨_, rfl⟩
 obtain ⟨my, hmy⟩ : ∃ m, (digs Y.natAbs).length = m := ⟨_, rfl⟩
 rw [hsz, hmz] at nz ⊢
 rw [hsx, hmx, hsy, hmy]
 have hb2 := B3.made wg1 sz sx sy Az Ax Ay mz mx my cz cx cy
 have HMZ := Lib.hid hmz
 have H1 := Lib.hid (And.intro (Hb3.out.upd ug) nz)
 clear hG nz nx ny ug hsz hsx hsy hmz hmx hmy
 go_wp2_with fail
 obtain ⟨gz, hgz⟩ : ∃ g, wg1.heap.size = g := ⟨_, rfl⟩
 obtain ⟨w2, hw2⟩ : ∃ w2, (((wg1.alloc (.cells #[.bool sz, .slice Az mz cz] 24)).alloc (.cells #[.bool sx, .slice Ax mx cx] 24)).alloc (.cells #[.bool sy, .slice Ay my cy] 24)) = w2 := ⟨_, rfl⟩
 rw [hgz, hw2] at hb2
 rw [hgz, hw2]
 have H2 := Lib.hid (And.intro (H1.out.1.upd hb2.up) (And.intro (H1.out.2.upd hb2.up) hb2.b1))
 clear hb2 hgz hw2 H1
 have c6 := H2.out.2.2.c0.cell
 have c7 := H2.out.2.2.c1.cell
 have HM1 := Lib.hid (fun (w' : World) (u : Upd NoF w2 w') => implMul_num 40 _ _ n1 n3 A C w' (HN.out w' (H2.out.1.up.trans u)).2.2.2.1 (HN.out w' (H2.out.1.up.trans u)).1 (HN.out w' (H2.out.1.up.trans u)).2.2.1 (by have := HLL.out; omega) (by have := HLL.out; omega))
 have HM2 := Lib.hid (fun (w' : World) (u : Upd NoF w2 w') => implMul_num 40 _ _ n2 n3 B C w' (HN.out w' (H2.out.1.up.trans u)).2.2.2.1 (HN.out w' (H2.out.1.up.trans u)).2.1 (HN.out w' (H2.out.1.up.trans u)).2.2.1 (by have := HLL.out; omega) (by have := HLL.out; omega))
 have hl1 : (digs (A * C).natAbs).length ≤ 20 := by
  rw [Int.natAbs_mul]
  have := digs_mul_len A.natAbs C.natAbs
  have := HL.out; have := HLL.out; omega
 have hl2 : (digs (B * C).natAbs).length ≤ 20 := by
  rw [Int.natAbs_mul]
  have := digs_mul_len B.natAbs C.natAbs
  have := HL.out; have := HLL.out; omega
 have HGC2 := Lib.hid (fun (w' : World) (u : Upd NoF w2 w') (v1 v2 : Value) (h1 : NumI w' v1 (A * C)) (h2 : NumI w' v2 (B * C)) => implGcd_any 40 40 v1 v2 _ _ (A * C) (B * C) w' (h1.raw (by omega)) (h2.raw (by omega)) (by omega) (by omega) (HN.out w' (H2.out.1.up.trans u)).2.2.2.2 (HN.out w' (H2.out.1.up.trans u)).2.2.2.1 (fun X Y h0 h1 h2 => div40 X Y h0 (by omega) (by omega)))
 clear hl1 hl2
 have HS := Lib.hid (fun (w' : World) (u : Upd NoF w2 w') => (show w'.cell? ⟨g, 0, none⟩ = some (.bool s1) ∧ w'.cell? ⟨g, 1, none⟩ = some (.slice A1 n1 k1) ∧ w'.cell? ⟨g + 1, 0, none⟩ = some (.bool s2) ∧ w'.cell? ⟨g + 1, 1, none⟩ = some (.slice A2 n2 k2) ∧ w'.cell? ⟨g + 1 + 1, 0, none⟩ = some (.bool s3) ∧ w'.cell? ⟨g + 1 + 1, 1, none⟩ = some (.slice A3 n3 k3) from
  ⟨(H2.out.1.upd u).b1.c0.cell, (H2.out.1.upd u).b1.c1.cell, (H2.out.1.upd u).b2.c0.cell, (H2.out.1.upd u).b2.c1.cell, (H2.out.1.upd u).b3.c0.cell, (H2.out.1.upd u).b3.c1.cell⟩))
 go_upto_region 6 with fail
 go_cut [10] (fun p wx => ∃ (gw : Nat) (sw : Bool) (Aw : Option Addr) (mw cw : Nat), p = .pointer (some ⟨gw, 0, none⟩) ∧ Hid (Upd NoF w2 wx ∧ BoxN wx gw sw Aw mw cw ∧ NumI wx (.agg #[.bool sw, .slice Aw mw cw]) (Nat.gcd (A * C).natAbs (B * C).natAbs : Int)))
 case first =>
  -- [R
  refine wp_region_held_drew (S := (fun w' => w'.cell? ⟨g, 0, none⟩ = some (.bool s1) ∧ w'.cell? ⟨g, 1, none⟩ = some (.slice A1 n1 k1) ∧ w'.cell? ⟨g + 1, 0, none⟩ = some (.bool s2) ∧ w'.cell? ⟨g + 1, 1, none⟩ = some (.slice A2 n2 k2) ∧ w'.cell? ⟨g + 1 + 1, 0, none⟩ = some (.bool s3) ∧ w'.cell? ⟨g + 1 + 1, 1, none⟩ = some (.slice A3 n3 k3))) (by kernel_rfl) (by exact HS.out _ (by (repeat (first | exact Upd.refl _ _ | assumption | refine Upd.alloc ?_ _ | refine Upd.drew ?_ | refine Upd.drewN ?_ _ | refine Upd.trans ?_ (by assumption))))) (fun hHeld => ?_)
  refine wpAnyH_take (i := 0) (v := ?_) rfl (by kernel_rfl) (by kernel_rfl) (by kernel_rfl) (fun _ _ _ h => h) (Or.inl ⟨by rfl, ?_⟩) (by assumption) ?_
  rotate_left
  · (intro w' hSw; (try dsimp only at hSw); go_simp; try with_reducible rfl)
  (try simp only [Act.put, qa, qb, qc, qd, qe, qf])
  refine wpAnyH_take (i := 1) (v := ?_) rfl (by kernel_rfl) (by kernel_rfl) (by kernel_rfl) (fun _ _ _ h => h) (Or.inl ⟨by rfl, ?_⟩) (by assumption) ?_
  rotate_left
  · (intro w' hSw; (try dsimp only at hSw); go_simp; try with_reducible rfl)
  (try simp only [Act.put, qa, qb, qc, qd, qe, qf])
  refine wpAnyH_take (i := 3) (v := ?_) rfl (by kernel_rfl) (by kernel_rfl) (by kernel_rfl) (fun _ _ _ h => h) (Or.inl ⟨by rfl, ?_⟩) (by assumption) ?_
  rotate_left
  · (intro w' hSw; (try dsimp only at hSw); go_simp; try with_reducible rfl)
  (try simp only [Act.put, qa, qb, qc, qd, qe, qf])
  refine wpAnyH_take (i := 4) (v := ?_) rfl (by kernel_rfl) (by kernel_rfl) (by kernel_rfl) (fun _ _ _ h => h) (Or.inl ⟨by rfl, ?_⟩) (by assumption) ?_
  rotate_left
  · (intro w' hSw; (try dsimp only at hSw); go_simp; try with_reducible rfl)
  (try simp only [Act.put, qa, qb, qc, qd, qe, qf])
  refine wpAnyH_abs (fun F a0 hF ha0 => ?_)
  clear c0 c1 c2 c3 c4 c5 c6 c7
  have N3_111213 : ∀ (g11 : Nat) (g12 : Nat) (g13 : Nat) (va vb : Value) (sw sx2 sy2 : Bool) (Aw Ax2 Ay2 : Option Addr) (mw mx2 my2 cw cx2 cy2 : Nat) (w' : World) (hu : Upd NoF w2 w') (b11 : BoxN w' g11 false none 0 0) (l11 : w2.heap.size ≤ g11) (b12 : BoxN w' g12 false none 0 0) (l12 : w2.heap.size ≤ g12) (b13 : BoxN w' g13 false none 0 0) (l13 : w2.heap.size ≤ g13) (d11_12 : g11 ≠ g12) (d11_13 : g11 ≠ g13) (d12_13 : g12 ≠ g13) (nw : NumI w' (.agg #[.bool sw, .slice Aw mw cw]) (Nat.gcd (A * C).natAbs (B * C).natAbs : Int)), F 3 #[true, true, true, true, true, true, true, true, true, true, true, true, true, true, false, false, false] (Act.put (Act.put (Act.put (Act.put (Act.put (Act.put (Act.put (Act.put (Act.put (Act.put a0 (some 10) (.pointer (some ⟨g11, 0, none⟩))) (some 11) (.pointer (some ⟨g12, 0, none⟩))) (some 12) (.pointer (some ⟨g13, 0, none⟩))) (some 53) (va)) (some 56) (vb)) (some 57) (.tuple #[.agg #[.bool sw, .slice Aw mw cw], .agg #[.bool sx2, .slice Ax2 mx2 cx2], .agg #[.bool sy2, .slice Ay2 my2 cy2]])) (some 50) (.tuple #[.agg #[.bool sw, .slice Aw mw cw], .agg #[.bool sx2, .slice Ax2 mx2 cx2], .agg #[.bool sy2, .slice Ay2 my2 cy2]])) (some 58) (.agg #[.bool sw, .slice Aw mw cw])) (some 59) (.agg #[.bool sx2, .slice Ax2 mx2 cx2])) (some 60) (.agg #[.bool sy2, .slice Ay2 my2 cy2])) w' := by
   as_aux_lemma =>
   intro g11 g12 g13 va vb sw sx2 sy2 Aw Ax2 Ay2 mw mx2 my2 cw cx2 cy2 w' hu b11 l11 b12 l12 b13 l13 d11_12 d11_13 d12_13 nw
   subst ha0
   rw [← hF]
   (try simp only [Act.put, qa, qb, qc, qd, qe, qf])
   have e1 := b11.c0.cell
   have e2 := b11.c1.cell
   have e3 := b11.c0.frozen
   have e4 := b11.c1.frozen
   have x1 := b12.c0.cell
   have x2 := b12.c1.cell
   have x3 := b12.c0.frozen
   have x4 := b12.c1.frozen
   have y1 := b13.c0.cell
   have y2 := b13.c1.cell
   have y3 := b13.c0.frozen
   have y4 := b13.c1.frozen
   have hne1 := Ne.symm d11_12
   have hne2 := Ne.symm d11_13
   have hne3 := Ne.symm d12_13
   obtain ⟨wf, hwf, f1, f2⟩ := wstores (w := w2) (a0 := .bool sw) (a1 := .slice Aw mw cw) (x0 := .bool sx2) (x1 := .slice Ax2 mx2 cx2) (y0 := .bool sy2) (y1 := .slice Ay2 my2 cy2) hu l11 l12 l13 b11 b12 b13 d11_12 d11_13 d12_13 nw
   have HWF := Lib.hid (And.intro hwf (And.intro f1 f2))
   have HB3 := Lib.hid (And.intro hu (And.intro l11 (And.intro l12 l13)))
   clear hwf f1 f2 nw b11 b12 b13 hu
   refine wpAnyH_ready (rs := [14]) (by kernel_rfl) (by simp) ?_
   refine AllReadyH.cons rfl (fun K hK => ?_) AllReadyH.nil
   go_simp
   refine hK.out _ _ ?_ (fun hHeld => ?_)
   case' refine_1 => (try dsimp only); exact HS.out _ ((HB3.out.1.setCell (fun h => by have := HB3.out.2.1; omega) _).setCell (fun h => by have := HB3.out.2.1; omega) _)
   clear hK K
   (try simp only [Act.put, qa, qb, qc, qd, qe, qf])
   refine wpAnyH_ready (rs := [15]) (by kernel_rfl) (by simp) ?_
   refine AllReadyH.cons rfl (fun K hK => ?_) AllReadyH.nil
   go_simp
   refine hK.out _ _ ?_ (fun hHeld => ?_)
   case' refine_1 => (try dsimp only); exact HS.out _ ((((HB3.out.1.setCell (fun h => by have := HB3.out.2.1; omega) _).setCell (fun h => by have := HB3.out.2.1; omega) _).setCell (fun h => by have := HB3.out.2.2.1; omega) _).setCell (fun h => by have := HB3.out.2.2.1; omega) _)
   clear hK K
   (try simp only [Act.put, qa, qb, qc, qd, qe, qf])
   refine wpAnyH_ready (rs := [16]) (by kernel_rfl) (by simp) ?_
   refine AllReadyH.cons rfl (fun K hK => ?_) AllReadyH.nil
   go_simp
   refine hK.out _ _ ?_ (fun hHeld => ?_)
   case' refine_1 => (try dsimp only); exact HS.out _ ((((((HB3.out.1.setCell (fun h => by have := HB3.out.2.1; omega) _).setCell (fun h => by have := HB3.out.2.1; omega) _).setCell (fun h => by have := HB3.out.2.2.1; omega) _).setCell (fun h => by have := HB3.out.2.2.1; omega) _).setCell (fun h => by have := HB3.out.2.2.2; omega) _).setCell (fun h => by have := HB3.out.2.2.2; omega) _)
   clear hK K
   (try simp only [Act.put, qa, qb, qc, qd, qe, qf])
   refine wpAnyH_done (by kernel_rfl) ?_ _
   rw [← HWF.out.1]
   go_wp2_with fail
   go_meet
   case rel => exact ⟨_, sw, Aw, mw, cw, rfl, HWF.out.2⟩
  have N3_1112 : ∀ (g11 : Nat) (g12 : Nat) (va vb : Value) (sw sx2 sy2 : Bool) (Aw Ax2 Ay2 : Option Addr) (mw mx2 my2 cw cx2 cy2 : Nat) (w' : World) (hu : Upd NoF w2 w') (b11 : BoxN w' g11 false none 0 0) (l11 : w2.heap.size ≤ g11) (b12 : BoxN w' g12 false none 0 0) (l12 : w2.heap.size ≤ g12) (d11_12 : g11 ≠ g12) (nw : NumI w' (.agg #[.bool sw, .slice Aw mw cw]) (Nat.gcd (A * C).natAbs (B * C).natAbs : Int)), F 4 #[true, true, true, true, true, true, true, true, true, true, true, true, true, false, false, false, false] (Act.put (Act.put (Act.put (Act.put (Act.put (Act.put (Act.put (Act.put (Act.put a0 (some 10) (.pointer (some ⟨g11, 0, none⟩))) (some 11) (.pointer (some ⟨g12, 0, none⟩))) (some 53) (va)) (some 56) (vb)) (some 57) (.tuple #[.agg #[.bool sw, .slice Aw mw cw], .agg #[.bool sx2, .slice Ax2 mx2 cx2], .agg #[.bool sy2, .slice Ay2 my2 cy2]])) (some 50) (.tuple #[.agg #[.bool sw, .slice Aw mw cw], .agg #[.bool sx2, .slice Ax2 mx2 cx2], .agg #[.bool sy2, .slice Ay2 my2 cy2]])) (some 58) (.agg #[.bool sw, .slice Aw mw cw])) (some 59) (.agg #[.bool sx2, .slice Ax2 mx2 cx2])) (some 60) (.agg #[.bool sy2, .slice Ay2 my2 cy2])) w' := by
   as_aux_lemma =>
   intro g11 g12 va vb sw sx2 sy2 Aw Ax2 Ay2 mw mx2 my2 cw cx2 cy2 w' hu b11 l11 b12 l12 d11_12 nw
   subst ha0
   rw [← hF]
   (try simp only [Act.put, qa, qb, qc, qd, qe, qf])
   refine wpAnyH_ready (rs := [13]) (by kernel_rfl) (by simp) ?_
   refine AllReadyH.cons rfl (fun K hK => ?_) AllReadyH.nil
   go_simp
   refine hK.out _ _ ?_ (fun hHeld => ?_)
   case' refine_1 => (try dsimp only); exact HS.out _ (hu.alloc _)
   rw [hF]
   have hn := N3_111213 g11 g12 w'.heap.size va vb sw sx2 sy2 Aw Ax2 Ay2 mw mx2 my2 cw cx2 cy2 (w'.alloc (.cells #[.bool false, .slice none 0 0] 24)) (hu.alloc _) (b11.upd ((Upd.refl NoF w').alloc _)) l11 (b12.upd ((Upd.refl NoF w').alloc _)) l12 (BoxN.new w' false none 0 0) hu.size d11_12 (by have := b11.c0.lt; omega) (by have := b12.c0.lt; omega) (nw.upd ((Upd.refl NoF w').alloc _))
   (try simp only [Act.put, qa, qb, qc, qd, qe, qf] at hn ⊢)
   exact hn
  have N3_1113 : ∀ (g11 : Nat) (g13 : Nat) (va vb : Value) (sw sx2 sy2 : Bool) (Aw Ax2 Ay2 : Option Addr) (mw mx2 my2 cw cx2 cy2 : Nat) (w' : World) (hu : Upd NoF w2 w') (b11 : BoxN w' g11 false none 0 0) (l11 : w2.heap.size ≤ g11) (b13 : BoxN w' g13 false none 0 0) (l13 : w2.heap.size ≤ g13) (d11_13 : g11 ≠ g13) (nw : NumI w' (.agg #[.bool sw, .slice Aw mw cw]) (Nat.gcd (A * C).natAbs (B * C).natAbs : Int)), F 4 #[true, true, true, true, true, true, true, true, true, true, true, true, false, true, false, false, false] (Act.put (Act.put (Act.put (Act.put (Act.put (Act.put (Act.put (Act.put (Act.put a0 (some 10) (.pointer (some ⟨g11, 0, none⟩))) (some 12) (.pointer (some ⟨g13, 0, none⟩))) (some 53) (va)) (some 56) (vb)) (some 57) (.tuple #[.agg #[.bool sw, .slice Aw mw cw], .agg #[.bool sx2, .slice Ax2 mx2 cx2], .agg #[.bool sy2, .slice Ay2 my2 cy2]])) (some 50) (.tuple #[.agg #[.bool sw, .slice Aw mw cw], .agg #[.bool sx2, .slice Ax2 mx2 cx2], .agg #[.bool sy2, .slice Ay2 my2 cy2]])) (some 58) (.agg #[.bool sw, .slice Aw mw cw])) (some 59) (.agg #[.bool sx2, .slice Ax2 mx2 cx2])) (some 60) (.agg #[.bool sy2, .slice Ay2 my2 cy2])) w' := by
   as_aux_lemma =>
   intro g11 g13 va vb sw sx2 sy2 Aw Ax2 Ay2 mw mx2 my2 cw cx2 cy2 w' hu b11 l11 b13 l13 d11_13 nw
   subst ha0
   rw [← hF]
   (try simp only [Act.put, qa, qb, qc, qd, qe, qf])
   refine wpAnyH_ready (rs := [12]) (by kernel_rfl) (by simp) ?_
   refine AllReadyH.cons rfl (fun K hK => ?_) AllReadyH.nil
   go_simp
   refine hK.out _ _ ?_ (fun hHeld => ?_)
   case' refine_1 => (try dsimp only); exact HS.out _ (hu.alloc _)
   rw [hF]
   have hn := N3_111213 g11 w'.heap.size g13 va vb sw sx2 sy2 Aw Ax2 Ay2 mw mx2 my2 cw cx2 cy2 (w'.alloc (.cells #[.bool false, .slice none 0 0] 24)) (hu.alloc _) (b11.upd ((Upd.refl NoF w').alloc _)) l11 (BoxN.new w' false none 0 0) hu.size (b13.upd ((Upd.refl NoF w').alloc _)) l13 (by have := b11.c0.lt; omega) d11_13 (by have := b13.c0.lt; omega) (nw.upd ((Upd.refl NoF w').alloc _))
   (try simp only [Act.put, qa, qb, qc, qd, qe, qf] at hn ⊢)
   exact hn
  have N3_1213 : ∀ (g12 : Nat) (g13 : Nat) (va vb : Value) (sw sx2 sy2 : Bool) (Aw Ax2 Ay2 : Option Addr) (mw mx2 my2 cw cx2 cy2 : Nat) (w' : World) (hu : Upd NoF w2 w') (b12 : BoxN w' g12 false none 0 0) (l12 : w2.heap.size ≤ g12) (b13 : BoxN w' g13 false none 0 0) (l13 : w2.heap.size ≤ g13) (d12_13 : g12 ≠ g13) (nw : NumI w' (.agg #[.bool sw, .slice Aw mw cw]) (Nat.gcd (A * C).natAbs (B * C).natAbs : Int)), F 4 #[true, true, true, true, true, true, true, true, true, true, true, false, true, true, false, false, false] (Act.put (Act.put (Act.put (Act.put (Act.put (Act.put (Act.put (Act.put (Act.put a0 (some 11) (.pointer (some ⟨g12, 0, none⟩))) (some 12) (.pointer (some ⟨g13, 0, none⟩))) (some 53) (va)) (some 56) (vb)) (some 57) (.tuple #[.agg #[.bool sw, .slice Aw mw cw], .agg #[.bool sx2, .slice Ax2 mx2 cx2], .agg #[.bool sy2, .slice Ay2 my2 cy2]])) (some 50) (.tuple #[.agg #[.bool sw, .slice Aw mw cw], .agg #[.bool sx2, .slice Ax2 mx2 cx2], .agg #[.bool sy2, .slice Ay2 my2 cy2]])) (some 58) (.agg #[.bool sw, .slice Aw mw cw])) (some 59) (.agg #[.bool sx2, .slice Ax2 mx2 cx2])) (some 60) (.agg #[.bool sy2, .slice Ay2 my2 cy2])) w' := by
   as_aux_lemma =>
   intro g12 g13 va vb sw sx2 sy2 Aw Ax2 Ay2 mw mx2 my2 cw cx2 cy2 w' hu b12 l12 b13 l13 d12_13 nw
   subst ha0
   rw [← hF]
   (try simp only [Act.put, qa, qb, qc, qd, qe, qf])
   refine wpAnyH_ready (rs := [11]) (by kernel_rfl) (by simp) ?_
   refine AllReadyH.cons rfl (fun K hK => ?_) AllReadyH.nil
   go_simp
   refine hK.out _ _ ?_ (fun hHeld => ?_)
   case' refine_1 => (try dsimp only); exact HS.out _ (hu.alloc _)
   rw [hF]
   have hn := N3_111213 w'.heap.size g12 g13 va vb sw sx2 sy2 Aw Ax2 Ay2 mw mx2 my2 cw cx2 cy2 (w'.alloc (.cells #[.bool false, .slice none 0 0] 24)) (hu.alloc _) (BoxN.new w' false none 0 0) hu.size (b12.upd ((Upd.refl NoF w').alloc _)) l12 (b13.upd ((Upd.refl NoF w').alloc _)) l13 (by have := b12.c0.lt; omega) (by have := b13.c0.lt; omega) d12_13 (nw.upd ((Upd.refl NoF w').alloc _))
   (try simp only [Act.put, qa, qb, qc, qd, qe, qf] at hn ⊢)
   exact hn
  have N3_11 : ∀ (g11 : Nat) (va vb : Value) (sw sx2 sy2 : Bool) (Aw Ax2 Ay2 : Option Addr) (mw mx2 my2 cw cx2 cy2 : Nat) (w' : World) (hu : Upd NoF w2 w') (b11 : BoxN w' g11 false none 0 0) (l11 : w2.heap.size ≤ g11) (nw : NumI w' (.agg #[.bool sw, .slice Aw mw cw]) (Nat.gcd (A * C).natAbs (B * C).natAbs : Int)), F 5 #[true, true, true, true, true, true, true, true, true, true, true, true, false, false, false, false, false] (Act.put (Act.put (Act.put (Act.put (Act.put (Act.put (Act.put (Act.put a0 (some 10) (.pointer (some ⟨g11, 0, none⟩))) (some 53) (va)) (some 56) (vb)) (some 57) (.tuple #[.agg #[.bool sw, .slice Aw mw cw], .agg #[.bool sx2, .slice Ax2 mx2 cx2], .agg #[.bool sy2, .slice Ay2 my2 cy2]])) (some 50) (.tuple #[.agg #[.bool sw, .slice Aw mw cw], .agg #[.bool sx2, .slice Ax2 mx2 cx2], .agg #[.bool sy2, .slice Ay2 my2 cy2]])) (some 58) (.agg #[.bool sw, .slice Aw mw cw])) (some 59) (.agg #[.bool sx2, .slice Ax2 mx2 cx2])) (some 60) (.agg #[.bool sy2, .slice Ay2 my2 cy2])) w' := by
   as_aux_lemma =>
   intro g11 va vb sw sx2 sy2 Aw Ax2 Ay2 mw mx2 my2 cw cx2 cy2 w' hu b11 l11 nw
   subst ha0
   rw [← hF]
   (try simp only [Act.put, qa, qb, qc, qd, qe, qf])
   refine wpAnyH_ready (rs := [12, 13]) (by kernel_rfl) (by simp) ?_
   refine AllReadyH.cons rfl (fun K hK => ?_) ?_
   ·
    go_simp
    refine hK.out _ _ ?_ (fun hHeld => ?_)
    case' refine_1 => (try dsimp only); exact HS.out _ (hu.alloc _)
    rw [hF]
    have hn := N3_1112 g11 w'.heap.size va vb sw sx2 sy2 Aw Ax2 Ay2 mw mx2 my2 cw cx2 cy2 (w'.alloc (.cells #[.bool false, .slice none 0 0] 24)) (hu.alloc _) (b11.upd ((Upd.refl NoF w').alloc _)) l11 (BoxN.new w' false none 0 0) hu.size (by have := b11.c0.lt; omega) (nw.upd ((Upd.refl NoF w').alloc _))
    (try simp only [Act.put, qa, qb, qc, qd, qe, qf] at hn ⊢)
    exact hn
   refine AllReadyH.cons rfl (fun K hK => ?_) AllReadyH.nil
   go_simp
   refine hK.out _ _ ?_ (fun hHeld => ?_)
   case' refine_1 => (try dsimp only); exact HS.out _ (hu.alloc _)
   rw [hF]
   have hn := N3_1113 g11 w'.heap.size va vb sw sx2 sy2 Aw Ax2 Ay2 mw mx2 my2 cw cx2 cy2 (w'.alloc (.cells #[.bool false, .slice none 0 0] 24)) (hu.alloc _) (b11.upd ((Upd.refl NoF w').alloc _)) l11 (BoxN.new w' false none 0 0) hu.size (by have := b11.c0.lt; omega) (nw.upd ((Upd.refl NoF w').alloc _))
   (try simp only [Act.put, qa, qb, qc, qd, qe, qf] at hn ⊢)
   exact hn
  have N3_12 : ∀ (g12 : Nat) (va vb : Value) (sw sx2 sy2 : Bool) (Aw Ax2 Ay2 : Option Addr) (mw mx2 my2 cw cx2 cy2 : Nat) (w' : World) (hu : Upd NoF w2 w') (b12 : BoxN w' g12 false none 0 0) (l12 : w2.heap.size ≤ g12) (nw : NumI w' (.agg #[.bool sw, .slice Aw mw cw]) (Nat.gcd (A * C).natAbs (B * C).natAbs : Int)), F 5 #[true, true, true, true, true, true, true, true, true, true, true, false, true, false, false, false, false] (Act.put (Act.put (Act.put (Act.put (Act.put (Act.put (Act.put (Act.put a0 (some 11) (.pointer (some ⟨g12, 0, none⟩))) (some 53) (va)) (some 56) (vb)) (some 57) (.tuple #[.agg #[.bool sw, .slice Aw mw cw], .agg #[.bool sx2, .slice Ax2 mx2 cx2], .agg #[.bool sy2, .slice Ay2 my2 cy2]])) (some 50) (.tuple #[.agg #[.bool sw, .slice Aw mw cw], .agg #[.bool sx2, .slice Ax2 mx2 cx2], .agg #[.bool sy2, .slice Ay2 my2 cy2]])) (some 58) (.agg #[.bool sw, .slice Aw mw cw])) (some 59) (.agg #[.bool sx2, .slice Ax2 mx2 cx2])) (some 60) (.agg #[.bool sy2, .slice Ay2 my2 cy2])) w' := by
   as_aux_lemma =>
   intro g12 va vb sw sx2 sy2 Aw Ax2 Ay2 mw mx2 my2 cw cx2 cy2 w' hu b12 l12 nw
   subst ha0
   rw [← hF]
   (try simp only [Act.put, qa, qb, qc, qd, qe, qf])
   refine wpAnyH_ready (rs := [11, 13]) (by kernel_rfl) (by simp) ?_
   refine AllReadyH.cons rfl (fun K hK => ?_) ?_
   ·
    go_simp
    refine hK.out _ _ ?_ (fun hHeld => ?_)
    case' refine_1 => (try dsimp only); exact HS.out _ (hu.alloc _)
    rw [hF]
    have hn := N3_1112 w'.heap.size g12 va vb sw sx2 sy2 Aw Ax2 Ay2 mw mx2 my2 cw cx2 cy2 (w'.alloc (.cells #[.bool false, .slice none 0 0] 24)) (hu.alloc _) (BoxN.new w' false none 0 0) hu.size (b12.upd ((Upd.refl NoF w').alloc _)) l12 (by have := b12.c0.lt; omega) (nw.upd ((Upd.refl NoF w').alloc _))
    (try simp only [Act.put, qa, qb, qc, qd, qe, qf] at hn ⊢)
    exact hn
   refine AllReadyH.cons rfl (fun K hK => ?_) AllReadyH.nil
   go_simp
   refine hK.out _ _ ?_ (fun hHeld => ?_)
   case' refine_1 => (try dsimp only); exact HS.out _ (hu.alloc _)
   rw [hF]
   have hn := N3_1213 g12 w'.heap.size va vb sw sx2 sy2 Aw Ax2 Ay2 mw mx2 my2 cw cx2 cy2 (w'.alloc (.cells #[.bool false, .slice none 0 0] 24)) (hu.alloc _) (b12.upd ((Upd.refl NoF w').alloc _)) l12 (BoxN.new w' false none 0 0) hu.size (by have := b12.c0.lt; omega) (nw.upd ((Upd.refl NoF w').alloc _))
   (try simp only [Act.put, qa, qb, qc, qd, qe, qf] at hn ⊢)
   exact hn
  have N3_13 : ∀ (g13 : Nat) (va vb : Value) (sw sx2 sy2 : Bool) (Aw Ax2 Ay2 : Option Addr) (mw mx2 my2 cw cx2 cy2 : Nat) (w' : World) (hu : Upd NoF w2 w') (b13 : BoxN w' g13 false none 0 0) (l13 : w2.heap.size ≤ g13) (nw : NumI w' (.agg #[.bool sw, .slice Aw mw cw]) (Nat.gcd (A * C).natAbs (B * C).natAbs : Int)), F 5 #[true, true, true, true, true, true, true, true, true, true, true, false, false, true, false, false, false] (Act.put (Act.put (Act.put (Act.put (Act.put (Act.put (Act.put (Act.put a0 (some 12) (.pointer (some ⟨g13, 0, none⟩))) (some 53) (va)) (some 56) (vb)) (some 57) (.tuple #[.agg #[.bool sw, .slice Aw mw cw], .agg #[.bool sx2, .slice Ax2 mx2 cx2], .agg #[.bool sy2, .slice Ay2 my2 cy2]])) (some 50) (.tuple #[.agg #[.bool sw, .slice Aw mw cw], .agg #[.bool sx2, .slice Ax2 mx2 cx2], .agg #[.bool sy2, .slice Ay2 my2 cy2]])) (some 58) (.agg #[.bool sw, .slice Aw mw cw])) (some 59) (.agg #[.bool sx2, .slice Ax2 mx2 cx2])) (some 60) (.agg #[.bool sy2, .slice Ay2 my2 cy2])) w' := by
   as_aux_lemma =>
   intro g13 va vb sw sx2 sy2 Aw Ax2 Ay2 mw mx2 my2 cw cx2 cy2 w' hu b13 l13 nw
   subst ha0
   rw [← hF]
   (try simp only [Act.put, qa, qb, qc, qd, qe, qf])
   refine wpAnyH_ready (rs := [11, 12]) (by kernel_rfl) (by simp) ?_
   refine AllReadyH.cons rfl (fun K hK => ?_) ?_
   ·
    go_simp
    refine hK.out _ _ ?_ (fun hHeld => ?_)
    case' refine_1 => (try dsimp only); exact HS.out _ (hu.alloc _)
    rw [hF]
    have hn := N3_1113 w'.heap.size g13 va vb sw sx2 sy2 Aw Ax2 Ay2 mw mx2 my2 cw cx2 cy2 (w'.alloc (.cells #[.bool false, .slice none 0 0] 24)) (hu.alloc _) (BoxN.new w' false none 0 0) hu.size (b13.upd ((Upd.refl NoF w').alloc _)) l13 (by have := b13.c0.lt; omega) (nw.upd ((Upd.refl NoF w').alloc _))
    (try simp only [Act.put, qa, qb, qc, qd, qe, qf] at hn ⊢)
    exact hn
   refine AllReadyH.cons rfl (fun K hK => ?_) AllReadyH.nil
   go_simp
   refine hK.out _ _ ?_ (fun hHeld => ?_)
   case' refine_1 => (try dsimp only); exact HS.out _ (hu.alloc _)
   rw [hF]
   have hn := N3_1213 w'.heap.size g13 va vb sw sx2 sy2 Aw Ax2 Ay2 mw mx2 my2 cw cx2 cy2 (w'.alloc (.cells #[.bool false, .slice none 0 0] 24)) (hu.alloc _) (BoxN.new w' false none 0 0) hu.size (b13.upd ((Upd.refl NoF w').alloc _)) l13 (by have := b13.c0.lt; omega) (nw.upd ((Upd.refl NoF w').alloc _))
   (try simp only [Act.put, qa, qb, qc, qd, qe, qf] at hn ⊢)
   exact hn
  have N3_0 : ∀ (va vb : Value) (sw sx2 sy2 : Bool) (Aw Ax2 Ay2 : Option Addr) (mw mx2 my2 cw cx2 cy2 : Nat) (w' : World) (hu : Upd NoF w2 w') (nw : NumI w' (.agg #[.bool sw, .slice Aw mw cw]) (Nat.gcd (A * C).natAbs (B * C).natAbs : Int)), F 6 #[true, true, true, true, true, true, true, true, true, true, true, false, false, false, false, false, false] (Act.put (Act.put (Act.put (Act.put (Act.put (Act.put (Act.put a0 (some 53) (va)) (some 56) (vb)) (some 57) (.tuple #[.agg #[.bool sw, .slice Aw mw cw], .agg #[.bool sx2, .slice Ax2 mx2 cx2], .agg #[.bool sy2, .slice Ay2 my2 cy2]])) (some 50) (.tuple #[.agg #[.bool sw, .slice Aw mw cw], .agg #[.bool sx2, .slice Ax2 mx2 cx2], .agg #[.bool sy2, .slice Ay2 my2 cy2]])) (some 58) (.agg #[.bool sw, .slice Aw mw cw])) (some 59) (.agg #[.bool sx2, .slice Ax2 mx2 cx2])) (some 60) (.agg #[.bool sy2, .slice Ay2 my2 cy2])) w' := by
   as_aux_lemma =>
   intro va vb sw sx2 sy2 Aw Ax2 Ay2 mw mx2 my2 cw cx2 cy2 w' hu nw
   subst ha0
   rw [← hF]
   (try simp only [Act.put, qa, qb, qc, qd, qe, qf])
   refine wpAnyH_ready (rs := [11, 12, 13]) (by kernel_rfl) (by simp) ?_
   refine AllReadyH.cons rfl (fun K hK => ?_) ?_
   ·
    go_simp
    refine hK.out _ _ ?_ (fun hHeld => ?_)
    case' refine_1 => (try dsimp only); exact HS.out _ (hu.alloc _)
    rw [hF]
    have hn := N3_11 w'.heap.size va vb sw sx2 sy2 Aw Ax2 Ay2 mw mx2 my2 cw cx2 cy2 (w'.alloc (.cells #[.bool false, .slice none 0 0] 24)) (hu.alloc _) (BoxN.new w' false none 0 0) hu.size (nw.upd ((Upd.refl NoF w').alloc _))
    (try simp only [Act.put, qa, qb, qc, qd, qe, qf] at hn ⊢)
    exact hn
   refine AllReadyH.cons rfl (fun K hK => ?_) ?_
   ·
    go_simp
    refine hK.out _ _ ?_ (fun hHeld => ?_)
    case' refine_1 => (try dsimp only); exact HS.out _ (hu.alloc _)
    rw [hF]
    have hn := N3_12 w'.heap.size va vb sw sx2 sy2 Aw Ax2 Ay2 mw mx2 my2 cw cx2 cy2 (w'.alloc (.cells #[.bool false, .slice none 0 0] 24)) (hu.alloc _) (BoxN.new w' false none 0 0) hu.size (nw.upd ((Upd.refl NoF w').alloc _))
    (try simp only [Act.put, qa, qb, qc, qd, qe, qf] at hn ⊢)
    exact hn
   refine AllReadyH.cons rfl (fun K hK => ?_) AllReadyH.nil
   go_simp
   refine hK.out _ _ ?_ (fun hHeld => ?_)
   case' refine_1 => (try dsimp only); exact HS.out _ (hu.alloc _)
   rw [hF]
   have hn := N3_13 w'.heap.size va vb sw sx2 sy2 Aw Ax2 Ay2 mw mx2 my2 cw cx2 cy2 (w'.alloc (.cells #[.bool false, .slice none 0 0] 24)) (hu.alloc _) (BoxN.new w' false none 0 0) hu.size (nw.upd ((Upd.refl NoF w').alloc _))
   (try simp only [Act.put, qa, qb, qc, qd, qe, qf] at hn ⊢)
   exact hn
  have N2_111213 : ∀ (g11 : Nat) (g12 : Nat) (g13 : Nat) (va : Value) (vb : Value) (w' : World) (hu : Upd NoF w2 w') (b11 : BoxN w' g11 false none 0 0) (l11 : w2.heap.size ≤ g11) (b12 : BoxN w' g12 false none 0 0) (l12 : w2.heap.size ≤ g12) (b13 : BoxN w' g13 false none 0 0) (l13 : w2.heap.size ≤ g13) (d11_12 : g11 ≠ g12) (d11_13 : g11 ≠ g13) (d12_13 : g12 ≠ g13) (na : NumI w' va (A * C)) (nb : NumI w' vb (B * C)), F 8 #[true, true, true, true, true, true, false, false, false, false, false, true, true, true, false, false, false] (Act.put (Act.put (Act.put (Act.put (Act.put a0 (some 10) (.pointer (some ⟨g11, 0, none⟩))) (some 11) (.pointer (some ⟨g12, 0, none⟩))) (some 12) (.pointer (some ⟨g13, 0, none⟩))) (some 53) (va)) (some 56) (vb)) w' := by
   as_aux_lemma =>
   intro g11 g12 g13 va vb w' hu b11 l11 b12 l12 b13 l13 d11_12 d11_13 d12_13 na nb
   subst ha0
   rw [← hF]
   (try simp only [Act.put, qa, qb, qc, qd, qe, qf])
   refine wpAnyH_ready (rs := [6]) (by kernel_rfl) (by simp) ?_
   refine AllReadyH.cons rfl (fun K hK => ?_) AllReadyH.nil
   go_simp
   refine (HGC2.out w' hu va vb na nb).mono ?_
   rintro e wc ⟨vw, vx2, vy2, X2, Y2, rfl, _, nw, nx2, ny2, uc⟩
   obtain ⟨Aw, cw, rfl, _, _⟩ := id nw
   obtain ⟨Ax2, cx2, rfl, _, _⟩ := nx2
   obtain ⟨Ay2, cy2, rfl, _, _⟩ := ny2
   generalize decide ((Nat.gcd (A * C).natAbs (B * C).natAbs : Int) < 0) = sw at nw ⊢
   generalize decide (X2 < 0) = sx2 at ⊢
   generalize decide (Y2 < 0) = sy2 at ⊢
   generalize (digs (Nat.gcd (A * C).natAbs (B * C).natAbs : Int).natAbs).length = mw at nw ⊢
   generalize (digs X2.natAbs).length = mx2 at ⊢
   generalize (digs Y2.natAbs).length = my2 at ⊢
   refine hK.out _ _ ?_ (fun hHeld => ?_)
   case' refine_1 => (try dsimp only); exact HS.out _ (hu.trans uc)
   clear hK K
   (try simp only [Act.put, qa, qb, qc, qd, qe, qf])
   refine wpAnyH_take (i := 7) (v := ?_) rfl (by kernel_rfl) (by kernel_rfl) (by kernel_rfl) (fun _ _ _ h => h) (Or.inl ⟨by rfl, ?_⟩) (by assumption) ?_
   rotate_left
   · (intro w' hSw; (try dsimp only at hSw); go_simp; try with_reducible rfl)
   (try simp only [Act.put, qa, qb, qc, qd, qe, qf])
   refine wpAnyH_take (i := 8) (v := ?_) rfl (by kernel_rfl) (by kernel_rfl) (by kernel_rfl) (fun _ _ _ h => h) (Or.inl ⟨by rfl, ?_⟩) (by assumption) ?_
   rotate_left
   · (intro w' hSw; (try dsimp only at hSw); go_simp; try with_reducible rfl)
   (try simp only [Act.put, qa, qb, qc, qd, qe, qf])
   refine wpAnyH_take (i := 9) (v := ?_) rfl (by kernel_rfl) (by kernel_rfl) (by kernel_rfl) (fun _ _ _ h => h) (Or.inl ⟨by rfl, ?_⟩) (by assumption) ?_
   rotate_left
   · (intro w' hSw; (try dsimp only at hSw); go_simp; try with_reducible rfl)
   (try simp only [Act.put, qa, qb, qc, qd, qe, qf])
   refine wpAnyH_take (i := 10) (v := ?_) rfl (by kernel_rfl) (by kernel_rfl) (by kernel_rfl) (fun _ _ _ h => h) (Or.inl ⟨by rfl, ?_⟩) (by assumption) ?_
   rotate_left
   · (intro w' hSw; (try dsimp only at hSw); go_simp; try with_reducible rfl)
   (try simp only [Act.put, qa, qb, qc, qd, qe, qf])
   rw [hF]
   have hn := N3_111213 g11 g12 g13 va vb sw sx2 sy2 Aw Ax2 Ay2 mw mx2 my2 cw cx2 cy2 wc (hu.trans uc) (b11.upd uc) l11 (b12.upd uc) l12 (b13.upd uc) l13 d11_12 d11_13 d12_13 nw
   (try simp only [Act.put, qa, qb, qc, qd, qe, qf] at hn ⊢)
   exact hn
  have N2_1112 : ∀ (g11 : Nat) (g12 : Nat) (va : Value) (vb : Value) (w' : World) (hu : Upd NoF w2 w') (b11 : BoxN w' g11 false none 0 0) (l11 : w2.heap.size ≤ g11) (b12 : BoxN w' g12 false none 0 0) (l12 : w2.heap.size ≤ g12) (d11_12 : g11 ≠ g12) (na : NumI w' va (A * C)) (nb : NumI w' vb (B * C)), F 9 #[true, true, true, true, true, true, false, false, false, false, false, true, true, false, false, false, false] (Act.put (Act.put (Act.put (Act.put a0 (some 10) (.pointer (some ⟨g11, 0, none⟩))) (some 11) (.pointer (some ⟨g12, 0, none⟩))) (some 53) (va)) (some 56) (vb)) w' := by
   as_aux_lemma =>
   intro g11 g12 va vb w' hu b11 l11 b12 l12 d11_12 na nb
   subst ha0
   rw [← hF]
   (try simp only [Act.put, qa, qb, qc, qd, qe, qf])
   refine wpAnyH_ready (rs := [6, 13]) (by kernel_rfl) (by simp) ?_
   refine AllReadyH.cons rfl (fun K hK => ?_) ?_
   ·
    go_simp
    refine (HGC2.out w' hu va vb na nb).mono ?_
    rintro e wc ⟨vw, vx2, vy2, X2, Y2, rfl, _, nw, nx2, ny2, uc⟩
    obtain ⟨Aw, cw, rfl, _, _⟩ := id nw
    obtain ⟨Ax2, cx2, rfl, _, _⟩ := nx2
    obtain ⟨Ay2, cy2, rfl, _, _⟩ := ny2
    generalize decide ((Nat.gcd (A * C).natAbs (B * C).natAbs : Int) < 0) = sw at nw ⊢
    generalize decide (X2 < 0) = sx2 at ⊢
    generalize decide (Y2 < 0) = sy2 at ⊢
    generalize (digs (Nat.gcd (A * C).natAbs (B * C).natAbs : Int).natAbs).length = mw at nw ⊢
    generalize (digs X2.natAbs).length = mx2 at ⊢
    generalize (digs Y2.natAbs).length = my2 at ⊢
    refine hK.out _ _ ?_ (fun hHeld => ?_)
    case' refine_1 => (try dsimp only); exact HS.out _ (hu.trans uc)
    clear hK K
    (try simp only [Act.put, qa, qb, qc, qd, qe, qf])
    refine wpAnyH_take (i := 7) (v := ?_) rfl (by kernel_rfl) (by kernel_rfl) (by kernel_rfl) (fun _ _ _ h => h) (Or.inl ⟨by rfl, ?_⟩) (by assumption) ?_
    rotate_left
    · (intro w' hSw; (try dsimp only at hSw); go_simp; try with_reducible rfl)
    (try simp only [Act.put, qa, qb, qc, qd, qe, qf])
    refine wpAnyH_take (i := 8) (v := ?_) rfl (by kernel_rfl) (by kernel_rfl) (by kernel_rfl) (fun _ _ _ h => h) (Or.inl ⟨by rfl, ?_⟩) (by assumption) ?_
    rotate_left
    · (intro w' hSw; (try dsimp only at hSw); go_simp; try with_reducible rfl)
    (try simp only [Act.put, qa, qb, qc, qd, qe, qf])
    refine wpAnyH_take (i := 9) (v := ?_) rfl (by kernel_rfl) (by kernel_rfl) (by kernel_rfl) (fun _ _ _ h => h) (Or.inl ⟨by rfl, ?_⟩) (by assumption) ?_
    rotate_left
    · (intro w' hSw; (try dsimp only at hSw); go_simp; try with_reducible rfl)
    (try simp only [Act.put, qa, qb, qc, qd, qe, qf])
    refine wpAnyH_take (i := 10) (v := ?_) rfl (by kernel_rfl) (by kernel_rfl) (by kernel_rfl) (fun _ _ _ h => h) (Or.inl ⟨by rfl, ?_⟩) (by assumption) ?_
    rotate_left
    · (intro w' hSw; (try dsimp only at hSw); go_simp; try with_reducible rfl)
    (try simp only [Act.put, qa, qb, qc, qd, qe, qf])
    rw [hF]
    have hn := N3_1112 g11 g12 va vb sw sx2 sy2 Aw Ax2 Ay2 mw mx2 my2 cw cx2 cy2 wc (hu.trans uc) (b11.upd uc) l11 (b12.upd uc) l12 d11_12 nw
    (try simp only [Act.put, qa, qb, qc, qd, qe, qf] at hn ⊢)
    exact hn
   refine AllReadyH.cons rfl (fun K hK => ?_) AllReadyH.nil
   go_simp
   refine hK.out _ _ ?_ (fun hHeld => ?_)
   case' refine_1 => (try dsimp only); exact HS.out _ (hu.alloc _)
   rw [hF]
   have hn := N2_111213 g11 g12 w'.heap.size va vb (w'.alloc (.cells #[.bool false, .slice none 0 0] 24)) (hu.alloc _) (b11.upd ((Upd.refl NoF w').alloc _)) l11 (b12.upd ((Upd.refl NoF w').alloc _)) l12 (BoxN.new w' false none 0 0) hu.size d11_12 (by have := b11.c0.lt; omega) (by have := b12.c0.lt; omega) (na.upd ((Upd.refl NoF w').alloc _)) (nb.upd ((Upd.refl NoF w').alloc _))
   (try simp only [Act.put, qa, qb, qc, qd, qe, qf] at hn ⊢)
   exact hn
  have N2_1113 : ∀ (g11 : Nat) (g13 : Nat) (va : Value) (vb : Value) (w' : World) (hu : Upd NoF w2 w') (b11 : BoxN w' g11 false none 0 0) (l11 : w2.heap.size ≤ g11) (b13 : BoxN w' g13 false none 0 0) (l13 : w2.heap.size ≤ g13) (d11_13 : g11 ≠ g13) (na : NumI w' va (A * C)) (nb : NumI w' vb (B * C)), F 9 #[true, true, true, true, true, true, false, false, false, false, false, true, false, true, false, false, false] (Act.put (Act.put (Act.put (Act.put a0 (some 10) (.pointer (some ⟨g11, 0, none⟩))) (some 12) (.pointer (some ⟨g13, 0, none⟩))) (some 53) (va)) (some 56) (vb)) w' := by
   as_aux_lemma =>
   intro g11 g13 va vb w' hu b11 l11 b13 l13 d11_13 na nb
   subst ha0
   rw [← hF]
   (try simp only [Act.put, qa, qb, qc, qd, qe, qf])
   refine wpAnyH_ready (rs := [6, 12]) (by kernel_rfl) (by simp) ?_
   refine AllReadyH.cons rfl (fun K hK => ?_) ?_
   ·
    go_simp
    refine (HGC2.out w' hu va vb na nb).mono ?_
    rintro e wc ⟨vw, vx2, vy2, X2, Y2, rfl, _, nw, nx2, ny2, uc⟩
    obtain ⟨Aw, cw, rfl, _, _⟩ := id nw
    obtain ⟨Ax2, cx2, rfl, _, _⟩ := nx2
    obtain ⟨Ay2, cy2, rfl, _, _⟩ := ny2
    generalize decide ((Nat.gcd (A * C).natAbs (B * C).natAbs : Int) < 0) = sw at nw ⊢
    generalize decide (X2 < 0) = sx2 at ⊢
    generalize decide (Y2 < 0) = sy2 at ⊢
    generalize (digs (Nat.gcd (A * C).natAbs (B * C).natAbs : Int).natAbs).length = mw at nw ⊢
    generalize (digs X2.natAbs).length = mx2 at ⊢
    generalize (digs Y2.natAbs).length = my2 at ⊢
    refine hK.out _ _ ?_ (fun hHeld => ?_)
    case' refine_1 => (try dsimp only); exact HS.out _ (hu.trans uc)
    clear hK K
    (try simp only [Act.put, qa, qb, qc, qd, qe, qf])
    refine wpAnyH_take (i := 7) (v := ?_) rfl (by kernel_rfl) (by kernel_rfl) (by kernel_rfl) (fun _ _ _ h => h) (Or.inl ⟨by rfl, ?_⟩) (by assumption) ?_
    rotate_left
    · (intro w' hSw; (try dsimp only at hSw); go_simp; try with_reducible rfl)
    (try simp only [Act.put, qa, qb, qc, qd, qe, qf])
    refine wpAnyH_take (i := 8) (v := ?_) rfl (by kernel_rfl) (by kernel_rfl) (by kernel_rfl) (fun _ _ _ h => h) (Or.inl ⟨by rfl, ?_⟩) (by assumption) ?_
    rotate_left
    · (intro w' hSw; (try dsimp only at hSw); go_simp; try with_reducible rfl)
    (try simp only [Act.put, qa, qb, qc, qd, qe, qf])
    refine wpAnyH_take (i := 9) (v := ?_) rfl (by kernel_rfl) (by kernel_rfl) (by kernel_rfl) (fun _ _ _ h => h) (Or.inl ⟨by rfl, ?_⟩) (by assumption) ?_
    rotate_left
    · (intro w' hSw; (try dsimp only at hSw); go_simp; try with_reducible rfl)
    (try simp only [Act.put, qa, qb, qc, qd, qe, qf])
    refine wpAnyH_take (i := 10) (v := ?_) rfl (by kernel_rfl) (by kernel_rfl) (by kernel_rfl) (fun _ _ _ h => h) (Or.inl ⟨by rfl, ?_⟩) (by assumption) ?_
    rotate_left
    · (intro w' hSw; (try dsimp only at hSw); go_simp; try with_reducible rfl)
    (try simp only [Act.put, qa, qb, qc, qd, qe, qf])
    rw [hF]
    have hn := N3_1113 g11 g13 va vb sw sx2 sy2 Aw Ax2 Ay2 mw mx2 my2 cw cx2 cy2 wc (hu.trans uc) (b11.upd uc) l11 (b13.upd uc) l13 d11_13 nw
    (try simp only [Act.put, qa, qb, qc, qd, qe, qf] at hn ⊢)
    exact hn
   refine AllReadyH.cons rfl (fun K hK => ?_) AllReadyH.nil
   go_simp
   refine hK.out _ _ ?_ (fun hHeld => ?_)
   case' refine_1 => (try dsimp only); exact HS.out _ (hu.alloc _)
   rw [hF]
   have hn := N2_111213 g11 w'.heap.size g13 va vb (w'.alloc (.cells #[.bool false, .slice none 0 0] 24)) (hu.alloc _) (b11.upd ((Upd.refl NoF w').alloc _)) l11 (BoxN.new w' false none 0 0) hu.size (b13.upd ((Upd.refl NoF w').alloc _)) l13 (by have := b11.c0.lt; omega) d11_13 (by have := b13.c0.lt; omega) (na.upd ((Upd.refl NoF w').alloc _)) (nb.upd ((Upd.refl NoF w').alloc _))
   (try simp only [Act.put, qa, qb, qc, qd, qe, qf] at hn ⊢)
   exact hn
  have N2_1213 : ∀ (g12 : Nat) (g13 : Nat) (va : Value) (vb : Value) (w' : World) (hu : Upd NoF w2 w') (b12 : BoxN w' g12 false none 0 0) (l12 : w2.heap.size ≤ g12) (b13 : BoxN w' g13 false none 0 0) (l13 : w2.heap.size ≤ g13) (d12_13 : g12 ≠ g13) (na : NumI w' va (A * C)) (nb : NumI w' vb (B * C)), F 9 #[true, true, true, true, true, true, false, false, false, false, false, false, true, true, false, false, false] (Act.put (Act.put (Act.put (Act.put a0 (some 11) (.pointer (some ⟨g12, 0, none⟩))) (some 12) (.pointer (some ⟨g13, 0, none⟩))) (some 53) (va)) (some 56) (vb)) w' := by
   as_aux_lemma =>
   intro g12 g13 va vb w' hu b12 l12 b13 l13 d12_13 na nb
   subst ha0
   rw [← hF]
   (try simp only [Act.put, qa, qb, qc, qd, qe, qf])
   refine wpAnyH_ready (rs := [6, 11]) (by kernel_rfl) (by simp) ?_
   refine AllReadyH.cons rfl (fun K hK => ?_) ?_
   ·
    go_simp
    refine (HGC2.out w' hu va vb na nb).mono ?_
    rintro e wc ⟨vw, vx2, vy2, X2, Y2, rfl, _, nw, nx2, ny2, uc⟩
    obtain ⟨Aw, cw, rfl, _, _⟩ := id nw
    obtain ⟨Ax2, cx2, rfl, _, _⟩ := nx2
    obtain ⟨Ay2, cy2, rfl, _, _⟩ := ny2
    generalize decide ((Nat.gcd (A * C).natAbs (B * C).natAbs : Int) < 0) = sw at nw ⊢
    generalize decide (X2 < 0) = sx2 at ⊢
    generalize decide (Y2 < 0) = sy2 at ⊢
    generalize (digs (Nat.gcd (A * C).natAbs (B * C).natAbs : Int).natAbs).length = mw at nw ⊢
    generalize (digs X2.natAbs).length = mx2 at ⊢
    generalize (digs Y2.natAbs).length = my2 at ⊢
    refine hK.out _ _ ?_ (fun hHeld => ?_)
    case' refine_1 => (try dsimp only); exact HS.out _ (hu.trans uc)
    clear hK K
    (try simp only [Act.put, qa, qb, qc, qd, qe, qf])
    refine wpAnyH_take (i := 7) (v := ?_) rfl (by kernel_rfl) (by kernel_rfl) (by kernel_rfl) (fun _ _ _ h => h) (Or.inl ⟨by rfl, ?_⟩) (by assumption) ?_
    rotate_left
    · (intro w' hSw; (try dsimp only at hSw); go_simp; try with_reducible rfl)
    (try simp only [Act.put, qa, qb, qc, qd, qe, qf])
    refine wpAnyH_take (i := 8) (v := ?_) rfl (by kernel_rfl) (by kernel_rfl) (by kernel_rfl) (fun _ _ _ h => h) (Or.inl ⟨by rfl, ?_⟩) (by assumption) ?_
    rotate_left
    · (intro w' hSw; (try dsimp only at hSw); go_simp; try with_reducible rfl)
    (try simp only [Act.put, qa, qb, qc, qd, qe, qf])
    refine wpAnyH_take (i := 9) (v := ?_) rfl (by kernel_rfl) (by kernel_rfl) (by kernel_rfl) (fun _ _ _ h => h) (Or.inl ⟨by rfl, ?_⟩) (by assumption) ?_
    rotate_left
    · (intro w' hSw; (try dsimp only at hSw); go_simp; try with_reducible rfl)
    (try simp only [Act.put, qa, qb, qc, qd, qe, qf])
    refine wpAnyH_take (i := 10) (v := ?_) rfl (by kernel_rfl) (by kernel_rfl) (by kernel_rfl) (fun _ _ _ h => h) (Or.inl ⟨by rfl, ?_⟩) (by assumption) ?_
    rotate_left
    · (intro w' hSw; (try dsimp only at hSw); go_simp; try with_reducible rfl)
    (try simp only [Act.put, qa, qb, qc, qd, qe, qf])
    rw [hF]
    have hn := N3_1213 g12 g13 va vb sw sx2 sy2 Aw Ax2 Ay2 mw mx2 my2 cw cx2 cy2 wc (hu.trans uc) (b12.upd uc) l12 (b13.upd uc) l13 d12_13 nw
    (try simp only [Act.put, qa, qb, qc, qd, qe, qf] at hn ⊢)
    exact hn
   refine AllReadyH.cons rfl (fun K hK => ?_) AllReadyH.nil
   go_simp
   refine hK.out _ _ ?_ (fun hHeld => ?_)
   case' refine_1 => (try dsimp only); exact HS.out _ (hu.alloc _)
   rw [hF]
   have hn := N2_111213 w'.heap.size g12 g13 va vb (w'.alloc (.cells #[.bool false, .slice none 0 0] 24)) (hu.alloc _) (BoxN.new w' false none 0 0) hu.size (b12.upd ((Upd.refl NoF w').alloc _)) l12 (b13.upd ((Upd.refl NoF w').alloc _)) l13 (by have := b12.c0.lt; omega) (by have := b13.c0.lt; omega) d12_13 (na.upd ((Upd.refl NoF w').alloc _)) (nb.upd ((Upd.refl NoF w').alloc _))
   (try simp only [Act.put, qa, qb, qc, qd, qe, qf] at hn ⊢)
   exact hn
  have N2_11 : ∀ (g11 : Nat) (va : Value) (vb : Value) (w' : World) (hu : Upd NoF w2 w') (b11 : BoxN w' g11 false none 0 0) (l11 : w2.heap.size ≤ g11) (na : NumI w' va (A * C)) (nb : NumI w' vb (B * C)), F 10 #[true, true, true, true, true, true, false, false, false, false, false, true, false, false, false, false, false] (Act.put (Act.put (Act.put a0 (some 10) (.pointer (some ⟨g11, 0, none⟩))) (some 53) (va)) (some 56) (vb)) w' := by
   as_aux_lemma =>
   intro g11 va vb w' hu b11 l11 na nb
   subst ha0
   rw [← hF]
   (try simp only [Act.put, qa, qb, qc, qd, qe, qf])
   refine wpAnyH_ready (rs := [6, 12, 13]) (by kernel_rfl) (by simp) ?_
   refine AllReadyH.cons rfl (fun K hK => ?_) ?_
   ·
    go_simp
    refine (HGC2.out w' hu va vb na nb).mono ?_
    rintro e wc ⟨vw, vx2, vy2, X2, Y2, rfl, _, nw, nx2, ny2, uc⟩
    obtain ⟨Aw, cw, rfl, _, _⟩ := id nw
    obtain ⟨Ax2, cx2, rfl, _, _⟩ := nx2
    obtain ⟨Ay2, cy2, rfl, _, _⟩ := ny2
    generalize decide ((Nat.gcd (A * C).natAbs (B * C).natAbs : Int) < 0) = sw at nw ⊢
    generalize decide (X2 < 0) = sx2 at ⊢
    generalize decide (Y2 < 0) = sy2 at ⊢
    generalize (digs (Nat.gcd (A * C).natAbs (B * C).natAbs : Int).natAbs).length = mw at nw ⊢
    generalize (digs X2.natAbs).length = mx2 at ⊢
    generalize (digs Y2.natAbs).length = my2 at ⊢
    refine hK.out _ _ ?_ (fun hHeld => ?_)
    case' refine_1 => (try dsimp only); exact HS.out _ (hu.trans uc)
    clear hK K
    (try simp only [Act.put, qa, qb, qc, qd, qe, qf])
    refine wpAnyH_take (i := 7) (v := ?_) rfl (by kernel_rfl) (by kernel_rfl) (by kernel_rfl) (fun _ _ _ h => h) (Or.inl ⟨by rfl, ?_⟩) (by assumption) ?_
    rotate_left
    · (intro w' hSw; (try dsimp only at hSw); go_simp; try with_reducible rfl)
    (try simp only [Act.put, qa, qb, qc, qd, qe, qf])
    refine wpAnyH_take (i := 8) (v := ?_) rfl (by kernel_rfl) (by kernel_rfl) (by kernel_rfl) (fun _ _ _ h => h) (Or.inl ⟨by rfl, ?_⟩) (by assumption) ?_
    rotate_left
    · (intro w' hSw; (try dsimp only at hSw); go_simp; try with_reducible rfl)
    (try simp only [Act.put, qa, qb, qc, qd, qe, qf])
    refine wpAnyH_take (i := 9) (v := ?_) rfl (by kernel_rfl) (by kernel_rfl) (by kernel_rfl) (fun _ _ _ h => h) (Or.inl ⟨by rfl, ?_⟩) (by assumption) ?_
    rotate_left
    · (intro w' hSw; (try dsimp only at hSw); go_simp; try with_reducible rfl)
    (try simp only [Act.put, qa, qb, qc, qd, qe, qf])
    refine wpAnyH_take (i := 10) (v := ?_) rfl (by kernel_rfl) (by kernel_rfl) (by kernel_rfl) (fun _ _ _ h => h) (Or.inl ⟨by rfl, ?_⟩) (by assumption) ?_
    rotate_left
    · (intro w' hSw; (try dsimp only at hSw); go_simp; try with_reducible rfl)
    (try simp only [Act.put, qa, qb, qc, qd, qe, qf])
    rw [hF]
    have hn := N3_11 g11 va vb sw sx2 sy2 Aw Ax2 Ay2 mw mx2 my2 cw cx2 cy2 wc (hu.trans uc) (b11.upd uc) l11 nw
    (try simp only [Act.put, qa, qb, qc, qd, qe, qf] at hn ⊢)
    exact hn
   refine AllReadyH.cons rfl (fun K hK => ?_) ?_
   ·
    go_simp
    refine hK.out _ _ ?_ (fun hHeld => ?_)
    case' refine_1 => (try dsimp only); exact HS.out _ (hu.alloc _)
    rw [hF]
    have hn := N2_1112 g11 w'.heap.size va vb (w'.alloc (.cells #[.bool false, .slice none 0 0] 24)) (hu.alloc _) (b11.upd ((Upd.refl NoF w').alloc _)) l11 (BoxN.new w' false none 0 0) hu.size (by have := b11.c0.lt; omega) (na.upd ((Upd.refl NoF w').alloc _)) (nb.upd ((Upd.refl NoF w').alloc _))
    (try simp only [Act.put, qa, qb, qc, qd, qe, qf] at hn ⊢)
    exact hn
   refine AllReadyH.cons rfl (fun K hK => ?_) AllReadyH.nil
   go_simp
   refine hK.out _ _ ?_ (fun hHeld => ?_)
   case' refine_1 => (try dsimp only); exact HS.out _ (hu.alloc _)
   rw [hF]
   have hn := N2_1113 g11 w'.heap.size va vb (w'.alloc (.cells #[.bool false, .slice none 0 0] 24)) (hu.alloc _) (b11.upd ((Upd.refl NoF w').alloc _)) l11 (BoxN.new w' false none 0 0) hu.size (by have := b11.c0.lt; omega) (na.upd ((Upd.refl NoF w').alloc _)) (nb.upd ((Upd.refl NoF w').alloc _))
   (try simp only [Act.put, qa, qb, qc, qd, qe, qf] at hn ⊢)
   exact hn
  have N2_12 : ∀ (g12 : Nat) (va : Value) (vb : Value) (w' : World) (hu : Upd NoF w2 w') (b12 : BoxN w' g12 false none 0 0) (l12 : w2.heap.size ≤ g12) (na : NumI w' va (A * C)) (nb : NumI w' vb (B * C)), F 10 #[true, true, true, true, true, true, false, false, false, false, false, false, true, false, false, false, false] (Act.put (Act.put (Act.put a0 (some 11) (.pointer (some ⟨g12, 0, none⟩))) (some 53) (va)) (some 56) (vb)) w' := by
   as_aux_lemma =>
   intro g12 va vb w' hu b12 l12 na nb
   subst ha0
   rw [← hF]
   (try simp only [Act.put, qa, qb, qc, qd, qe, qf])
   refine wpAnyH_ready (rs := [6, 11, 13]) (by kernel_rfl) (by simp) ?_
   refine AllReadyH.cons rfl (fun K hK => ?_) ?_
   ·
    go_simp
    refine (HGC2.out w' hu va vb na nb).mono ?_
    rintro e wc ⟨vw, vx2, vy2, X2, Y2, rfl, _, nw, nx2, ny2, uc⟩
    obtain ⟨Aw, cw, rfl, _, _⟩ := id nw
    obtain ⟨Ax2, cx2, rfl, _, _⟩ := nx2
    obtain ⟨Ay2, cy2, rfl, _, _⟩ := ny2
    generalize decide ((Nat.gcd (A * C).natAbs (B * C).natAbs : Int) < 0) = sw at nw ⊢
    generalize decide (X2 < 0) = sx2 at ⊢
    generalize decide (Y2 < 0) = sy2 at ⊢
    generalize (digs (Nat.gcd (A * C).natAbs (B * C).natAbs : Int).natAbs).length = mw at nw ⊢
    generalize (digs X2.natAbs).length = mx2 at ⊢
    generalize (digs Y2.natAbs).length = my2 at ⊢
    refine hK.out _ _ ?_ (fun hHeld => ?_)
    case' refine_1 => (try dsimp only); exact HS.out _ (hu.trans uc)
    clear hK K
    (try simp only [Act.put, qa, qb, qc, qd, qe, qf])
    refine wpAnyH_take (i := 7) (v := ?_) rfl (by kernel_rfl) (by kernel_rfl) (by kernel_rfl) (fun _ _ _ h => h) (Or.inl ⟨by rfl, ?_⟩) (by assumption) ?_
    rotate_left
    · (intro w' hSw; (try dsimp only at hSw); go_simp; try with_reducible rfl)
    (try simp only [Act.put, qa, qb, qc, qd, qe, qf])
    refine wpAnyH_take (i := 8) (v := ?_) rfl (by kernel_rfl) (by kernel_rfl) (by kernel_rfl) (fun _ _ _ h => h) (Or.inl ⟨by rfl, ?_⟩) (by assumption) ?_
    rotate_left
    · (intro w' hSw; (try dsimp only at hSw); go_simp; try with_reducible rfl)
    (try simp only [Act.put, qa, qb, qc, qd, qe, qf])
    refine wpAnyH_take (i := 9) (v := ?_) rfl (by kernel_rfl) (by kernel_rfl) (by kernel_rfl) (fun _ _ _ h => h) (Or.inl ⟨by rfl, ?_⟩) (by assumption) ?_
    rotate_left
    · (intro w' hSw; (try dsimp only at hSw); go_simp; try with_reducible rfl)
    (try simp only [Act.put, qa, qb, qc, qd, qe, qf])
    refine wpAnyH_take (i := 10) (v := ?_) rfl (by kernel_rfl) (by kernel_rfl) (by kernel_rfl) (fun _ _ _ h => h) (Or.inl ⟨by rfl, ?_⟩) (by assumption) ?_
    rotate_left
    · (intro w' hSw; (try dsimp only at hSw); go_simp; try with_reducible rfl)
    (try simp only [Act.put, qa, qb, qc, qd, qe, qf])
    rw [hF]
    have hn := N3_12 g12 va vb sw sx2 sy2 Aw Ax2 Ay2 mw mx2 my2 cw cx2 cy2 wc (hu.trans uc) (b12.upd uc) l12 nw
    (try simp only [Act.put, qa, qb, qc, qd, qe, qf] at hn ⊢)
    exact hn
   refine AllReadyH.cons rfl (fun K hK => ?_) ?_
   ·
    go_simp
    refine hK.out _ _ ?_ (fun hHeld => ?_)
    case' refine_1 => (try dsimp only); exact HS.out _ (hu.alloc _)
    rw [hF]
    have hn := N2_1112 w'.heap.size g12 va vb (w'.alloc (.cells #[.bool false, .slice none 0 0] 24)) (hu.alloc _) (BoxN.new w' false none 0 0) hu.size (b12.upd ((Upd.refl NoF w').alloc _)) l12 (by have := b12.c0.lt; omega) (na.upd ((Upd.refl NoF w').alloc _)) (nb.upd ((Upd.refl NoF w').alloc _))
    (try simp only [Act.put, qa, qb, qc, qd, qe, qf] at hn ⊢)
    exact hn
   refine AllReadyH.cons rfl (fun K hK => ?_) AllReadyH.nil
   go_simp
   refine hK.out _ _ ?_ (fun hHeld => ?_)
   case' refine_1 => (try dsimp only); exact HS.out _ (hu.alloc _)
   rw [hF]
   have hn := N2_1213 g12 w'.heap.size va vb (w'.alloc (.cells #[.bool false, .slice none 0 0] 24)) (hu.alloc _) (b12.upd ((Upd.refl NoF w').alloc _)) l12 (BoxN.new w' false none 0 0) hu.size (by have := b12.c0.lt; omega) (na.upd ((Upd.refl NoF w').alloc _)) (nb.upd ((Upd.refl NoF w').alloc _))
   (try simp only [Act.put, qa, qb, qc, qd, qe, qf] at hn ⊢)
   exact hn
  have N2_13 : ∀ (g13 : Nat) (va : Value) (vb : Value) (w' : World) (hu : Upd NoF w2 w') (b13 : BoxN w' g13 false none 0 0) (l13 : w2.heap.size ≤ g13) (na : NumI w' va (A * C)) (nb : NumI w' vb (B * C)), F 10 #[true, true, true, true, true, true, false, false, false, false, false, false, false, true, false, false, false] (Act.put (Act.put (Act.put a0 (some 12) (.pointer (some ⟨g13, 0, none⟩))) (some 53) (va)) (some 56) (vb)) w' := by
   as_aux_lemma =>
   intro g13 va vb w' hu b13 l13 na nb
   subst ha0
   rw [← hF]
   (try simp only [Act.put, qa, qb, qc, qd, qe, qf])
   refine wpAnyH_ready (rs := [6, 11, 12]) (by kernel_rfl) (by simp) ?_
   refine AllReadyH.cons rfl (fun K hK => ?_) ?_
   ·
    go_simp
    refine (HGC2.out w' hu va vb na nb).mono ?_
    rintro e wc ⟨vw, vx2, vy2, X2, Y2, rfl, _, nw, nx2, ny2, uc⟩
    obtain ⟨Aw, cw, rfl, _, _⟩ := id nw
    obtain ⟨Ax2, cx2, rfl, _, _⟩ := nx2
    obtain ⟨Ay2, cy2, rfl, _, _⟩ := ny2
    generalize decide ((Nat.gcd (A * C).natAbs (B * C).natAbs : Int) < 0) = sw at nw ⊢
    generalize decide (X2 < 0) = sx2 at ⊢
    generalize decide (Y2 < 0) = sy2 at ⊢
    generalize (digs (Nat.gcd (A * C).natAbs (B * C).natAbs : Int).natAbs).length = mw at nw ⊢
    generalize (digs X2.natAbs).length = mx2 at ⊢
    generalize (digs Y2.natAbs).length = my2 at ⊢
    refine hK.out _ _ ?_ (fun hHeld => ?_)
    case' refine_1 => (try dsimp only); exact HS.out _ (hu.trans uc)
    clear hK K
    (try simp only [Act.put, qa, qb, qc, qd, qe, qf])
    refine wpAnyH_take (i := 7) (v := ?_) rfl (by kernel_rfl) (by kernel_rfl) (by kernel_rfl) (fun _ _ _ h => h) (Or.inl ⟨by rfl, ?_⟩) (by assumption) ?_
    rotate_left
    · (intro w' hSw; (try dsimp only at hSw); go_simp; try with_reducible rfl)
    (try simp only [Act.put, qa, qb, qc, qd, qe, qf])
    refine wpAnyH_take (i := 8) (v := ?_) rfl (by kernel_rfl) (by kernel_rfl) (by kernel_rfl) (fun _ _ _ h => h) (Or.inl ⟨by rfl, ?_⟩) (by assumption) ?_
    rotate_left
    · (intro w' hSw; (try dsimp only at hSw); go_simp; try with_reducible rfl)
    (try simp only [Act.put, qa, qb, qc, qd, qe, qf])
    refine wpAnyH_take (i := 9) (v := ?_) rfl (by kernel_rfl) (by kernel_rfl) (by kernel_rfl) (fun _ _ _ h => h) (Or.inl ⟨by rfl, ?_⟩) (by assumption) ?_
    rotate_left
    · (intro w' hSw; (try dsimp only at hSw); go_simp; try with_reducible rfl)
    (try simp only [Act.put, qa, qb, qc, qd, qe, qf])
    refine wpAnyH_take (i := 10) (v := ?_) rfl (by kernel_rfl) (by kernel_rfl) (by kernel_rfl) (fun _ _ _ h => h) (Or.inl ⟨by rfl, ?_⟩) (by assumption) ?_
    rotate_left
    · (intro w' hSw; (try dsimp only at hSw); go_simp; try with_reducible rfl)
    (try simp only [Act.put, qa, qb, qc, qd, qe, qf])
    rw [hF]
    have hn := N3_13 g13 va vb sw sx2 sy2 Aw Ax2 Ay2 mw mx2 my2 cw cx2 cy2 wc (hu.trans uc) (b13.upd uc) l13 nw
    (try simp only [Act.put, qa, qb, qc, qd, qe, qf] at hn ⊢)
    exact hn
   refine AllReadyH.cons rfl (fun K hK => ?_) ?_
   ·
    go_simp
    refine hK.out _ _ ?_ (fun hHeld => ?_)
    case' refine_1 => (try dsimp only); exact HS.out _ (hu.alloc _)
    rw [hF]
    have hn := N2_1113 w'.heap.size g13 va vb (w'.alloc (.cells #[.bool false, .slice none 0 0] 24)) (hu.alloc _) (BoxN.new w' false none 0 0) hu.size (b13.upd ((Upd.refl NoF w').alloc _)) l13 (by have := b13.c0.lt; omega) (na.upd ((Upd.refl NoF w').alloc _)) (nb.upd ((Upd.refl NoF w').alloc _))
    (try simp only [Act.put, qa, qb, qc, qd, qe, qf] at hn ⊢)
    exact hn
   refine AllReadyH.cons rfl (fun K hK => ?_) AllReadyH.nil
   go_simp
   refine hK.out _ _ ?_ (fun hHeld => ?_)
   case' refine_1 => (try dsimp only); exact HS.out _ (hu.alloc _)
   rw [hF]
   have hn := N2_1213 w'.heap.size g13 va vb (w'.alloc (.cells #[.bool false, .slice none 0 0] 24)) (hu.alloc _) (BoxN.new w' false none 0 0) hu.size (b13.upd ((Upd.refl NoF w').alloc _)) l13 (by have := b13.c0.lt; omega) (na.upd ((Upd.refl NoF w').alloc _)) (nb.upd ((Upd.refl NoF w').alloc _))
   (try simp only [Act.put, qa, qb, qc, qd, qe, qf] at hn ⊢)
   exact hn
  have N2_0 : ∀ (va : Value) (vb : Value) (w' : World) (hu : Upd NoF w2 w') (na : NumI w' va (A * C)) (nb : NumI w' vb (B * C)), F 11 #[true, true, true, true, true, true, false, false, false, false, false, false, false, false, false, false, false] (Act.put (Act.put a0 (some 53) (va)) (some 56) (vb)) w' := by
   as_aux_lemma =>
   intro va vb w' hu na nb
   subst ha0
   rw [← hF]
   (try simp only [Act.put, qa, qb, qc, qd, qe, qf])
   refine wpAnyH_ready (rs := [6, 11, 12, 13]) (by kernel_rfl) (by simp) ?_
   refine AllReadyH.cons rfl (fun K hK => ?_) ?_
   ·
    go_simp
    refine (HGC2.out w' hu va vb na nb).mono ?_
    rintro e wc ⟨vw, vx2, vy2, X2, Y2, rfl, _, nw, nx2, ny2, uc⟩
    obtain ⟨Aw, cw, rfl, _, _⟩ := id nw
    obtain ⟨Ax2, cx2, rfl, _, _⟩ := nx2
    obtain ⟨Ay2, cy2, rfl, _, _⟩ := ny2
    generalize decide ((Nat.gcd (A * C).natAbs (B * C).natAbs : Int) < 0) = sw at nw ⊢
    generalize decide (X2 < 0) = sx2 at ⊢
    generalize decide (Y2 < 0) = sy2 at ⊢
    generalize (digs (Nat.gcd (A * C).natAbs (B * C).natAbs : Int).natAbs).length = mw at nw ⊢
    generalize (digs X2.natAbs).length = mx2 at ⊢
    generalize (digs Y2.natAbs).length = my2 at ⊢
    refine hK.out _ _ ?_ (fun hHeld => ?_)
    case' refine_1 => (try dsimp only); exact HS.out _ (hu.trans uc)
    clear hK K
    (try simp only [Act.put, qa, qb, qc, qd, qe, qf])
    refine wpAnyH_take (i := 7) (v := ?_) rfl (by kernel_rfl) (by kernel_rfl) (by kernel_rfl) (fun _ _ _ h => h) (Or.inl ⟨by rfl, ?_⟩) (by assumption) ?_
    rotate_left
    · (intro w' hSw; (try dsimp only at hSw); go_simp; try with_reducible rfl)
    (try simp only [Act.put, qa, qb, qc, qd, qe, qf])
    refine wpAnyH_take (i := 8) (v := ?_) rfl (by kernel_rfl) (by kernel_rfl) (by kernel_rfl) (fun _ _ _ h => h) (Or.inl ⟨by rfl, ?_⟩) (by assumption) ?_
    rotate_left
    · (intro w' hSw; (try dsimp only at hSw); go_simp; try with_reducible rfl)
    (try simp only [Act.put, qa, qb, qc, qd, qe, qf])
    refine wpAnyH_take (i := 9) (v := ?_) rfl (by kernel_rfl) (by kernel_rfl) (by kernel_rfl) (fun _ _ _ h => h) (Or.inl ⟨by rfl, ?_⟩) (by assumption) ?_
    rotate_left
    · (intro w' hSw; (try dsimp only at hSw); go_simp; try with_reducible rfl)
    (try simp only [Act.put, qa, qb, qc, qd, qe, qf])
    refine wpAnyH_take (i := 10) (v := ?_) rfl (by kernel_rfl) (by kernel_rfl) (by kernel_rfl) (fun _ _ _ h => h) (Or.inl ⟨by rfl, ?_⟩) (by assumption) ?_
    rotate_left
    · (intro w' hSw; (try dsimp only at hSw); go_simp; try with_reducible rfl)
    (try simp only [Act.put, qa, qb, qc, qd, qe, qf])
    rw [hF]
    have hn := N3_0 va vb sw sx2 sy2 Aw Ax2 Ay2 mw mx2 my2 cw cx2 cy2 wc (hu.trans uc) nw
    (try simp only [Act.put, qa, qb, qc, qd, qe, qf] at hn ⊢)
    exact hn
   refine AllReadyH.cons rfl (fun K hK => ?_) ?_
   ·
    go_simp
    refine hK.out _ _ ?_ (fun hHeld => ?_)
    case' refine_1 => (try dsimp only); exact HS.out _ (hu.alloc _)
    rw [hF]
    have hn := N2_11 w'.heap.size va vb (w'.alloc (.cells #[.bool false, .slice none 0 0] 24)) (hu.alloc _) (BoxN.new w' false none 0 0) hu.size (na.upd ((Upd.refl NoF w').alloc _)) (nb.upd ((Upd.refl NoF w').alloc _))
    (try simp only [Act.put, qa, qb, qc, qd, qe, qf] at hn ⊢)
    exact hn
   refine AllReadyH.cons rfl (fun K hK => ?_) ?_
   ·
    go_simp
    refine hK.out _ _ ?_ (fun hHeld => ?_)
    case' refine_1 => (try dsimp only); exact HS.out _ (hu.alloc _)
    rw [hF]
    have hn := N2_12 w'.heap.size va vb (w'.alloc (.cells #[.bool false, .slice none 0 0] 24)) (hu.alloc _) (BoxN.new w' false none 0 0) hu.size (na.upd ((Upd.refl NoF w').alloc _)) (nb.upd ((Upd.refl NoF w').alloc _))
    (try simp only [Act.put, qa, qb, qc, qd, qe, qf] at hn ⊢)
    exact hn
   refine AllReadyH.cons rfl (fun K hK => ?_) AllReadyH.nil
   go_simp
   refine hK.out _ _ ?_ (fun hHeld => ?_)
   case' refine_1 => (try dsimp only); exact HS.out _ (hu.alloc _)
   rw [hF]
   have hn := N2_13 w'.heap.size va vb (w'.alloc (.cells #[.bool false, .slice none 0 0] 24)) (hu.alloc _) (BoxN.new w' false none 0 0) hu.size (na.upd ((Upd.refl NoF w').alloc _)) (nb.upd ((Upd.refl NoF w').alloc _))
   (try simp only [Act.put, qa, qb, qc, qd, qe, qf] at hn ⊢)
   exact hn
  have N1_111213 : ∀ (g11 : Nat) (g12 : Nat) (g13 : Nat) (va : Value) (w' : World) (hu : Upd NoF w2 w') (b11 : BoxN w' g11 false none 0 0) (l11 : w2.heap.size ≤ g11) (b12 : BoxN w' g12 false none 0 0) (l12 : w2.heap.size ≤ g12) (b13 : BoxN w' g13 false none 0 0) (l13 : w2.heap.size ≤ g13) (d11_12 : g11 ≠ g12) (d11_13 : g11 ≠ g13) (d12_13 : g12 ≠ g13) (na : NumI w' va (A * C)), F 9 #[true, true, true, true, true, false, false, false, false, false, false, true, true, true, false, false, false] (Act.put (Act.put (Act.put (Act.put a0 (some 10) (.pointer (some ⟨g11, 0, none⟩))) (some 11) (.pointer (some ⟨g12, 0, none⟩))) (some 12) (.pointer (some ⟨g13, 0, none⟩))) (some 53) (va)) w' := by
   as_aux_lemma =>
   intro g11 g12 g13 va w' hu b11 l11 b12 l12 b13 l13 d11_12 d11_13 d12_13 na
   subst ha0
   rw [← hF]
   (try simp only [Act.put, qa, qb, qc, qd, qe, qf])
   refine wpAnyH_ready (rs := [5]) (by kernel_rfl) (by simp) ?_
   refine AllReadyH.cons rfl (fun K hK => ?_) AllReadyH.nil
   go_simp
   refine (HM2.out w' hu).mono ?_
   rintro e wc ⟨vb, rfl, nb, uc⟩
   refine hK.out _ _ ?_ (fun hHeld => ?_)
   case' refine_1 => (try dsimp only); exact HS.out _ (hu.trans uc)
   rw [hF]
   have hn := N2_111213 g11 g12 g13 va vb wc (hu.trans uc) (b11.upd uc) l11 (b12.upd uc) l12 (b13.upd uc) l13 d11_12 d11_13 d12_13 (na.upd uc) nb
   (try simp only [Act.put, qa, qb, qc, qd, qe, qf] at hn ⊢)
   exact hn
  have N1_1112 : ∀ (g11 : Nat) (g12 : Nat) (va : Value) (w' : World) (hu : Upd NoF w2 w') (b11 : BoxN w' g11 false none 0 0) (l11 : w2.heap.size ≤ g11) (b12 : BoxN w' g12 false none 0 0) (l12 : w2.heap.size ≤ g12) (d11_12 : g11 ≠ g12) (na : NumI w' va (A * C)), F 10 #[true, true, true, true, true, false, false, false, false, false, false, true, true, false, false, false, false] (Act.put (Act.put (Act.put a0 (some 10) (.pointer (some ⟨g11, 0, none⟩))) (some 11) (.pointer (some ⟨g12, 0, none⟩))) (some 53) (va)) w' := by
   as_aux_lemma =>
   intro g11 g12 va w' hu b11 l11 b12 l12 d11_12 na
   subst ha0
   rw [← hF]
   (try simp only [Act.put, qa, qb, qc, qd, qe, qf])
   refine wpAnyH_ready (rs := [5, 13]) (by kernel_rfl) (by simp) ?_
   refine AllReadyH.cons rfl (fun K hK => ?_) ?_
   ·
    go_simp
    refine (HM2.out w' hu).mono ?_
    rintro e wc ⟨vb, rfl, nb, uc⟩
    refine hK.out _ _ ?_ (fun hHeld => ?_)
    case' refine_1 => (try dsimp only); exact HS.out _ (hu.trans uc)
    rw [hF]
    have hn := N2_1112 g11 g12 va vb wc (hu.trans uc) (b11.upd uc) l11 (b12.upd uc) l12 d11_12 (na.upd uc) nb
    (try simp only [Act.put, qa, qb, qc, qd, qe, qf] at hn ⊢)
    exact hn
   refine AllReadyH.cons rfl (fun K hK => ?_) AllReadyH.nil
   go_simp
   refine hK.out _ _ ?_ (fun hHeld => ?_)
   case' refine_1 => (try dsimp only); exact HS.out _ (hu.alloc _)
   rw [hF]
   have hn := N1_111213 g11 g12 w'.heap.size va (w'.alloc (.cells #[.bool false, .slice none 0 0] 24)) (hu.alloc _) (b11.upd ((Upd.refl NoF w').alloc _)) l11 (b12.upd ((Upd.refl NoF w').alloc _)) l12 (BoxN.new w' false none 0 0) hu.size d11_12 (by have := b11.c0.lt; omega) (by have := b12.c0.lt; omega) (na.upd ((Upd.refl NoF w').alloc _))
   (try simp only [Act.put, qa, qb, qc, qd, qe, qf] at hn ⊢)
   exact hn
  have N1_1113 : ∀ (g11 : Nat) (g13 : Nat) (va : Value) (w' : World) (hu : Upd NoF w2 w') (b11 : BoxN w' g11 false none 0 0) (l11 : w2.heap.size ≤ g11) (b13 : BoxN w' g13 false none 0 0) (l13 : w2.heap.size ≤ g13) (d11_13 : g11 ≠ g13) (na : NumI w' va (A * C)), F 10 #[true, true, true, true, true, false, false, false, false, false, false, true, false, true, false, false, false] (Act.put (Act.put (Act.put a0 (some 10) (.pointer (some ⟨g11, 0, none⟩))) (some 12) (.pointer (some ⟨g13, 0, none⟩))) (some 53) (va)) w' := by
   as_aux_lemma =>
   intro g11 g13 va w' hu b11 l11 b13 l13 d11_13 na
   subst ha0
   rw [← hF]
   (try simp only [Act.put, qa, qb, qc, qd, qe, qf])
   refine wpAnyH_ready (rs := [5, 12]) (by kernel_rfl) (by simp) ?_
   refine AllReadyH.cons rfl (fun K hK => ?_) ?_
   ·
    go_simp
    refine (HM2.out w' hu).mono ?_
    rintro e wc ⟨vb, rfl, nb, uc⟩
    refine hK.out _ _ ?_ (fun hHeld => ?_)
    case' refine_1 => (try dsimp only); exact HS.out _ (hu.trans uc)
    rw [hF]
    have hn := N2_1113 g11 g13 va vb wc (hu.trans uc) (b11.upd uc) l11 (b13.upd uc) l13 d11_13 (na.upd uc) nb
    (try simp only [Act.put, qa, qb, qc, qd, qe, qf] at hn ⊢)
    exact hn
   refine AllReadyH.cons rfl (fun K hK => ?_) AllReadyH.nil
   go_simp
   refine hK.out _ _ ?_ (fun hHeld => ?_)
   case' refine_1 => (try dsimp only); exact HS.out _ (hu.alloc _)
   rw [hF]
   have hn := N1_111213 g11 w'.heap.size g13 va (w'.alloc (.cells #[.bool false, .slice none 0 0] 24)) (hu.alloc _) (b11.upd ((Upd.refl NoF w').alloc _)) l11 (BoxN.new w' false none 0 0) hu.size (b13.upd ((Upd.refl NoF w').alloc _)) l13 (by have := b11.c0.lt; omega) d11_13 (by have := b13.c0.lt; omega) (na.upd ((Upd.refl NoF w').alloc _))
   (try simp only [Act.put, qa, qb, qc, qd, qe, qf] at hn ⊢)
   exact hn
  have N1_1213 : ∀ (g12 : Nat) (g13 : Nat) (va : Value) (w' : World) (hu : Upd NoF w2 w') (b12 : BoxN w' g12 false none 0 0) (l12 : w2.heap.size ≤ g12) (b13 : BoxN w' g13 false none 0 0) (l13 : w2.heap.size ≤ g13) (d12_13 : g12 ≠ g13) (na : NumI w' va (A * C)), F 10 #[true, true, true, true, true, false, false, false, false, false, false, false, true, true, false, false, false] (Act.put (Act.put (Act.put a0 (some 11) (.pointer (some ⟨g12, 0, none⟩))) (some 12) (.pointer (some ⟨g13, 0, none⟩))) (some 53) (va)) w' := by
   as_aux_lemma =>
   intro g12 g13 va w' hu b12 l12 b13 l13 d12_13 na
   subst ha0
   rw [← hF]
   (try simp only [Act.put, qa, qb, qc, qd, qe, qf])
   refine wpAnyH_ready (rs := [5, 11]) (by kernel_rfl) (by simp) ?_
   refine AllReadyH.cons rfl (fun K hK => ?_) ?_
   ·
    go_simp
    refine (HM2.out w' hu).mono ?_
    rintro e wc ⟨vb, rfl, nb, uc⟩
    refine hK.out _ _ ?_ (fun hHeld => ?_)
    case' refine_1 => (try dsimp only); exact HS.out _ (hu.trans uc)
    rw [hF]
    have hn := N2_1213 g12 g13 va vb wc (hu.trans uc) (b12.upd uc) l12 (b13.upd uc) l13 d12_13 (na.upd uc) nb
    (try simp only [Act.put, qa, qb, qc, qd, qe, qf] at hn ⊢)
    exact hn
   refine AllReadyH.cons rfl (fun K hK => ?_) AllReadyH.nil
   go_simp
   refine hK.out _ _ ?_ (fun hHeld => ?_)
   case' refine_1 => (try dsimp only); exact HS.out _ (hu.alloc _)
   rw [hF]
   have hn := N1_111213 w'.heap.size g12 g13 va (w'.alloc (.cells #[.bool false, .slice none 0 0] 24)) (hu.alloc _) (BoxN.new w' false none 0 0) hu.size (b12.upd ((Upd.refl NoF w').alloc _)) l12 (b13.upd ((Upd.refl NoF w').alloc _)) l13 (by have := b12.c0.lt; omega) (by have := b13.c0.lt; omega) d12_13 (na.upd ((Upd.refl NoF w').alloc _))
   (try simp only [Act.put, qa, qb, qc, qd, qe, qf] at hn ⊢)
   exact hn
  have N1_11 : ∀ (g11 : Nat) (va : Value) (w' : World) (hu : Upd NoF w2 w') (b11 : BoxN w' g11 false none 0 0) (l11 : w2.heap.size ≤ g11) (na : NumI w' va (A * C)), F 11 #[true, true, true, true, true, false, false, false, false, false, false, true, false, false, false, false, false] (Act.put (Act.put a0 (some 10) (.pointer (some ⟨g11, 0, none⟩))) (some 53) (va)) w' := by
   as_aux_lemma =>
   intro g11 va w' hu b11 l11 na
   subst ha0
   rw [← hF]
   (try simp only [Act.put, qa, qb, qc, qd, qe, qf])
   refine wpAnyH_ready (rs := [5, 12, 13]) (by kernel_rfl) (by simp) ?_
   refine AllReadyH.cons rfl (fun K hK => ?_) ?_
   ·
    go_simp
    refine (HM2.out w' hu).mono ?_
    rintro e wc ⟨vb, rfl, nb, uc⟩
    refine hK.out _ _ ?_ (fun hHeld => ?_)
    case' refine_1 => (try dsimp only); exact HS.out _ (hu.trans uc)
    rw [hF]
    have hn := N2_11 g11 va vb wc (hu.trans uc) (b11.upd uc) l11 (na.upd uc) nb
    (try simp only [Act.put, qa, qb, qc, qd, qe, qf] at hn ⊢)
    exact hn
   refine AllReadyH.cons rfl (fun K hK => ?_) ?_
   ·
    go_simp
    refine hK.out _ _ ?_ (fun hHeld => ?_)
    case' refine_1 => (try dsimp only); exact HS.out _ (hu.alloc _)
    rw [hF]
    have hn := N1_1112 g11 w'.heap.size va (w'.alloc (.cells #[.bool false, .slice none 0 0] 24)) (hu.alloc _) (b11.upd ((Upd.refl NoF w').alloc _)) l11 (BoxN.new w' false none 0 0) hu.size (by have := b11.c0.lt; omega) (na.upd ((Upd.refl NoF w').alloc _))
    (try simp only [Act.put, qa, qb, qc, qd, qe, qf] at hn ⊢)
    exact hn
   refine AllReadyH.cons rfl (fun K hK => ?_) AllReadyH.nil
   go_simp
   refine hK.out _ _ ?_ (fun hHeld => ?_)
   case' refine_1 => (try dsimp only); exact HS.out _ (hu.alloc _)
   rw [hF]
   have hn := N1_1113 g11 w'.heap.size va (w'.alloc (.cells #[.bool false, .slice none 0 0] 24)) (hu.alloc _) (b11.upd ((Upd.refl NoF w').alloc _)) l11 (BoxN.new w' false none 0 0) hu.size (by have := b11.c0.lt; omega) (na.upd ((Upd.refl NoF w').alloc _))
   (try simp only [Act.put, qa, qb, qc, qd, qe, qf] at hn ⊢)
   exact hn
  have N1_12 : ∀ (g12 : Nat) (va : Value) (w' : World) (hu : Upd NoF w2 w') (b12 : BoxN w' g12 false none 0 0) (l12 : w2.heap.size ≤ g12) (na : NumI w' va (A * C)), F 11 #[true, true, true, true, true, false, false, false, false, false, false, false, true, false, false, false, false] (Act.put (Act.put a0 (some 11) (.pointer (some ⟨g12, 0, none⟩))) (some 53) (va)) w' := by
   as_aux_lemma =>
   intro g12 va w' hu b12 l12 na
   subst ha0
   rw [← hF]
   (try simp only [Act.put, qa, qb, qc, qd, qe, qf])
   refine wpAnyH_ready (rs := [5, 11, 13]) (by kernel_rfl) (by simp) ?_
   refine AllReadyH.cons rfl (fun K hK => ?_) ?_
   ·
    go_simp
    refine (HM2.out w' hu).mono ?_
    rintro e wc ⟨vb, rfl, nb, uc⟩
    refine hK.out _ _ ?_ (fun hHeld => ?_)
    case' refine_1 => (try dsimp only); exact HS.out _ (hu.trans uc)
    rw [hF]
    have hn := N2_12 g12 va vb wc (hu.trans uc) (b12.upd uc) l12 (na.upd uc) nb
    (try simp only [Act.put, qa, qb, qc, qd, qe, qf] at hn ⊢)
    exact hn
   refine AllReadyH.cons rfl (fun K hK => ?_) ?_
   ·
    go_simp
    refine hK.out _ _ ?_ (fun hHeld => ?_)
    case' refine_1 => (try dsimp only); exact HS.out _ (hu.alloc _)
    rw [hF]
    have hn := N1_1112 w'.heap.size g12 va (w'.alloc (.cells #[.bool false, .slice none 0 0] 24)) (hu.alloc _) (BoxN.new w' false none 0 0) hu.size (b12.upd ((Upd.refl NoF w').alloc _)) l12 (by have := b12.c0.lt; omega) (na.upd ((Upd.refl NoF w').alloc _))
    (try simp only [Act.put, qa, qb, qc, qd, qe, qf] at hn ⊢)
    exact hn
   refine AllReadyH.cons rfl (fun K hK => ?_) AllReadyH.nil
   go_simp
   refine hK.out _ _ ?_ (fun hHeld => ?_)
   case' refine_1 => (try dsimp only); exact HS.out _ (hu.alloc _)
   rw [hF]
   have hn := N1_1213 g12 w'.heap.size va (w'.alloc (.cells #[.bool false, .slice none 0 0] 24)) (hu.alloc _) (b12.upd ((Upd.refl NoF w').alloc _)) l12 (BoxN.new w' false none 0 0) hu.size (by have := b12.c0.lt; omega) (na.upd ((Upd.refl NoF w').alloc _))
   (try simp only [Act.put, qa, qb, qc, qd, qe, qf] at hn ⊢)
   exact hn
  have N1_13 : ∀ (g13 : Nat) (va : Value) (w' : World) (hu : Upd NoF w2 w') (b13 : BoxN w' g13 false none 0 0) (l13 : w2.heap.size ≤ g13) (na : NumI w' va (A * C)), F 11 #[true, true, true, true, true, false, false, false, false, false, false, false, false, true, false, false, false] (Act.put (Act.put a0 (some 12) (.pointer (some ⟨g13, 0, none⟩))) (some 53) (va)) w' := by
   as_aux_lemma =>
   intro g13 va w' hu b13 l13 na
   subst ha0
   rw [← hF]
   (try simp only [Act.put, qa, qb, qc, qd, qe, qf])
   refine wpAnyH_ready (rs := [5, 11, 12]) (by kernel_rfl) (by simp) ?_
   refine AllReadyH.cons rfl (fun K hK => ?_) ?_
   ·
    go_simp
    refine (HM2.out w' hu).mono ?_
    rintro e wc ⟨vb, rfl, nb, uc⟩
    refine hK.out _ _ ?_ (fun hHeld => ?_)
    case' refine_1 => (try dsimp only); exact HS.out _ (hu.trans uc)
    rw [hF]
    have hn := N2_13 g13 va vb wc (hu.trans uc) (b13.upd uc) l13 (na.upd uc) nb
    (try simp only [Act.put, qa, qb, qc, qd, qe, qf] at hn ⊢)
    exact hn
   refine AllReadyH.cons rfl (fun K hK => ?_) ?_
   ·
    go_simp
    refine hK.out _ _ ?_ (fun hHeld => ?_)
    case' refine_1 => (try dsimp only); exact HS.out _ (hu.alloc _)
    rw [hF]
    have hn := N1_1113 w'.heap.size g13 va (w'.alloc (.cells #[.bool false, .slice none 0 0] 24)) (hu.alloc _) (BoxN.new w' false none 0 0) hu.size (b13.upd ((Upd.refl NoF w').alloc _)) l13 (by have := b13.c0.lt; omega) (na.upd ((Upd.refl NoF w').alloc _))
    (try simp only [Act.put, qa, qb, qc, qd, qe, qf] at hn ⊢)
    exact hn
   refine AllReadyH.cons rfl (fun K hK => ?_) AllReadyH.nil
   go_simp
   refine hK.out _ _ ?_ (fun hHeld => ?_)
   case' refine_1 => (try dsimp only); exact HS.out _ (hu.alloc _)
   rw [hF]
   have hn := N1_1213 w'.heap.size g13 va (w'.alloc (.cells #[.bool false, .slice none 0 0] 24)) (hu.alloc _) (BoxN.new w' false none 0 0) hu.size (b13.upd ((Upd.refl NoF w').alloc _)) l13 (by have := b13.c0.lt; omega) (na.upd ((Upd.refl NoF w').alloc _))
   (try simp only [Act.put, qa, qb, qc, qd, qe, qf] at hn ⊢)
   exact hn
  have N1_0 : ∀ (va : Value) (w' : World) (hu : Upd NoF w2 w') (na : NumI w' va (A * C)), F 12 #[true, true, true, true, true, false, false, false, false, false, false, false, false, false, false, false, false] (Act.put a0 (some 53) (va)) w' := by
   as_aux_lemma =>
   intro va w' hu na
   subst ha0
   rw [← hF]
   (try simp only [Act.put, qa, qb, qc, qd, qe, qf])
   refine wpAnyH_ready (rs := [5, 11, 12, 13]) (by kernel_rfl) (by simp) ?_
   refine AllReadyH.cons rfl (fun K hK => ?_) ?_
   ·
    go_simp
    refine (HM2.out w' hu).mono ?_
    rintro e wc ⟨vb, rfl, nb, uc⟩
    refine hK.out _ _ ?_ (fun hHeld => ?_)
    case' refine_1 => (try dsimp only); exact HS.out _ (hu.trans uc)
    rw [hF]
    have hn := N2_0 va vb wc (hu.trans uc) (na.upd uc) nb
    (try simp only [Act.put, qa, qb, qc, qd, qe, qf] at hn ⊢)
    exact hn
   refine AllReadyH.cons rfl (fun K hK => ?_) ?_
   ·
    go_simp
    refine hK.out _ _ ?_ (fun hHeld => ?_)
    case' refine_1 => (try dsimp only); exact HS.out _ (hu.alloc _)
    rw [hF]
    have hn := N1_11 w'.heap.size va (w'.alloc (.cells #[.bool false, .slice none 0 0] 24)) (hu.alloc _) (BoxN.new w' false none 0 0) hu.size (na.upd ((Upd.refl NoF w').alloc _))
    (try simp only [Act.put, qa, qb, qc, qd, qe, qf] at hn ⊢)
    exact hn
   refine AllReadyH.cons rfl (fun K hK => ?_) ?_
   ·
    go_simp
    refine hK.out _ _ ?_ (fun hHeld => ?_)
    case' refine_1 => (try dsimp only); exact HS.out _ (hu.alloc _)
    rw [hF]
    have hn := N1_12 w'.heap.size va (w'.alloc (.cells #[.bool false, .slice none 0 0] 24)) (hu.alloc _) (BoxN.new w' false none 0 0) hu.size (na.upd ((Upd.refl NoF w').alloc _))
    (try simp only [Act.put, qa, qb, qc, qd, qe, qf] at hn ⊢)
    exact hn
   refine AllReadyH.cons rfl (fun K hK => ?_) AllReadyH.nil
   go_simp
   refine hK.out _ _ ?_ (fun hHeld => ?_)
   case' refine_1 => (try dsimp only); exact HS.out _ (hu.alloc _)
   rw [hF]
   have hn := N1_13 w'.heap.size va (w'.alloc (.cells #[.bool false, .slice none 0 0] 24)) (hu.alloc _) (BoxN.new w' false none 0 0) hu.size (na.upd ((Upd.refl NoF w').alloc _))
   (try simp only [Act.put, qa, qb, qc, qd, qe, qf] at hn ⊢)
   exact hn
  have N0_111213 : ∀ (g11 : Nat) (g12 : Nat) (g13 : Nat) (w' : World) (hu : Upd NoF w2 w') (b11 : BoxN w' g11 false none 0 0) (l11 : w2.heap.size ≤ g11) (b12 : BoxN w' g12 false none 0 0) (l12 : w2.heap.size ≤ g12) (b13 : BoxN w' g13 false none 0 0) (l13 : w2.heap.size ≤ g13) (d11_12 : g11 ≠ g12) (d11_13 : g11 ≠ g13) (d12_13 : g12 ≠ g13), F 10 #[true, true, false, true, true, false, false, false, false, false, false, true, true, true, false, false, false] (Act.put (Act.put (Act.put a0 (some 10) (.pointer (some ⟨g11, 0, none⟩))) (some 11) (.pointer (some ⟨g12, 0, none⟩))) (some 12) (.pointer (some ⟨g13, 0, none⟩))) w' := by
   as_aux_lemma =>
   intro g11 g12 g13 w' hu b11 l11 b12 l12 b13 l13 d11_12 d11_13 d12_13
   subst ha0
   rw [← hF]
   (try simp only [Act.put, qa, qb, qc, qd, qe, qf])
   refine wpAnyH_ready (rs := [2]) (by kernel_rfl) (by simp) ?_
   refine AllReadyH.cons rfl (fun K hK => ?_) AllReadyH.nil
   go_simp
   refine (HM1.out w' hu).mono ?_
   rintro e wc ⟨va, rfl, na, uc⟩
   refine hK.out _ _ ?_ (fun hHeld => ?_)
   case' refine_1 => (try dsimp only); exact HS.out _ (hu.trans uc)
   rw [hF]
   have hn := N1_111213 g11 g12 g13 va wc (hu.trans uc) (b11.upd uc) l11 (b12.upd uc) l12 (b13.upd uc) l13 d11_12 d11_13 d12_13 na
   (try simp only [Act.put, qa, qb, qc, qd, qe, qf] at hn ⊢)
   exact hn
  have N0_1112 : ∀ (g11 : Nat) (g12 : Nat) (w' : World) (hu : Upd NoF w2 w') (b11 : BoxN w' g11 false none 0 0) (l11 : w2.heap.size ≤ g11) (b12 : BoxN w' g12 false none 0 0) (l12 : w2.heap.size ≤ g12) (d11_12 : g11 ≠ g12), F 11 #[true, true, false, true, true, false, false, false, false, false, false, true, true, false, false, false, false] (Act.put (Act.put a0 (some 10) (.pointer (some ⟨g11, 0, none⟩))) (some 11) (.pointer (some ⟨g12, 0, none⟩))) w' := by
   as_aux_lemma =>
   intro g11 g12 w' hu b11 l11 b12 l12 d11_12
   subst ha0
   rw [← hF]
   (try simp only [Act.put, qa, qb, qc, qd, qe, qf])
   refine wpAnyH_ready (rs := [2, 13]) (by kernel_rfl) (by simp) ?_
   refine AllReadyH.cons rfl (fun K hK => ?_) ?_
   ·
    go_simp
    refine (HM1.out w' hu).mono ?_
    rintro e wc ⟨va, rfl, na, uc⟩
    refine hK.out _ _ ?_ (fun hHeld => ?_)
    case' refine_1 => (try dsimp only); exact HS.out _ (hu.trans uc)
    rw [hF]
    have hn := N1_1112 g11 g12 va wc (hu.trans uc) (b11.upd uc) l11 (b12.upd uc) l12 d11_12 na
    (try simp only [Act.put, qa, qb, qc, qd, qe, qf] at hn ⊢)
    exact hn
   refine AllReadyH.cons rfl (fun K hK => ?_) AllReadyH.nil
   go_simp
   refine hK.out _ _ ?_ (fun hHeld => ?_)
   case' refine_1 => (try dsimp only); exact HS.out _ (hu.alloc _)
   rw [hF]
   have hn := N0_111213 g11 g12 w'.heap.size (w'.alloc (.cells #[.bool false, .slice none 0 0] 24)) (hu.alloc _) (b11.upd ((Upd.refl NoF w').alloc _)) l11 (b12.upd ((Upd.refl NoF w').alloc _)) l12 (BoxN.new w' false none 0 0) hu.size d11_12 (by have := b11.c0.lt; omega) (by have := b12.c0.lt; omega)
   (try simp only [Act.put, qa, qb, qc, qd, qe, qf] at hn ⊢)
   exact hn
  have N0_1113 : ∀ (g11 : Nat) (g13 : Nat) (w' : World) (hu : Upd NoF w2 w') (b11 : BoxN w' g11 false none 0 0) (l11 : w2.heap.size ≤ g11) (b13 : BoxN w' g13 false none 0 0) (l13 : w2.heap.size ≤ g13) (d11_13 : g11 ≠ g13), F 11 #[true, true, false, true, true, false, false, false, false, false, false, true, false, true, false, false, false] (Act.put (Act.put a0 (some 10) (.pointer (some ⟨g11, 0, none⟩))) (some 12) (.pointer (some ⟨g13, 0, none⟩))) w' := by
   as_aux_lemma =>
   intro g11 g13 w' hu b11 l11 b13 l13 d11_13
   subst ha0
   rw [← hF]
   (try simp only [Act.put, qa, qb, qc, qd, qe, qf])
   refine wpAnyH_ready (rs := [2, 12]) (by kernel_rfl) (by simp) ?_
   refine AllReadyH.cons rfl (fun K hK => ?_) ?_
   ·
    go_simp
    refine (HM1.out w' hu).mono ?_
    rintro e wc ⟨va, rfl, na, uc⟩
    refine hK.out _ _ ?_ (fun hHeld => ?_)
    case' refine_1 => (try dsimp only); exact HS.out _ (hu.trans uc)
    rw [hF]
    have hn := N1_1113 g11 g13 va wc (hu.trans uc) (b11.upd uc) l11 (b13.upd uc) l13 d11_13 na
    (try simp only [Act.put, qa, qb, qc, qd, qe, qf] at hn ⊢)
    exact hn
   refine AllReadyH.cons rfl (fun K hK => ?_) AllReadyH.nil
   go_simp
   refine hK.out _ _ ?_ (fun hHeld => ?_)
   case' refine_1 => (try dsimp only); exact HS.out _ (hu.alloc _)
   rw [hF]
   have hn := N0_111213 g11 w'.heap.size g13 (w'.alloc (.cells #[.bool false, .slice none 0 0] 24)) (hu.alloc _) (b11.upd ((Upd.refl NoF w').alloc _)) l11 (BoxN.new w' false none 0 0) hu.size (b13.upd ((Upd.refl NoF w').alloc _)) l13 (by have := b11.c0.lt; omega) d11_13 (by have := b13.c0.lt; omega)
   (try simp only [Act.put, qa, qb, qc, qd, qe, qf] at hn ⊢)
   exact hn
  have N0_1213 : ∀ (g12 : Nat) (g13 : Nat) (w' : World) (hu : Upd NoF w2 w') (b12 : BoxN w' g12 false none 0 0) (l12 : w2.heap.size ≤ g12) (b13 : BoxN w' g13 false none 0 0) (l13 : w2.heap.size ≤ g13) (d12_13 : g12 ≠ g13), F 11 #[true, true, false, true, true, false, false, false, false, false, false, false, true, true, false, false, false] (Act.put (Act.put a0 (some 11) (.pointer (some ⟨g12, 0, none⟩))) (some 12) (.pointer (some ⟨g13, 0, none⟩))) w' := by
   as_aux_lemma =>
   intro g12 g13 w' hu b12 l12 b13 l13 d12_13
   subst ha0
   rw [← hF]
   (try simp only [Act.put, qa, qb, qc, qd, qe, qf])
   refine wpAnyH_ready (rs := [2, 11]) (by kernel_rfl) (by simp) ?_
   refine AllReadyH.cons rfl (fun K hK => ?_) ?_
   ·
    go_simp
    refine (HM1.out w' hu).mono ?_
    rintro e wc ⟨va, rfl, na, uc⟩
    refine hK.out _ _ ?_ (fun hHeld => ?_)
    case' refine_1 => (try dsimp only); exact HS.out _ (hu.trans uc)
    rw [hF]
    have hn := N1_1213 g12 g13 va wc (hu.trans uc) (b12.upd uc) l12 (b13.upd uc) l13 d12_13 na
    (try simp only [Act.put, qa, qb, qc, qd, qe, qf] at hn ⊢)
    exact hn
   refine AllReadyH.cons rfl (fun K hK => ?_) AllReadyH.nil
   go_simp
   refine hK.out _ _ ?_ (fun hHeld => ?_)
   case' refine_1 => (try dsimp only); exact HS.out _ (hu.alloc _)
   rw [hF]
   have hn := N0_111213 w'.heap.size g12 g13 (w'.alloc (.cells #[.bool false, .slice none 0 0] 24)) (hu.alloc _) (BoxN.new w' false none 0 0) hu.size (b12.upd ((Upd.refl NoF w').alloc _)) l12 (b13.upd ((Upd.refl NoF w').alloc _)) l13 (by have := b12.c0.lt; omega) (by have := b13.c0.lt; omega) d12_13
   (try simp only [Act.put, qa, qb, qc, qd, qe, qf] at hn ⊢)
   exact hn
  have N0_11 : ∀ (g11 : Nat) (w' : World) (hu : Upd NoF w2 w') (b11 : BoxN w' g11 false none 0 0) (l11 : w2.heap.size ≤ g11), F 12 #[true, true, false, true, true, false, false, false, false, false, false, true, false, false, false, false, false] (Act.put a0 (some 10) (.pointer (some ⟨g11, 0, none⟩))) w' := by
   as_aux_lemma =>
   intro g11 w' hu b11 l11
   subst ha0
   rw [← hF]
   (try simp only [Act.put, qa, qb, qc, qd, qe, qf])
   refine wpAnyH_ready (rs := [2, 12, 13]) (by kernel_rfl) (by simp) ?_
   refine AllReadyH.cons rfl (fun K hK => ?_) ?_
   ·
    go_simp
    refine (HM1.out w' hu).mono ?_
    rintro e wc ⟨va, rfl, na, uc⟩
    refine hK.out _ _ ?_ (fun hHeld => ?_)
    case' refine_1 => (try dsimp only); exact HS.out _ (hu.trans uc)
    rw [hF]
    have hn := N1_11 g11 va wc (hu.trans uc) (b11.upd uc) l11 na
    (try simp only [Act.put, qa, qb, qc, qd, qe, qf] at hn ⊢)
    exact hn
   refine AllReadyH.cons rfl (fun K hK => ?_) ?_
   ·
    go_simp
    refine hK.out _ _ ?_ (fun hHeld => ?_)
    case' refine_1 => (try dsimp only); exact HS.out _ (hu.alloc _)
    rw [hF]
    have hn := N0_1112 g11 w'.heap.size (w'.alloc (.cells #[.bool false, .slice none 0 0] 24)) (hu.alloc _) (b11.upd ((Upd.refl NoF w').alloc _)) l11 (BoxN.new w' false none 0 0) hu.size (by have := b11.c0.lt; omega)
    (try simp only [Act.put, qa, qb, qc, qd, qe, qf] at hn ⊢)
    exact hn
   refine AllReadyH.cons rfl (fun K hK => ?_) AllReadyH.nil
   go_simp
   refine hK.out _ _ ?_ (fun hHeld => ?_)
   case' refine_1 => (try dsimp only); exact HS.out _ (hu.alloc _)
   rw [hF]
   have hn := N0_1113 g11 w'.heap.size (w'.alloc (.cells #[.bool false, .slice none 0 0] 24)) (hu.alloc _) (b11.upd ((Upd.refl NoF w').alloc _)) l11 (BoxN.new w' false none 0 0) hu.size (by have := b11.c0.lt; omega)
   (try simp only [Act.put, qa, qb, qc, qd, qe, qf] at hn ⊢)
   exact hn
  have N0_12 : ∀ (g12 : Nat) (w' : World) (hu : Upd NoF w2 w') (b12 : BoxN w' g12 false none 0 0) (l12 : w2.heap.size ≤ g12), F 12 #[true, true, false, true, true, false, false, false, false, false, false, false, true, false, false, false, false] (Act.put a0 (some 11) (.pointer (some ⟨g12, 0, none⟩))) w' := by
   as_aux_lemma =>
   intro g12 w' hu b12 l12
   subst ha0
   rw [← hF]
   (try simp only [Act.put, qa, qb, qc, qd, qe, qf])
   refine wpAnyH_ready (rs := [2, 11, 13]) (by kernel_rfl) (by simp) ?_
   refine AllReadyH.cons rfl (fun K hK => ?_) ?_
   ·
    go_simp
    refine (HM1.out w' hu).mono ?_
    rintro e wc ⟨va, rfl, na, uc⟩
    refine hK.out _ _ ?_ (fun hHeld => ?_)
    case' refine_1 => (try dsimp only); exact HS.out _ (hu.trans uc)
    rw [hF]
    have hn := N1_12 g12 va wc (hu.trans uc) (b12.upd uc) l12 na
    (try simp only [Act.put, qa, qb, qc, qd, qe, qf] at hn ⊢)
    exact hn
   refine AllReadyH.cons rfl (fun K hK => ?_) ?_
   ·
    go_simp
    refine hK.out _ _ ?_ (fun hHeld => ?_)
    case' refine_1 => (try dsimp only); exact HS.out _ (hu.alloc _)
    rw [hF]
    have hn := N0_1112 w'.heap.size g12 (w'.alloc (.cells #[.bool false, .slice none 0 0] 24)) (hu.alloc _) (BoxN.new w' false none 0 0) hu.size (b12.upd ((Upd.refl NoF w').alloc _)) l12 (by have := b12.c0.lt; omega)
    (try simp only [Act.put, qa, qb, qc, qd, qe, qf] at hn ⊢)
    exact hn
   refine AllReadyH.cons rfl (fun K hK => ?_) AllReadyH.nil
   go_simp
   refine hK.out _ _ ?_ (fun hHeld => ?_)
   case' refine_1 => (try dsimp only); exact HS.out _ (hu.alloc _)
   rw [hF]
   have hn := N0_1213 g12 w'.heap.size (w'.alloc (.cells #[.bool false, .slice none 0 0] 24)) (hu.alloc _) (b12.upd ((Upd.refl NoF w').alloc _)) l12 (BoxN.new w' false none 0 0) hu.size (by have := b12.c0.lt; omega)
   (try simp only [Act.put, qa, qb, qc, qd, qe, qf] at hn ⊢)
   exact hn
  have N0_13 : ∀ (g13 : Nat) (w' : World) (hu : Upd NoF w2 w') (b13 : BoxN w' g13 false none 0 0) (l13 : w2.heap.size ≤ g13), F 12 #[true, true, false, true, true, false, false, false, false, false, false, false, false, true, false, false, false] (Act.put a0 (some 12) (.pointer (some ⟨g13, 0, none⟩))) w' := by
   as_aux_lemma =>
   intro g13 w' hu b13 l13
   subst ha0
   rw [← hF]
   (try simp only [Act.put, qa, qb, qc, qd, qe, qf])
   refine wpAnyH_ready (rs := [2, 11, 12]) (by kernel_rfl) (by simp) ?_
   refine AllReadyH.cons rfl (fun K hK => ?_) ?_
   ·
    go_simp
    refine (HM1.out w' hu).mono ?_
    rintro e wc ⟨va, rfl, na, uc⟩
    refine hK.out _ _ ?_ (fun hHeld => ?_)
    case' refine_1 => (try dsimp only); exact HS.out _ (hu.trans uc)
    rw [hF]
    have hn := N1_13 g13 va wc (hu.trans uc) (b13.upd uc) l13 na
    (try simp only [Act.put, qa, qb, qc, qd, qe, qf] at hn ⊢)
    exact hn
   refine AllReadyH.cons rfl (fun K hK => ?_) ?_
   ·
    go_simp
    refine hK.out _ _ ?_ (fun hHeld => ?_)
    case' refine_1 => (try dsimp only); exact HS.out _ (hu.alloc _)
    rw [hF]
    have hn := N0_1113 w'.heap.size g13 (w'.alloc (.cells #[.bool false, .slice none 0 0] 24)) (hu.alloc _) (BoxN.new w' false none 0 0) hu.size (b13.upd ((Upd.refl NoF w').alloc _)) l13 (by have := b13.c0.lt; omega)
    (try simp only [Act.put, qa, qb, qc, qd, qe, qf] at hn ⊢)
    exact hn
   refine AllReadyH.cons rfl (fun K hK => ?_) AllReadyH.nil
   go_simp
   refine hK.out _ _ ?_ (fun hHeld => ?_)
   case' refine_1 => (try dsimp only); exact HS.out _ (hu.alloc _)
   rw [hF]
   have hn := N0_1213 w'.heap.size g13 (w'.alloc (.cells #[.bool false, .slice none 0 0] 24)) (hu.alloc _) (BoxN.new w' false none 0 0) hu.size (b13.upd ((Upd.refl NoF w').alloc _)) l13 (by have := b13.c0.lt; omega)
   (try simp only [Act.put, qa, qb, qc, qd, qe, qf] at hn ⊢)
   exact hn
  have N0_0 : ∀ (w' : World) (hu : Upd NoF w2 w'), F 13 #[true, true, false, true, true, false, false, false, false, false, false, false, false, false, false, false, false] a0 w' := by
   as_aux_lemma =>
   intro w' hu
   subst ha0
   rw [← hF]
   (try simp only [Act.put, qa, qb, qc, qd, qe, qf])
   refine wpAnyH_ready (rs := [2, 11, 12, 13]) (by kernel_rfl) (by simp) ?_
   refine AllReadyH.cons rfl (fun K hK => ?_) ?_
   ·
    go_simp
    refine (HM1.out w' hu).mono ?_
    rintro e wc ⟨va, rfl, na, uc⟩
    refine hK.out _ _ ?_ (fun hHeld => ?_)
    case' refine_1 => (try dsimp only); exact HS.out _ (hu.trans uc)
    rw [hF]
    have hn := N1_0 va wc (hu.trans uc) na
    (try simp only [Act.put, qa, qb, qc, qd, qe, qf] at hn ⊢)
    exact hn
   refine AllReadyH.cons rfl (fun K hK => ?_) ?_
   ·
    go_simp
    refine hK.out _ _ ?_ (fun hHeld => ?_)
    case' refine_1 => (try dsimp only); exact HS.out _ (hu.alloc _)
    rw [hF]
    have hn := N0_11 w'.heap.size (w'.alloc (.cells #[.bool false, .slice none 0 0] 24)) (hu.alloc _) (BoxN.new w' false none 0 0) hu.size
    (try simp only [Act.put, qa, qb, qc, qd, qe, qf] at hn ⊢)
    exact hn
   refine AllReadyH.cons rfl (fun K hK => ?_) ?_
   ·
    go_simp
    refine hK.out _ _ ?_ (fun hHeld => ?_)
    case' refine_1 => (try dsimp only); exact HS.out _ (hu.alloc _)
    rw [hF]
    have hn := N0_12 w'.heap.size (w'.alloc (.cells #[.bool false, .slice none 0 0] 24)) (hu.alloc _) (BoxN.new w' false none 0 0) hu.size
    (try simp only [Act.put, qa, qb, qc, qd, qe, qf] at hn ⊢)
    exact hn
   refine AllReadyH.cons rfl (fun K hK => ?_) AllReadyH.nil
   go_simp
   refine hK.out _ _ ?_ (fun hHeld => ?_)
   case' refine_1 => (try dsimp only); exact HS.out _ (hu.alloc _)
   rw [hF]
   have hn := N0_13 w'.heap.size (w'.alloc (.cells #[.bool false, .slice none 0 0] 24)) (hu.alloc _) (BoxN.new w' false none 0 0) hu.size
   (try simp only [Act.put, qa, qb, qc, qd, qe, qf] at hn ⊢)
   exact hn
  exact N0_0 _ (Upd.refl NoF w2).drew
  -- R]
 case rest =>
 obtain ⟨gw, sw, Aw, mw, cw, rfl, HW⟩ := hcut
 have H3 := Lib.hid (And.intro (H2.out.1.upd HW.out.1) (And.intro (H2.out.2.1.upd HW.out.1) (And.intro (H2.out.2.2.upd HW.out.1) (And.intro HW.out.2.1 (by have := HW.out.2.2; rw [gcd_mulC, HGE.out] at this; exact this : NumI wc (.agg #[.bool sw, .slice Aw mw cw]) ((G : Int) * (C.natAbs : Int)))))))
 have c4 := H3.out.1.b3.c0.cell
 have c5 := H3.out.1.b3.c1.cell
 clear HW H2 HM1 HM2 HGC2 HS c0 c1 c2 c3 c6 c7
 go_wp2_with fail
 refine (in_sp _ n3 C wc (HN.out wc H3.out.1.up).2.2.1 (by have := HLL.out; omega)).mono ?_
 rintro e wi ⟨vi, rfl, hi, ui⟩
 obtain ⟨Ai, ci, rfl, hci, hCi⟩ := hi
 have hSN : SpN wi (.slice Ai (ds C.natAbs).length ci) C.natAbs := ⟨Ai, ci, rfl, hci, hCi⟩
 obtain ⟨sC, hsC⟩ : ∃ s, decide (C < 0) = s := ⟨_, rfl⟩
 obtain ⟨mi, hmi⟩ : ∃ m, (ds C.natAbs).length = m := ⟨_, rfl⟩
 rw [hmi] at hSN
 rw [hsC, hmi]
 have uB : Upd NoF wi (wi.alloc (.cells #[.bool false, .slice Ai mi ci] 32)) := (Upd.refl NoF wi).alloc _
 have h8 := heap_alloc_new wi (.cells #[.bool false, .slice Ai mi ci] 32)
 have H8 := Lib.hid (And.intro (H3.out.1.upd (ui.trans uB)) (And.intro (H3.out.2.1.upd (ui.trans uB)) (And.intro (H3.out.2.2.1.upd (ui.trans uB)) (And.intro (H3.out.2.2.2.1.upd (ui.trans uB)) (And.intro (H3.out.2.2.2.2.upd (ui.trans uB)) (hSN.upd uB).int)))))
 clear hci hCi hSN hsC hmi ui uB
 go_wp2_with fail
 obtain ⟨gi, hgi⟩ : ∃ g, wi.heap.size = g := ⟨_, rfl⟩
 obtain ⟨w8, hw8⟩ : ∃ w8, wi.alloc (.cells #[.bool false, .slice Ai mi ci] 32) = w8 := ⟨_, rfl⟩
 rw [hgi, hw8] at h8
 rw [hw8] at H8
 rw [hgi, hw8]
 have i0 : CellT 32 w8 gi 0 (.bool false) := ⟨_, h8, by simp⟩
 have i1 : CellT 32 w8 gi 1 (.slice Ai mi ci) := ⟨_, h8, by simp⟩
 have HS := Lib.hid (fun (w' : World) (u : Upd NoF w8 w') => (show w'.cell? ⟨gw, 0, none⟩ = some (.bool sw) ∧ w'.cell? ⟨gw, 1, none⟩ = some (.slice Aw mw cw) ∧ w'.cell? ⟨gz, 0, none⟩ = some (.bool sz) ∧ w'.cell? ⟨gz, 1, none⟩ = some (.slice Az mz cz) ∧ w'.cell? ⟨gi, 0, none⟩ = some (.bool false) ∧ w'.cell? ⟨gi, 1, none⟩ = some (.slice Ai mi ci) from
  ⟨(H8.out.2.2.2.1.upd u).c0.cell, (H8.out.2.2.2.1.upd u).c1.cell, (H8.out.2.2.1.upd u).c0.cell, (H8.out.2.2.1.upd u).c1.cell, (i0.upd u (fun h => h)).cell, (i1.upd u (fun h => h)).cell⟩))
 have lG : (digs G).length ≤ 12 := by
  rw [← HGE.out]
  have h1 : (digs (Nat.gcd A.natAbs B.natAbs)).length ≤ max n1 n2 := by
   rcases Nat.le_total A.natAbs B.natAbs with h | h
   · have := digs_len_mono (gcd_le_max h (Nat.le_refl _)); have := HL.out; omega
   · have := digs_len_mono (gcd_le_max (Nat.le_refl _) h); have := HL.out; omega
  have := HLL.out
  omega
 have lC : (ds C.natAbs).length ≤ 32 := by have := ds_len4 C.natAbs; have := HL.out; have := HLL.out; omega
 have lGd : (ds G).length ≤ 48 := by have := ds_len4 G; omega
 have KI := Lib.hid (fun (w' : World) (u : Upd NoF w8 w') => in_sp _ _ (G : Int) w' ((H8.out.2.1.upd u).raw (by rw [Int.natAbs_natCast]; omega)) (by rw [Int.natAbs_natCast]; omega))
 have KT := Lib.hid (fun (v5 : Value) (w' : World) (u : Upd NoF w8 w') (h5 : SpI w' v5 (G : Int)) => times_sp v5 _ (G : Int) (C.natAbs : Int) w' h5 (H8.out.2.2.2.2.2.upd u) (by rw [Int.natAbs_natCast, Int.natAbs_natCast]; omega))
 have KS := Lib.hid (fun (v6 : Value) (w' : World) (u : Upd NoF w8 w') (h6 : SpI w' v6 ((G : Int) * (C.natAbs : Int))) => is_sp _ v6 ((G : Int) * (C.natAbs : Int)) w' (H8.out.2.2.2.2.1.upd u) h6 (by rw [Int.natAbs_mul, Int.natAbs_natCast, Int.natAbs_natCast]; have := digs_mul_len G C.natAbs; have := HL.out; have := HLL.out; omega))
 have HGL := Lib.hid (And.intro lG lGd)
 clear h8 hgi hw8 i0 i1 lG lC lGd H3 c4 c5
 go_region_held3 (fun w' => w'.cell? ⟨gw, 0, none⟩ = some (.bool sw) ∧ w'.cell? ⟨gw, 1, none⟩ = some (.slice Aw mw cw) ∧ w'.cell? ⟨gz, 0, none⟩ = some (.bool sz) ∧ w'.cell? ⟨gz, 1, none⟩ = some (.slice Az mz cz) ∧ w'.cell? ⟨gi, 0, none⟩ = some (.bool false) ∧ w'.cell? ⟨gi, 1, none⟩ = some (.slice Ai mi ci))
  (exact HS.out _ (by (repeat (first | exact Upd.refl _ _ | assumption | refine Upd.alloc ?_ _ | refine Upd.drew ?_ | refine Upd.drewN ?_ _ | refine Upd.trans ?_ (by assumption)))))
  (first
   | ((go_at_call 11; refine (KI.out _ (by (repeat (first | exact Upd.refl _ _ | assumption | refine Upd.alloc ?_ _ | refine Upd.drew ?_ | refine Upd.drewN ?_ _ | refine Upd.trans ?_ (by assumption))))).mono ?_; rintro e w9 ⟨v5, rfl, h5, u9⟩))
   | ((go_at_call 14; refine (KT.out v5 _ (by (repeat (first | exact Upd.refl _ _ | assumption | refine Upd.alloc ?_ _ | refine Upd.drew ?_ | refine Upd.drewN ?_ _ | refine Upd.trans ?_ (by assumption)))) (h5.upd (by (repeat (first | exact Upd.refl _ _ | assumption | refine Upd.alloc ?_ _ | refine Upd.drew ?_ | refine Upd.drewN ?_ _ | refine Upd.trans ?_ (by assumption)))))).mono ?_; rintro e wt ⟨v6, rfl, h6, ut⟩))
   | ((go_at_call 18; refine (KS.out v6 _ (by (repeat (first | exact Upd.refl _ _ | assumption | refine Upd.alloc ?_ _ | refine Upd.drew ?_ | refine Upd.drewN ?_ _ | refine Upd.trans ?_ (by assumption)))) (h6.upd (by (repeat (first | exact Upd.refl _ _ | assumption | refine Upd.alloc ?_ _ | refine Upd.drew ?_ | refine Upd.drewN ?_ _ | refine Upd.trans ?_ (by assumption)))))).mono ?_; rintro e ws ⟨rfl, us⟩)))
 all_goals
  have U9 : Upd NoF w8 ws := (by (repeat (first | exact Upd.refl _ _ | assumption | refine Upd.alloc ?_ _ | refine Upd.drew ?_ | refine Upd.drewN ?_ _ | refine Upd.trans ?_ (by assumption))))
  have H9 := Lib.hid (And.intro (H8.out.1.upd U9) (And.intro (H8.out.2.1.upd U9) (H8.out.2.2.1.upd U9)))
  clear U9 h5 h6 u9 ut us H8 KI KT KS HS
  have H9b := Lib.hid H9.out.1
  have z0 := H9.out.2.2.c0.cell
  have z1 := H9.out.2.2.c1.cell
  have c0 := H9b.out.b1.c0.cell
  have c1 := H9b.out.b1.c1.cell
  have c2 := H9b.out.b2.c0.cell
  have c3 := H9b.out.b2.c1.cell
  have c4 := H9b.out.b3.c0.cell
  have c5 := H9b.out.b3.c1.cell
  by_cases hG0 : G = 0
  ·
   have hm0 : mz = 0 := by rw [← HMZ.out, hG0]; exact (digs_len_eq_zero (n := 0)).2 rfl
   subst hm0
   have q0 : (((0 : Nat) : Int) == 0) = true := rfl
   obtain ⟨hA0, hB0⟩ : A = 0 ∧ B = 0 := by
    have h1 := HGE.out
    rw [hG0, Nat.gcd_eq_zero_iff] at h1
    exact ⟨by omega, by omega⟩
   subst hA0
   subst hB0
   have KA := Lib.hid (fun (w' : World) (u : Upd NoF ws w') => in_sp _ n1 0 w' (HN.out w' (H9.out.1.up.trans u)).1 (by have := HLL.out; omega))
   have KB := Lib.hid (fun (w' : World) (u : Upd NoF ws w') => in_sp _ n2 0 w' (HN.out w' (H9.out.1.up.trans u)).2.1 (by have := HLL.out; omega))
   have hd0 : (ds (0 : Int).natAbs).length = 0 := ds_len_eq_zero.2 rfl
   clear hG0
   go_wp2_with fail
   refine (KA.out ws (Upd.refl _ _)).mono ?_
   rintro e w10 ⟨v10, rfl, h10, u10⟩
   obtain ⟨A10, c10, rfl, _, _⟩ := h10
   rw [hd0]
   have H10 := Lib.hid (And.intro u10 (H9.out.1.upd u10))
   have c2 := H10.out.2.b2.c0.cell
   have c3 := H10.out.2.b2.c1.cell
   clear u10
   go_wp2_with fail
   refine (KB.out w10 H10.out.1).mono ?_
   rintro e w11 ⟨v11, rfl, h11, u11'⟩
   obtain ⟨A11, c11, rfl, _, _⟩ := h11
   rw [hd0]
   have HU := Lib.hid (H10.out.2.up.trans u11')
   clear u11'
   go_wp2_with fail
   go_ret
   exact ⟨rfl, HU.out⟩
  ·
   have HG0 := Lib.hid hG0
   have q0 : ((mz : Int) == 0) = false := beq_eq_false_iff_ne.2 (by have := HMZ.out; have := mt (digs_len_eq_zero (n := G)).1 hG0; omega)
   clear hG0
   have lq1 : (digs A.natAbs).length ≤ 12 := by have := HL.out; have := HLL.out; omega
   have HQ1 := Lib.hid (implQuo_any 40 _ _ n1 _ A (G : Int) ws (HN.out ws H9.out.1.up).1 (H9.out.2.1.raw (by rw [Int.natAbs_natCast]; have := HGL.out; omega)) (by have := HLL.out; omega) (by rw [Int.natAbs_natCast]; have := HGL.out; omega) (HN.out ws H9.out.1.up).2.2.2.2 (div40 _ _ (by rw [Int.natAbs_natCast]; exact HG0.out) (by rw [Int.natAbs_natCast]; have := HGL.out; omega) (by omega)))
   rw [show A.tmod (G : Int) = 0 from by rw [← HGE.out]; exact gcd_tmod rfl] at HQ1
   clear lq1
   go_wp2_with fail
   refine HQ1.out.mono ?_
   rintro e w10 ⟨vq, vr, rfl, nq, nr, u10⟩
   obtain ⟨Aq, cq, rfl, _, _⟩ := id nq
   obtain ⟨Ar, cr, rfl, _, _⟩ := id nr
   generalize decide (A.tdiv (G : Int) < 0) = sq
   generalize (digs (A.tdiv (G : Int)).natAbs).length = mq
   generalize decide ((0 : Int) < 0) = sr at nr ⊢
   generalize (digs (0 : Int).natAbs).length = mr at nr ⊢
   have hbb := B2.made w10 sq sr Aq Ar mq mr cq cr
   have H11 := Lib.hid (And.intro (H9.out.1.upd (u10.trans hbb.1)) (And.intro (H9.out.2.1.upd (u10.trans hbb.1)) (And.intro (H9.out.2.2.upd (u10.trans hbb.1)) (And.intro (nr.upd hbb.1) hbb.2.2))))
   have H11b := Lib.hid H11.out.1
   have z0 := H11.out.2.2.1.c0.cell
   have z1 := H11.out.2.2.1.c1.cell
   have c0 := H11b.out.b1.c0.cell
   have c1 := H11b.out.b1.c1.cell
   have c2 := H11b.out.b2.c0.cell
   have c3 := H11b.out.b2.c1.cell
   have c4 := H11b.out.b3.c0.cell
   have c5 := H11b.out.b3.c1.cell
   clear nq hbb nr u10 HQ1 H11b
   go_wp2_with fail
   obtain ⟨gq, hgq⟩ : ∃ g, w10.heap.size = g := ⟨_, rfl⟩
   obtain ⟨w11, hw11⟩ : ∃ w2, ((w10.alloc (.cells #[.bool sq, .slice Aq mq cq] 24)).alloc (.cells #[.bool sr, .slice Ar mr cr] 24)) = w2 := ⟨_, rfl⟩
   rw [hgq, hw11] at H11
   rw [hgq, hw11]
   clear hgq hw11 z0 z1 c0 c1 c2 c3 c4 c5
   have lq2 : (digs B.natAbs).length ≤ 12 := by have := HL.out; have := HLL.out; omega
   have HQ2 := Lib.hid (implQuo_any 40 _ _ n2 _ B (G : Int) w11 (HN.out w11 H11.out.1.up).2.1 (H11.out.2.1.raw (by rw [Int.natAbs_natCast]; have := HGL.out; omega)) (by have := HLL.out; omega) (by rw [Int.natAbs_natCast]; have := HGL.out; omega) (HN.out w11 H11.out.1.up).2.2.2.2 (div40 _ _ (by rw [Int.natAbs_natCast]; exact HG0.out) (by rw [Int.natAbs_natCast]; have := HGL.out; omega) (by omega)))
   rw [show B.tmod (G : Int) = 0 from by rw [← HGE.out]; exact gcd_tmod2 rfl] at HQ2
   clear lq2
   refine HQ2.out.mono ?_
   rintro e w12 ⟨vq2, vr2, rfl, nq2, nr2, u12⟩
   obtain ⟨Aq2, cq2, rfl, _, _⟩ := id nq2
   obtain ⟨Ar2, cr2, rfl, _, _⟩ := id nr2
   generalize decide (B.tdiv (G : Int) < 0) = sq2
   generalize (digs (B.tdiv (G : Int)).natAbs).length = mq2
   generalize decide ((0 : Int) < 0) = sr2 at nr2 ⊢
   generalize (digs (0 : Int).natAbs).length = mr2 at nr2 ⊢
   have hbb := B2.made w12 sq2 sr2 Aq2 Ar2 mq2 mr2 cq2 cr2
   have H13 := Lib.hid (And.intro (H11.out.1.up.trans (u12.trans hbb.1)) (And.intro (H11.out.2.2.2.1.upd (u12.trans hbb.1)) (And.intro (H11.out.2.2.2.2.upd (u12.trans hbb.1)) (And.intro (nr2.upd hbb.1) hbb.2.2))))
   have r0 := H13.out.2.2.1.c0.cell
   have r1 := H13.out.2.2.1.c1.cell
   clear nq2 hbb nr2 u12 HQ2
   go_wp2_with fail
   obtain ⟨gs, hgs⟩ : ∃ g, w12.heap.size = g := ⟨_, rfl⟩
   obtain ⟨w13, hw13⟩ : ∃ w2, ((w12.alloc (.cells #[.bool sq2, .slice Aq2 mq2 cq2] 24)).alloc (.cells #[.bool sr2, .slice Ar2 mr2 cr2] 24)) = w2 := ⟨_, rfl⟩
   rw [hgs, hw13] at H13
   rw [hgs, hw13]
   clear hgs hw13 r0 r1
   have KZ := Lib.hid (zero_sp _ 0 w13 H13.out.2.1 (by rw [natAbs_len_zero.2 rfl]; omega))
   rw [show decide ((0 : Int) = 0) = true from rfl] at KZ
   refine KZ.out.mono ?_
   rintro e w14 ⟨rfl, u14⟩
   have H14 := Lib.hid (And.intro (H13.out.1.trans u14) (And.intro (H13.out.2.2.2.1.upd u14) (H13.out.2.2.2.2.upd u14)))
   have r0 := H14.out.2.2.c0.cell
   have r1 := H14.out.2.2.c1.cell
   have KZ2 := Lib.hid (zero_sp _ 0 w14 H14.out.2.1 (by rw [natAbs_len_zero.2 rfl]; omega))
   rw [show decide ((0 : Int) = 0) = true from rfl] at KZ2
   clear u14 KZ
   go_wp2_with fail
   refine KZ2.out.mono ?_
   rintro e w15 ⟨rfl, u15⟩
   have HU := Lib.hid (H14.out.1.trans u15)
   clear u15
   go_wp2_with fail
   go_ret
   exact ⟨rfl, HU.out⟩
end Go.Proofs.YthkklkjldpcbkaaGreatDoor
