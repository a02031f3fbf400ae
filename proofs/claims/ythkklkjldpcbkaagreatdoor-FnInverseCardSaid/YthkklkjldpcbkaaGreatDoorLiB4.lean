/- For the claim of laws.FnInverse: Times, Num, Sp. -/
import Derived.Test.YthkklkjldpcbkaaGreatDoorLiB3
import Derived.Test.YthkklkjldpcbkaaGreatDoorLiB2
import Derived.Deep.RegionHeld3
set_option linter.unusedVariables false
set_option linter.unusedSimpArgs false
set_option maxHeartbeats 16000000
set_option maxRecDepth 1000000
namespace Go.Proofs.YthkklkjldpcbkaaGreatDoor
open Go.RowKit Go.Proofs.YthkklkjldpcbkaaGreatDoor.PSpec Go.Proofs.YthkklkjldpcbkaaGreatDoorW.PrintWords Go.Proofs.YthkklkjldpcbkaaGreatDoorW.PrintLast Go.Proofs.YthkklkjldpcbkaaGreatDoorW.PrintMore
theorem C_upd {k : IntKind} {w w' : World} {A : Option Addr} {n : Nat} {xs : List Int} (h : Kd.C (Kd.int k) w A n xs) (u : Upd NoF w w') : Kd.C (Kd.int k) w' A n xs :=
 Kd.C_below h (u.below _ (Nat.le_refl _) (fun _ _ _ h => h))
theorem C_set {k : IntKind} {w : World} {A : Option Addr} {n : Nat} {xs : List Int} {p : Addr} {v : Value} (h : Kd.C (Kd.int k) w A n xs) (hp : w.cell? p = some v) (hv : ∀ i, v ≠ .int k i) (x : Value) : Kd.C (Kd.int k) (w.setCell p x) A n xs := by
 refine ⟨h.1, h.2.1, fun h0 => ?_⟩
 obtain ⟨ad, hA, hc⟩ := h.2.2 h0
 refine ⟨ad, hA, fun j q hj => ?_⟩
 obtain ⟨c, c1, c2, c3⟩ := hc j q hj
 refine ⟨c, c1, c2, fun i u hi => ?_⟩
 have h1 := c3 i u hi
 have c2' : c = [.int k q] := c2
 have hu : u = .int k q := by
  rw [c2'] at hi
  match i, hi with
  | 0, hi => exact (Option.some.inj hi).symm
  | i + 1, hi => simp at hi
 have hne : p ≠ ad.add (j * (Kd.int k).sz + i) := fun e => by rw [<- e, hp, hu] at h1; exact hv _ (Option.some.inj h1)
 rw [World.cell?_setCell_other _ _ _ _ hne]
 exact h1
theorem sign_any (a0 : Bool) (A : Option Addr) (n c : Nat) (w : World) :
  Calls Tryz.prog 33 #[.bool a0, .slice A n c] w fun e w' => e = .returned (.agg #[.bool (a0 && decide (0 < n)), .slice A n c]) /\ Below w.heap.size w w' := by
 have HB := Zd.mk (Below.refl w.heap.size w)
 cases a0 with
 | true =>
  go_enter Tryz.func33, Tryz.ntmps33
  go_wp2_with (first | ((with_reducible refine gate_dst (N := 4) rfl ?_); (try (refine gate_guard (by rfl) ?_; dsimp only)); refine box_event ?hg (N := 4) ?hd (cs := #[.bool false, .slice none 0 0]) (t := 32) ?hr ?_; (case hd => rfl); (case hg => rfl); (case hr => first | (go_simp; done) | (go_simp; rfl)); intro gb hg w4 hbox hb; have n2_ := Zd.mk (Zi HB.out hb); have n3_ := Zd.mk (hbox); have n5_ := Zd.mk ((by rw [hg]; exact (Ze HB.out) : w.heap.size <= gb)); clear HB; have HB := n2_; have BK := n3_; have GE := n5_; clear n2_ n3_ n5_; clear hb hbox hg; have hcz6_0 : w4.cell? ⟨gb, 0, none⟩ = some (.bool false) := (Zu BK.out 0).trans rfl; have hcz6_1 : w4.cell? ⟨gb, 1, none⟩ = some (.slice none 0 0) := (Zu BK.out 1).trans rfl; have hfz6_0 := Zm BK.out 0; have hfz6_1 := Zm BK.out 1))
  refine bodyPost_ret (results_cell_row rfl _ _ gb 32 #[.bool (decide (0 < n)), .slice A n c] (0, 0) _ rfl (by (with_reducible repeat (first | refine Zo ?_ _ | refine Zt ?_ | refine Zp ?_ _)); refine blk_put (cs := #[.bool (decide (0 < n)), .slice none 0 0]) ?_ 1 _ rfl; (with_reducible repeat (first | refine Zo ?_ _ | refine Zt ?_ | refine Zp ?_ _)); refine blk_put (cs := #[.bool false, .slice none 0 0]) ?_ 0 _ rfl; (with_reducible repeat (first | refine Zo ?_ _ | refine Zt ?_ | refine Zp ?_ _)); exact BK.out) Tryz.underlying32 rfl (by kernel_rfl)) rfl ?_
  exact ⟨rfl, by repeat (first | (with_reducible first | exact HB.out | apply Zb | apply Za | apply Zc | refine Zk ?_ GE.out) | exact HB.out)⟩
 | false =>
  go_enter Tryz.func33, Tryz.ntmps33
  go_wp2_with (first | ((with_reducible refine gate_dst (N := 4) rfl ?_); (try (refine gate_guard (by rfl) ?_; dsimp only)); refine box_event ?hg (N := 4) ?hd (cs := #[.bool false, .slice none 0 0]) (t := 32) ?hr ?_; (case hd => rfl); (case hg => rfl); (case hr => first | (go_simp; done) | (go_simp; rfl)); intro gb hg w4 hbox hb; have n2_ := Zd.mk (Zi HB.out hb); have n3_ := Zd.mk (hbox); have n5_ := Zd.mk ((by rw [hg]; exact (Ze HB.out) : w.heap.size <= gb)); clear HB; have HB := n2_; have BK := n3_; have GE := n5_; clear n2_ n3_ n5_; clear hb hbox hg; have hcz6_0 : w4.cell? ⟨gb, 0, none⟩ = some (.bool false) := (Zu BK.out 0).trans rfl; have hcz6_1 : w4.cell? ⟨gb, 1, none⟩ = some (.slice none 0 0) := (Zu BK.out 1).trans rfl; have hfz6_0 := Zm BK.out 0; have hfz6_1 := Zm BK.out 1))
  refine bodyPost_ret (results_cell_row rfl _ _ gb 32 #[.bool false, .slice A n c] (0, 0) _ rfl (by (with_reducible repeat (first | refine Zo ?_ _ | refine Zt ?_ | refine Zp ?_ _)); refine blk_put (cs := #[.bool false, .slice none 0 0]) ?_ 1 _ rfl; (with_reducible repeat (first | refine Zo ?_ _ | refine Zt ?_ | refine Zp ?_ _)); refine blk_put (cs := #[.bool false, .slice none 0 0]) ?_ 0 _ rfl; (with_reducible repeat (first | refine Zo ?_ _ | refine Zt ?_ | refine Zp ?_ _)); exact BK.out) Tryz.underlying32 rfl (by kernel_rfl)) rfl ?_
  exact ⟨rfl, by repeat (first | (with_reducible first | exact HB.out | apply Zb | apply Za | apply Zc | refine Zk ?_ GE.out) | exact HB.out)⟩
theorem Times_any (k : Nat) (an bn : Bool) (A0 A1 : Option Addr) (n m c0 c1 : Nat) (l0 l1 r : List Int) (w : World) (hn : l0.length = n) (hm : l1.length = m) (hr0 : Kd.C (Kd.int .i64) w A0 n l0) (hc0 : n <= c0) (hr1 : Kd.C (Kd.int .i64) w A1 m l1) (hc1 : m <= c1) (h : spec_Mul.f k l0 l1 = some r) :
  Calls Tryz.prog 14 #[.agg #[.bool an, .slice A0 n c0], .agg #[.bool bn, .slice A1 m c1]] w fun e w' => ∃ (A : Option Addr) (c : Nat),
   e = .returned (.agg #[.bool ((an != bn) && decide (0 < r.length)), .slice A r.length c]) /\ r.length <= c /\ Kd.C (Kd.int .i64) w' A r.length r /\ Upd NoF w w' := by
 have HMUL0 := Qq (fun (w' : World) (u : Upd NoF w w') => (show Calls Tryz.prog 36 #[.slice A0 n c0, .slice A1 m c1] w' fun e w'' => ∃ (A : Option Addr) (c : Nat), e = .returned (.slice A r.length c) /\ Hid (r.length <= c /\ Kd.C (Kd.int .i64) w'' A r.length r) /\ Upd NoF w' w'' from by
  subst hn; subst hm
  refine (spec_Mul.calls k A0 c0 l0 A1 c1 l1 r w' (C_upd hr0 u) hc0 (C_upd hr1 u) hc1 h).mono ?_
  rintro e w'' ⟨v, rfl, hV, hb⟩
  obtain ⟨A, c, rfl⟩ := Kd.V_slice hV
  have h2 := Kd.V_reads' hV
  exact ⟨A, c, rfl, ⟨h2.2.1, h2.2.2⟩, Upd.ofBelow hb⟩))
 clear hn hm hr0 hr1 hc0 hc1 h
 obtain ⟨q, hq⟩ : ∃ q, r.length = q := ⟨_, rfl⟩
 rw [hq] at HMUL0 ⊢
 clear hq
 go_enter Tryz.func14, Tryz.ntmps14
 go_wp2_with fail
 obtain ⟨g, hg⟩ : ∃ g, w.heap.size = g := ⟨_, rfl⟩
 obtain ⟨w3, hw3⟩ : ∃ w3, ((w.alloc (.cells #[.bool an, .slice A0 n c0] 32)).alloc (.cells #[.bool bn, .slice A1 m c1] 32)).alloc (.cells #[.bool false, .slice none 0 0] 32) = w3 := ⟨_, rfl⟩
 rw [hg, hw3]
 have u3 : Upd NoF w w3 := by rw [<- hw3]; exact (((Upd.refl NoF w).alloc _).alloc _).alloc _
 have hs3 : w3.heap.size = g + 3 := by rw [<- hw3]; simp [hg]
 have h1 := heap_alloc_new w (.cells #[.bool an, .slice A0 n c0] 32)
 have h2 := heap_alloc_new (w.alloc (.cells #[.bool an, .slice A0 n c0] 32)) (.cells #[.bool bn, .slice A1 m c1] 32)
 have h3 := heap_alloc_new ((w.alloc (.cells #[.bool an, .slice A0 n c0] 32)).alloc (.cells #[.bool bn, .slice A1 m c1] 32)) (.cells #[.bool false, .slice none 0 0] 32)
 simp only [World.size_alloc, hg] at h1 h2 h3
 rw [hw3] at h3
 have hS : ∀ w', Upd (Blk (g + 1 + 1)) w3 w' -> w'.cell? ⟨g, 0, none⟩ = some (.bool an) /\ w'.cell? ⟨g, 1, none⟩ = some (.slice A0 n c0) /\ w'.cell? ⟨g + 1, 0, none⟩ = some (.bool bn) /\ w'.cell? ⟨g + 1, 1, none⟩ = some (.slice A1 m c1) := by
  intro w' u
  have v1 : Upd (Blk (g + 1 + 1)) (w.alloc (.cells #[.bool an, .slice A0 n c0] 32)) w' := by refine Upd.trans ?_ u; rw [<- hw3]; exact ((Upd.refl _ _).alloc _).alloc _
  have v2 : Upd (Blk (g + 1 + 1)) ((w.alloc (.cells #[.bool an, .slice A0 n c0] 32)).alloc (.cells #[.bool bn, .slice A1 m c1] 32)) w' := by refine Upd.trans ?_ u; rw [<- hw3]; exact (Upd.refl _ _).alloc _
  have ne1 : ∀ i, ¬ Blk (g + 1 + 1) g i := fun i (h : g = g + 1 + 1) => by omega
  have ne2 : ∀ i, ¬ Blk (g + 1 + 1) (g + 1) i := fun i (h : g + 1 = g + 1 + 1) => by omega
  have a1 : Zh 32 w' g 0 (.bool an) := Zh.upd ⟨_, h1, by simp⟩ v1 (ne1 _)
  have a2 : Zh 32 w' g 1 (.slice A0 n c0) := Zh.upd ⟨_, h1, by simp⟩ v1 (ne1 _)
  have a3 : Zh 32 w' (g + 1) 0 (.bool bn) := Zh.upd ⟨_, h2, by simp⟩ v2 (ne2 _)
  have a4 : Zh 32 w' (g + 1) 1 (.slice A1 m c1) := Zh.upd ⟨_, h2, by simp⟩ v2 (ne2 _)
  exact ⟨a1.cell, a2.cell, a3.cell, a4.cell⟩
 have hS2 : ∀ w', Upd NoF w3 w' -> Zh 32 w' (g + 1 + 1) 0 (.bool false) /\ Zh 32 w' (g + 1 + 1) 1 (.slice none 0 0) := fun w' u =>
  ⟨Zh.upd ⟨_, h3, by simp⟩ u (fun h => h), Zh.upd ⟨_, h3, by simp⟩ u (fun h => h)⟩
 have HS2 := Qq hS2
 have HST := Qq (fun (wt : World) (u : Upd NoF w3 wt) (a c : Value) => (show Upd (Blk (g + 1 + 1)) w3 ((wt.setCell ⟨g + 1 + 1, 0, none⟩ a).setCell ⟨g + 1 + 1, 1, none⟩ c) from ((u.weak (G := Blk (g + 1 + 1)) (fun _ _ h => h.elim)).setCell (fun _ => rfl) a).setCell (fun _ => rfl) c))
 clear h1 h2 h3 hS2
 have HS := Qq (Qj hS (Qj u3 hs3))
 have HU0 := Qq (fun (w' : World) (u : Upd NoF w3 w') => u3.trans u)
 have HMUL := Qq (fun (w' : World) (u : Upd NoF w3 w') =>
  (HMUL0.out w' (HU0.out w' u)).mono (R' := fun e w'' => ∃ (A : Option Addr) (c : Nat), e = .returned (.slice A q c) /\ Hid (q <= c /\ Kd.C (Kd.int .i64) w'' A q r) /\ Upd NoF w3 w'')
   (fun e w'' ⟨A, c, he, h1, h2⟩ => ⟨A, c, he, h1, u.trans h2⟩))
 have HSIGN := Qq (fun (s : Bool) (A : Option Addr) (c : Nat) (w1 w' : World) (hC : Hid (q <= c /\ Kd.C (Kd.int .i64) w1 A q r)) (u1 : Upd NoF w1 w') (u : Upd NoF w3 w') =>
  (sign_any s A q c w').mono (R' := fun e w'' => e = .returned (.agg #[.bool (s && decide (0 < q)), .slice A q c]) /\ Hid (q <= c /\ Kd.C (Kd.int .i64) w'' A q r) /\ Upd NoF w3 w'')
   (fun e w'' ⟨he, hb⟩ => ⟨he, ⟨hC.out.1, C_upd hC.out.2 (u1.trans (Upd.ofBelow hb))⟩, u.trans (Upd.ofBelow hb)⟩))
 have HG := Qq hg
 clear hg hw3 u3 hs3 hS
 go_region_held3 (fun w' => w'.cell? ⟨g, 0, none⟩ = some (.bool an) /\ w'.cell? ⟨g, 1, none⟩ = some (.slice A0 n c0) /\ w'.cell? ⟨g + 1, 0, none⟩ = some (.bool bn) /\ w'.cell? ⟨g + 1, 1, none⟩ = some (.slice A1 m c1))
  (first | exact HS.out.1 _ (HST.out _ (by assumption) _ _) | exact HS.out.1 _ (Upd.weak (F := NoF) (by (repeat (first | exact Upd.refl _ _ | assumption | refine Upd.alloc ?_ _ | refine Upd.drew ?_ | refine Upd.drewN ?_ _ | refine Upd.trans ?_ (by assumption)))) (fun _ _ h => h.elim)))
  (first
   | ((go_at_call 36; refine (HMUL.out _ (by (repeat (first | exact Upd.refl _ _ | assumption | refine Upd.alloc ?_ _ | refine Upd.drew ?_ | refine Upd.drewN ?_ _ | refine Upd.trans ?_ (by assumption))))).mono ?_; rintro e wm ⟨Am, cm, rfl, hCm, hUm⟩))
   | ((go_at_call 33; refine (HSIGN.out _ Am cm wm _ hCm (by (repeat (first | exact Upd.refl _ _ | refine Upd.alloc ?_ _ | refine Upd.drew ?_ | refine Upd.drewN ?_ _))) (by (repeat (first | exact Upd.refl _ _ | assumption | refine Upd.alloc ?_ _ | refine Upd.drew ?_ | refine Upd.drewN ?_ _ | refine Upd.trans ?_ (by assumption))))).mono ?_; rintro e wt ⟨rfl, hCt, hUt⟩; have d1 := (HS2.out wt hUt).1.cell; have d2 := (HS2.out wt hUt).2.cell; have f1 := (HS2.out wt hUt).1.frozen; have f2 := (HS2.out wt hUt).2.frozen)))
 all_goals
  obtain ⟨B, hB⟩ : ∃ B, (!(an == bn) && decide (0 < q)) = B := ⟨_, rfl⟩
  simp only [hB]
  have HF := Qq (Qj (HS2.out wt hUt) (Qj hCt.out (HU0.out _ hUt)))
  have hge : w.heap.size <= g := by have := HG.out; omega
  have hU2 : Upd NoF w ((wt.setCell ⟨g + 1 + 1, 0, none⟩ (.bool B)).setCell ⟨g + 1 + 1, 1, none⟩ (.slice Am q cm)) := (HF.out.2.2.setCell (fun h => by omega) _).setCell (fun h => by omega) _
  have hR2 : Kd.C (Kd.int .i64) ((wt.setCell ⟨g + 1 + 1, 0, none⟩ (.bool B)).setCell ⟨g + 1 + 1, 1, none⟩ (.slice Am q cm)) Am q r :=
   C_set (C_set HF.out.2.1.2 HF.out.1.1.cell (fun _ h => by cases h) _) ((HF.out.1.2.far (b' := g + 1 + 1) (i' := 0) (.bool B) (by omega)).cell) (fun _ h => by cases h) _
  have e1 := HF.out.1.1
  have e2 := HF.out.1.2
  have g1 := ((e1.set (.bool B)).far (b' := g + 1 + 1) (i' := 1) (.slice Am q cm) (by omega)).cell
  have g2 := ((e2.far (b' := g + 1 + 1) (i' := 0) (.bool B) (by omega)).set (.slice Am q cm)).cell
  have HE := Qq (Qj hU2 (Qj hR2 (Qj HF.out.2.1.1 hB)))
  clear hUt hCt hUm hCm hge hU2 hR2 e1 e2 d1 d2 f1 f2 hB
  go_wp2_with fail
  refine bodyPost_ret (v := .agg #[.bool B, .slice Am q cm]) (by simp [results, Tryz.results14, go_sem, g1, g2]) rfl ?_
  exact ⟨Am, cm, by rw [<- HE.out.2.2.2]; rfl, HE.out.2.2.1, HE.out.2.1, HE.out.1⟩
open Go.RowKit
def NumI (w : World) (v : Value) (V : Int) : Prop :=
 ∃ (A : Option Addr) (c : Nat), v = .agg #[.bool (decide (V < 0)), .slice A (digs V.natAbs).length c] /\ (digs V.natAbs).length <= c /\ RdU w A (digs V.natAbs)
theorem NumI.upd {w w' : World} {v : Value} {V : Int} (h : NumI w v V) (u : Upd NoF w w') : NumI w' v V := let ⟨A, c, h1, h2, h4⟩ := h; ⟨A, c, h1, h2, h4.upd u⟩
def NumR (w : World) (v : Value) (n : Nat) (V : Int) : Prop :=
 ∃ (s : Bool) (A : Option Addr) (c : Nat) (xs : List Nat), v = .agg #[.bool s, .slice A n c] /\ xs.length = n /\ n <= c /\ n <= 9223372036854775807 /\ Digs B64 xs /\ RdU w A xs /\ V = sg s (val B64 xs)
theorem NumR.upd {w w' : World} {v : Value} {n : Nat} {V : Int} (h : NumR w v n V) (u : Upd NoF w w') : NumR w' v n V :=
 let ⟨s, A, c, xs, h1, h2, h3, h4, h5, h6, h7⟩ := h; ⟨s, A, c, xs, h1, h2, h3, h4, h5, h6.upd u, h7⟩
theorem natAbs_sg (s : Bool) (k : Nat) : (sg s k).natAbs = k := by unfold sg; split <;> omega
theorem sg_self (V : Int) : sg (decide (V < 0)) V.natAbs = V := by
 unfold sg
 by_cases h : V < 0
 . rw [decide_eq_true h, if_pos rfl]; omega
 . rw [decide_eq_false h, if_neg (by decide)]; omega
theorem NumR.len {w : World} {v : Value} {n : Nat} {V : Int} (h : NumR w v n V) : (digs V.natAbs).length <= n := by
 obtain ⟨s, A, c, xs, h1, h2, h3, h4, h5, h6, h7⟩ := h
 rw [h7, natAbs_sg, <- h2]
 exact digs_len_le h5
theorem NumI.raw {w : World} {v : Value} {V : Int} (h : NumI w v V) (hb : (digs V.natAbs).length <= 9223372036854775807) : NumR w v (digs V.natAbs).length V := by
 obtain ⟨A, c, h1, h2, h4⟩ := h
 exact ⟨_, A, c, digs V.natAbs, h1, rfl, h2, hb, Yc _, h4, by rw [Zv, sg_self]⟩
theorem RdU.store {T : TypeId} {w : World} {g : Nat} {v1 v2 x1 x2 : Value} {A : Option Addr} {xs : List Nat} (h : RdU w A xs) (c0 : Zh T w g 0 v1) (c1 : Zh T w g 1 v2) (n1 : ∀ k i, v1 ≠ .int k i) (n2 : ∀ k i, v2 ≠ .int k i) :
  RdU ((w.setCell ⟨g, 0, none⟩ x1).setCell ⟨g, 1, none⟩ x2) A xs := fun h0 => by
 obtain ⟨ad, rfl, hcell⟩ := h h0
 refine ⟨ad, rfl, fun i hi => ?_⟩
 have h1 := hcell i hi
 have h8 : (⟨g, 0, none⟩ : Addr) ≠ ad.add i := fun e => by rw [<- e, c0.cell] at h1; exact n1 _ _ (Option.some.inj h1)
 have h9 : (⟨g, 1, none⟩ : Addr) ≠ ad.add i := fun e => by rw [<- e, c1.cell] at h1; exact n2 _ _ (Option.some.inj h1)
 rw [World.cell?_setCell_other _ _ _ _ h9, World.cell?_setCell_other _ _ _ _ h8]
 exact h1
theorem stored_pair {T : TypeId} {w wt : World} {g : Nat} {v1 v2 x1 x2 : Value} (c0 : Zh T wt g 0 v1) (c1 : Zh T wt g 1 v2) (u : Upd NoF w wt) (hg : w.heap.size <= g) :
  Upd NoF w ((wt.setCell ⟨g, 0, none⟩ x1).setCell ⟨g, 1, none⟩ x2) /\ ((wt.setCell ⟨g, 0, none⟩ x1).setCell ⟨g, 1, none⟩ x2).cell? ⟨g, 0, none⟩ = some x1 /\ ((wt.setCell ⟨g, 0, none⟩ x1).setCell ⟨g, 1, none⟩ x2).cell? ⟨g, 1, none⟩ = some x2 :=
 ⟨(u.setCell (fun h => by omega) _).setCell (fun h => by omega) _, ((c0.set x1).far (b' := g) (i' := 1) x2 (by omega)).cell, ((c1.far (b' := g) (i' := 0) x1 (by omega)).set x2).cell⟩
theorem told_num (b : Nat) (l : Loc) (v : Int) (w : World) (hI : IntV w b l v) (hlen : (digs v.natAbs).length <= 1099511627776) :
  Calls Tryz.prog 31 #[.pointer (some ⟨b, 0, none⟩)] w fun e w' => ∃ v', e = .returned v' /\ NumI w' v' v /\ Upd NoF w w' :=
 (told_any b _ l v w hI rfl hlen).mono (fun _ _ ⟨A, c, he, h1, _, h3, h4⟩ => ⟨_, he, ⟨A, c, rfl, h1, h3⟩, h4⟩)
theorem of_num (v : Value) (n : Nat) (V : Int) (w : World) (h : NumR w v n V) (hlen : n <= 1099511627776) :
  Calls Tryz.prog 30 #[v] w fun e w' => ∃ (ib : Nat) (l : Loc), e = .returned (.pointer (some ⟨ib, 0, none⟩)) /\ w.heap.size <= ib /\ (0 < l.c -> w.heap.size <= l.b) /\ IntV w' ib l V /\ Upd NoF w w' := by
 obtain ⟨s, A, c, xs, rfl, h2, h3, h4, h5, h6, h7⟩ := h
 rw [h7]
 exact of_any s A n c xs w h2 h3 hlen h5 h6
theorem intBox (w w' : World) (u : Upd NoF (w.alloc (.cells #[.bool false, .slice none 0 0] 58)) w') : IntD w' w.heap.size ⟨none, 0, 0, 0⟩ false 0 := IntD.made u
def SpN (w : World) (v : Value) (N : Nat) : Prop := ∃ (A : Option Addr) (c : Nat), v = .slice A (ds N).length c /\ (ds N).length <= c /\ Kd.C (Kd.int .i64) w A (ds N).length (ints (ds N))
def SpI (w : World) (v : Value) (V : Int) : Prop := ∃ (A : Option Addr) (c : Nat), v = .agg #[.bool (decide (V < 0)), .slice A (ds V.natAbs).length c] /\ (ds V.natAbs).length <= c /\ Kd.C (Kd.int .i64) w A (ds V.natAbs).length (ints (ds V.natAbs))
theorem SpN.upd {w w' : World} {v : Value} {N : Nat} (h : SpN w v N) (u : Upd NoF w w') : SpN w' v N := let ⟨A, c, h1, h2, h3⟩ := h; ⟨A, c, h1, h2, C_upd h3 u⟩
theorem SpI.upd {w w' : World} {v : Value} {V : Int} (h : SpI w v V) (u : Upd NoF w w') : SpI w' v V := let ⟨A, c, h1, h2, h3⟩ := h; ⟨A, c, h1, h2, C_upd h3 u⟩
theorem SpN.ofV {w w' : World} {v : Value} {N t : Nat} {ok : Nat -> Prop} (h : Kd.V (Kd.int .i64) t w' w.heap.size ok v (ints (ds N))) : SpN w' v N := by
 obtain ⟨A, c, rfl⟩ := Kd.V_slice h
 have h2 := Kd.V_reads' h
 rw [Zf] at h2
 exact ⟨A, c, by rw [Zf], h2.2.1, h2.2.2⟩
theorem SpN.ofR {w w' : World} {v : Value} {N t : Nat} {ok : Nat -> Prop} (h : Kd.R (Kd.int .i64) t w' w.heap.size ok v (ints (ds N))) : SpN w' v N := by
 obtain ⟨A, c, rfl⟩ := Kd.R_slice h
 have h2 := Kd.R_reads' h
 rw [Zf] at h2
 exact ⟨A, c, by rw [Zf], h2.2.1, h2.2.2⟩
theorem ds_len4 (N : Nat) : (ds N).length <= 4 * (digs N).length := by
 refine ds_len_of_lt ?_
 rw [Nat.pow_mul, <- B64_pow]
 exact Yf N
theorem C_of_RdU {w : World} {A : Option Addr} {xs : List Nat} {n : Nat} (h : RdU w A xs) (hn : xs.length = n) (hb : n <= 9223372036854775807) : Kd.C (Kd.int .u64) w A n (ints xs) := by
 refine ⟨by rw [Zf]; exact hn, hb, fun h0 => ?_⟩
 obtain ⟨ad, hA, hc⟩ := h (by omega)
 refine ⟨ad, hA, fun j p hj => ⟨[.int .u64 p], rfl, rfl, fun i u hi => ?_⟩⟩
 have hj2 : j < xs.length := by
  have h1 := (List.getElem?_eq_some_iff.1 hj).1
  rw [Zf] at h1; exact h1
 have hp : ((xs[j] : Nat) : Int) = p := by
  have h1 := hj
  unfold ints at h1
  rw [List.getElem?_map, List.getElem?_eq_getElem hj2] at h1
  exact Option.some.inj h1
 have h2 := hc j hj2
 rw [hp] at h2
 match i, hi with
 | 0, hi =>
  have hu : Value.int .u64 p = u := Option.some.inj hi
  subst hu
  have e : j * (Kd.int .u64).sz + 0 = j := Nat.mul_one j
  rw [e]; exact h2
 | i + 1, hi => simp at hi
theorem spec_Small_l0 : ∀ (d n : Nat), n < 65536 ^ d -> n < 9223372036854775808 -> ∀ (k : Nat) (out : List Nat), d < k -> out.length + d <= 100 →
  spec_Small.l0 k (n : Int) (ints out) = some (ints (out ++ ds n)) := by
 intro d
 induction d with
 | zero =>
  intro n h _ k out hk _
  obtain ⟨k, rfl⟩ : ∃ m, k = m + 1 := ⟨k - 1, by omega⟩
  have : n = 0 := by rw [Nat.pow_zero] at h; omega
  subst this
  simp only [spec_Small.l0]
  rw [if_neg (by omega), ds_zero, List.append_nil]
 | succ d ih =>
  intro n h hn k out hk ho
  obtain ⟨k, rfl⟩ : ∃ m, k = m + 1 := ⟨k - 1, by omega⟩
  simp only [spec_Small.l0]
  by_cases h0 : n = 0
  .
   subst h0
   rw [if_neg (by omega), ds_zero, List.append_nil]
  .
   have hl : (ints out).length < 17592186044416 := by rw [Zf]; omega
   have e1 : Int.tdiv (n : Int) 65536 = ((n / 65536 : Nat) : Int) := rfl
   have e2 : Int.tmod (n : Int) 65536 = ((n % 65536 : Nat) : Int) := rfl
   have e3 : wrap64 ((n / 65536 : Nat) : Int) = ((n / 65536 : Nat) : Int) := by rw [Yh] <;> omega
   have e4 : ints out ++ [((n % 65536 : Nat) : Int)] = ints (out ++ [n % 65536]) := by rw [ints_append]; rfl
   have h1 : n / 65536 < 65536 ^ d := by rw [Nat.div_lt_iff_lt_mul (by omega), <- Nat.pow_succ]; exact h
   rw [if_pos (by omega), if_pos hl, e1, e2, e3, e4, ih (n / 65536) h1 (by omega) k _ (by omega) (by simp; omega), ds_pos h0, List.append_assoc]
   rfl
theorem spec_Small_any (n : Nat) (hn : n < 9223372036854775808) : ∃ k, spec_Small.f k (n : Int) = some (ints (ds n)) :=
 ⟨5, spec_Small_l0 4 n (by have : (65536 : Nat) ^ 4 = 18446744073709551616 := (by decide); omega) hn 5 [] (by omega) (by simp)⟩
theorem small_sp (n : Nat) (w : World) (hn : n < 9223372036854775808) : Calls Tryz.prog 19 #[.int .i64 (n : Int)] w fun e w' => ∃ v, e = .returned v /\ SpN w' v n /\ Upd NoF w w' := by
 obtain ⟨k, hk⟩ := spec_Small_any n hn
 exact (spec_Small.calls k _ _ w hk).mono (fun e w' ⟨v, he, hV, hb⟩ => ⟨v, he, SpN.ofR hV, Upd.ofBelow hb⟩)
theorem in_sp (v : Value) (n : Nat) (V : Int) (w : World) (h : NumR w v n V) (hl : n <= 1099511627776) :
  Calls Tryz.prog 11 #[v] w fun e w' => ∃ v', e = .returned v' /\ SpI w' v' V /\ Upd NoF w w' := by
 obtain ⟨s, A, c, xs, rfl, h2, h3, h4, h5, h6, h7⟩ := h
 obtain ⟨k, hk⟩ := spec_In_any s xs h5 (by omega)
 have h := spec_In.calls k s A c (ints xs) _ _ w (by rw [Zf, h2]; exact C_of_RdU h6 h2 (by omega)) (by rw [Zf, h2]; exact h3) hk
 rw [Zf, h2] at h
 refine h.mono ?_
 rintro e w' ⟨v, rfl, hV, hb⟩
 obtain ⟨A', c', rfl, k1, k2⟩ := SpN.ofV hV
 have e1 : V.natAbs = val B64 xs := by rw [h7, natAbs_sg]
 have e2 : (s && decide (val B64 xs ≠ 0)) = decide (V < 0) := by
  rw [h7]; unfold sg
  cases s
  . exact (decide_eq_false (by simp only [Bool.false_eq_true, if_false]; omega)).symm
  .
   by_cases h0 : val B64 xs = 0
   . rw [h0]; rfl
   . rw [if_pos rfl, decide_eq_true h0, decide_eq_true (by omega)]; rfl
 refine ⟨_, rfl, ⟨A', c', by rw [e1, e2], by rw [e1]; exact k1, by rw [e1]; exact k2⟩, Upd.ofBelow hb⟩
theorem times_sp (v1 v2 : Value) (X Y : Int) (w : World) (h1 : SpI w v1 X) (h2 : SpI w v2 Y) (hl : (ds X.natAbs).length + (ds Y.natAbs).length <= 35184372088832) :
  Calls Tryz.prog 14 #[v1, v2] w fun e w' => ∃ v', e = .returned v' /\ SpI w' v' (X * Y) /\ Upd NoF w w' := by
 obtain ⟨A1, c1, rfl, a1, a2⟩ := h1
 obtain ⟨A2, c2, rfl, b1, b2⟩ := h2
 obtain ⟨k, hk⟩ := spec_Mul_any (ds X.natAbs) (ds Y.natAbs) (ds_ds _) (ds_ds _) hl
 rw [val_ds, val_ds] at hk
 refine (Times_any k _ _ A1 A2 _ _ c1 c2 _ _ _ w (Zf _) (Zf _) a2 a1 b2 b1 hk).mono ?_
 rintro e w' ⟨A, c, rfl, k1, k2, u⟩
 rw [Zf] at k1 k2
 have e1 : (X * Y).natAbs = X.natAbs * Y.natAbs := Int.natAbs_mul X Y
 have hz := ds_empty (X.natAbs * Y.natAbs)
 have e2 : ((decide (X < 0) != decide (Y < 0)) && decide (0 < (ds (X.natAbs * Y.natAbs)).length)) = decide (X * Y < 0) := by
  by_cases h0 : X.natAbs * Y.natAbs = 0
  . rw [decide_eq_false (show ¬ 0 < (ds (X.natAbs * Y.natAbs)).length by have := hz.2 h0; omega), Bool.and_false, decide_eq_false (show ¬ X * Y < 0 by rw [<- e1] at h0; omega)]
  . rw [decide_eq_true (show 0 < (ds (X.natAbs * Y.natAbs)).length by have := mt hz.1 h0; omega), Bool.and_true, sign_mul rfl rfl h0]
 refine ⟨_, rfl, ⟨A, c, by rw [e1, Zf, e2], by rw [e1]; exact k1, by rw [e1]; exact k2⟩, u⟩
theorem zz_sp (v : Value) (n : Nat) (V : Int) (w : World) (h : NumR w v n V) : Calls Tryz.prog 8 #[v] w fun e w' => e = .returned (.bool (decide (n <= 2147483647))) /\ Upd NoF w w' := by
 obtain ⟨s, A, c, xs, rfl, h2, h3, h4, h5, h6, h7⟩ := h
 have hk : laws_zzFits1.f s (ints xs) = some (decide (n <= 2147483647)) := by
  unfold laws_zzFits1.f
  rw [Zf, h2]
  by_cases h : n <= 2147483647
  . rw [if_neg (by omega), decide_eq_true h]
  . rw [if_pos (by omega), decide_eq_false h]
 have h := laws_zzFits1.calls s A c (ints xs) _ w (by rw [Zf, h2]; exact C_of_RdU h6 h2 h4) (by rw [Zf, h2]; exact h3) hk
 rw [Zf, h2] at h
 exact h.mono (fun e w' ⟨he, hb⟩ => ⟨he, Upd.ofBelow hb⟩)
theorem big_sp (v : Value) (n : Nat) (V : Int) (m : Nat) (w : World) (h : NumR w v n V) : Calls Tryz.prog 9 #[v, .int .i64 (m : Int)] w fun e w' => e = .returned (.bool (decide (m < n))) /\ Upd NoF w w' := by
 obtain ⟨s, A, c, xs, rfl, h2, h3, h4, h5, h6, h7⟩ := h
 have hk : laws_big.f s (ints xs) (m : Int) = some (decide (m < n)) := by
  unfold laws_big.f
  rw [Zf, h2]
  congr 1
  by_cases h : m < n
  . rw [decide_eq_true h]; exact decide_eq_true (by omega)
  . rw [decide_eq_false h]; exact decide_eq_false (by omega)
 have h := laws_big.calls s A c (ints xs) (m : Int) _ w (by rw [Zf, h2]; exact C_of_RdU h6 h2 h4) (by rw [Zf, h2]; exact h3) hk
 rw [Zf, h2] at h
 exact h.mono (fun e w' ⟨he, hb⟩ => ⟨he, Upd.ofBelow hb⟩)
end Go.Proofs.YthkklkjldpcbkaaGreatDoor
