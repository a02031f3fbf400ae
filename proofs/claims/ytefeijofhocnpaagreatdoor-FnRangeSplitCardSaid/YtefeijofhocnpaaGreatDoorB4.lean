/- For the claim of laws.FnRange: Times. -/
import Derived.Test.YtefeijofhocnpaaGreatDoorB3
import Derived.Test.YtefeijofhocnpaaGreatDoorB2
import Derived.Deep.RegionHeld3
set_option linter.unusedVariables false
set_option linter.unusedSimpArgs false
/- spec.sign, spec.Times. -/
namespace Go.Proofs.YtefeijofhocnpaaGreatDoor
open Go.RowKit Go.Proofs.YtefeijofhocnpaaGreatDoor.PSpec Go.Proofs.YtefeijofhocnpaaGreatDoorW.PrintWords Go.Proofs.YtefeijofhocnpaaGreatDoorW.PrintLast Go.Proofs.YtefeijofhocnpaaGreatDoorW.PrintMore

theorem C_upd {k : IntKind} {w w' : World} {A : Option Addr} {n : Nat} {xs : List Int} (h : Kd.C (Kd.int k) w A n xs) (u : Upd NoF w w') : Kd.C (Kd.int k) w' A n xs :=
  Kd.C_below h (u.below _ (Nat.le_refl _) (fun _ _ _ h => h))

/-- a store into a cell that holds no int -/
theorem C_set {k : IntKind} {w : World} {A : Option Addr} {n : Nat} {xs : List Int} {p : Addr} {v : Value} (h : Kd.C (Kd.int k) w A n xs) (hp : w.cell? p = some v) (hv : ∀ i, v ≠ .int k i) (x : Value) : Kd.C (Kd.int k) (w.setCell p x) A n xs := by
  refine ⟨h.1, h.2.1, fun h0 => ?_⟩
  obtain ⟨ad, hA, hc⟩ := h.2.2 h0
  refine ⟨ad, hA, fun j q hj => ?_⟩
  obtain ⟨c, c1, c2, c3⟩ := hc j q hj
  refine ⟨c, c1, c2, fun i u hi => ?_⟩
  have h1 := c3 i u hi
  have c2' : c = [.int k q] := c2
  have hu : u = .int k q := by
    rw [c2'] at hi
    match i, hi with
    | 0, hi => exact (Option.some.inj hi).symm
    | i + 1, hi => simp at hi
  have hne : p ≠ ad.add (j * (Kd.int k).sz + i) := fun e => by rw [← e, hp, hu] at h1; exact hv _ (Option.some.inj h1)
  rw [World.cell?_setCell_other _ _ _ _ hne]
  exact h1

set_option maxRecDepth 1000000 in
set_option maxHeartbeats 1600000 in
theorem sign_any (a0 : Bool) (A : Option Addr) (n c : Nat) (w : World) :
    Calls Tryz.prog 50 #[.bool a0, .slice A n c] w fun e w' => e = .returned (.agg #[.bool (a0 && decide (0 < n)), .slice A n c]) ∧ Below w.heap.size w w' := by
  have HB := Aside0.mk (Below.refl w.heap.size w)
  cases a0 with
  | true =>
    go_enter Tryz.func50, Tryz.ntmps50
    go_wp2_with (first | ((with_reducible refine gate_dst (N := 4) rfl ?_); (try (refine gate_guard (by rfl) ?_; dsimp only)); refine box_event ?hg (N := 4) ?hd (cs := #[.bool false, .slice none 0 0]) (t := 27) ?hr ?_; (case hd => rfl); (case hg => rfl); (case hr => first | (go_simp; done) | (go_simp; rfl)); intro gb hg w4 hbox hb; have n2_ := Aside0.mk (below_step HB.out hb); have n3_ := Aside0.mk (hbox); have n5_ := Aside0.mk ((by rw [hg]; exact (below_size HB.out) : w.heap.size ≤ gb)); clear HB; have HB := n2_; have BK := n3_; have GE := n5_; clear n2_ n3_ n5_; clear hb hbox hg; have hcz6_0 : w4.cell? ⟨gb, 0, none⟩ = some (.bool false) := (blk_cell BK.out 0).trans rfl; have hcz6_1 : w4.cell? ⟨gb, 1, none⟩ = some (.slice none 0 0) := (blk_cell BK.out 1).trans rfl; have hfz6_0 := blk_frozen BK.out 0; have hfz6_1 := blk_frozen BK.out 1))
    refine bodyPost_ret (results_cell_row rfl _ _ gb 27 #[.bool (decide (0 < n)), .slice A n c] (0, 0) _ rfl (by (with_reducible repeat (first | refine blk_drewN ?_ _ | refine blk_drew ?_ | refine blk_alloc ?_ _)); refine blk_put (cs := #[.bool (decide (0 < n)), .slice none 0 0]) ?_ 1 _ rfl; (with_reducible repeat (first | refine blk_drewN ?_ _ | refine blk_drew ?_ | refine blk_alloc ?_ _)); refine blk_put (cs := #[.bool false, .slice none 0 0]) ?_ 0 _ rfl; (with_reducible repeat (first | refine blk_drewN ?_ _ | refine blk_drew ?_ | refine blk_alloc ?_ _)); exact BK.out) Tryz.underlying27 rfl (by kernel_rfl)) rfl ?_
    exact ⟨rfl, by repeat (first | (with_reducible first | exact HB.out | apply below_alloc | apply pw_below_drewN | apply below_drew1 | refine below_set ?_ GE.out) | exact HB.out)⟩
  | false =>
    go_enter Tryz.func50, Tryz.ntmps50
    go_wp2_with (first | ((with_reducible refine gate_dst (N := 4) rfl ?_); (try (refine gate_guard (by rfl) ?_; dsimp only)); refine box_event ?hg (N := 4) ?hd (cs := #[.bool false, .slice none 0 0]) (t := 27) ?hr ?_; (case hd => rfl); (case hg => rfl); (case hr => first | (go_simp; done) | (go_simp; rfl)); intro gb hg w4 hbox hb; have n2_ := Aside0.mk (below_step HB.out hb); have n3_ := Aside0.mk (hbox); have n5_ := Aside0.mk ((by rw [hg]; exact (below_size HB.out) : w.heap.size ≤ gb)); clear HB; have HB := n2_; have BK := n3_; have GE := n5_; clear n2_ n3_ n5_; clear hb hbox hg; have hcz6_0 : w4.cell? ⟨gb, 0, none⟩ = some (.bool false) := (blk_cell BK.out 0).trans rfl; have hcz6_1 : w4.cell? ⟨gb, 1, none⟩ = some (.slice none 0 0) := (blk_cell BK.out 1).trans rfl; have hfz6_0 := blk_frozen BK.out 0; have hfz6_1 := blk_frozen BK.out 1))
    refine bodyPost_ret (results_cell_row rfl _ _ gb 27 #[.bool false, .slice A n c] (0, 0) _ rfl (by (with_reducible repeat (first | refine blk_drewN ?_ _ | refine blk_drew ?_ | refine blk_alloc ?_ _)); refine blk_put (cs := #[.bool false, .slice none 0 0]) ?_ 1 _ rfl; (with_reducible repeat (first | refine blk_drewN ?_ _ | refine blk_drew ?_ | refine blk_alloc ?_ _)); refine blk_put (cs := #[.bool false, .slice none 0 0]) ?_ 0 _ rfl; (with_reducible repeat (first | refine blk_drewN ?_ _ | refine blk_drew ?_ | refine blk_alloc ?_ _)); exact BK.out) Tryz.underlying27 rfl (by kernel_rfl)) rfl ?_
    exact ⟨rfl, by repeat (first | (with_reducible first | exact HB.out | apply below_alloc | apply pw_below_drewN | apply below_drew1 | refine below_set ?_ GE.out) | exact HB.out)⟩

set_option maxRecDepth 1000000 in
set_option maxHeartbeats 3200000 in
theorem Times_any (k : Nat) (an bn : Bool) (A0 A1 : Option Addr) (n m c0 c1 : Nat) (l0 l1 r : List Int) (w : World) (hn : l0.length = n) (hm : l1.length = m) (hr0 : Kd.C (Kd.int .i64) w A0 n l0) (hc0 : n ≤ c0) (hr1 : Kd.C (Kd.int .i64) w A1 m l1) (hc1 : m ≤ c1) (h : spec_Mul.f k l0 l1 = some r) :
    Calls Tryz.prog 18 #[.agg #[.bool an, .slice A0 n c0], .agg #[.bool bn, .slice A1 m c1]] w fun e w' => ∃ (A : Option Addr) (c : Nat),
      e = .returned (.agg #[.bool ((an != bn) && decide (0 < r.length)), .slice A r.length c]) ∧ r.length ≤ c ∧ Kd.C (Kd.int .i64) w' A r.length r ∧ Upd NoF w w' := by
  have HMUL0 := Lib.hid (fun (w' : World) (u : Upd NoF w w') => (show Calls Tryz.prog 24 #[.slice A0 n c0, .slice A1 m c1] w' fun e w'' => ∃ (A : Option Addr) (c : Nat), e = .returned (.slice A r.length c) ∧ Hid (r.length ≤ c ∧ Kd.C (Kd.int .i64) w'' A r.length r) ∧ Upd NoF w' w'' from by
    subst hn; subst hm
    refine (spec_Mul.calls k A0 c0 l0 A1 c1 l1 r w' (C_upd hr0 u) hc0 (C_upd hr1 u) hc1 h).mono ?_
    rintro e w'' ⟨v, rfl, hV, hb⟩
    obtain ⟨A, c, rfl⟩ := Kd.V_slice hV
    have h2 := Kd.V_reads' hV
    exact ⟨A, c, rfl, ⟨h2.2.1, h2.2.2⟩, Upd.ofBelow hb⟩))
  clear hn hm hr0 hr1 hc0 hc1 h
  obtain ⟨q, hq⟩ : ∃ q, r.length = q := ⟨_, rfl⟩
  rw [hq] at HMUL0 ⊢
  clear hq
  go_enter Tryz.func18, Tryz.ntmps18
  go_wp2_with fail
  obtain ⟨g, hg⟩ : ∃ g, w.heap.size = g := ⟨_, rfl⟩
  obtain ⟨w3, hw3⟩ : ∃ w3, ((w.alloc (.cells #[.bool an, .slice A0 n c0] 27)).alloc (.cells #[.bool bn, .slice A1 m c1] 27)).alloc (.cells #[.bool false, .slice none 0 0] 27) = w3 := ⟨_, rfl⟩
  rw [hg, hw3]
  have u3 : Upd NoF w w3 := by rw [← hw3]; exact (((Upd.refl NoF w).alloc _).alloc _).alloc _
  have hs3 : w3.heap.size = g + 3 := by rw [← hw3]; simp [hg]
  have h1 := heap_alloc_new w (.cells #[.bool an, .slice A0 n c0] 27)
  have h2 := heap_alloc_new (w.alloc (.cells #[.bool an, .slice A0 n c0] 27)) (.cells #[.bool bn, .slice A1 m c1] 27)
  have h3 := heap_alloc_new ((w.alloc (.cells #[.bool an, .slice A0 n c0] 27)).alloc (.cells #[.bool bn, .slice A1 m c1] 27)) (.cells #[.bool false, .slice none 0 0] 27)
  simp only [World.size_alloc, hg] at h1 h2 h3
  rw [hw3] at h3
  have hS : ∀ w', Upd (Blk (g + 1 + 1)) w3 w' → w'.cell? ⟨g, 0, none⟩ = some (.bool an) ∧ w'.cell? ⟨g, 1, none⟩ = some (.slice A0 n c0) ∧ w'.cell? ⟨g + 1, 0, none⟩ = some (.bool bn) ∧ w'.cell? ⟨g + 1, 1, none⟩ = some (.slice A1 m c1) := by
    intro w' u
    have v1 : Upd (Blk (g + 1 + 1)) (w.alloc (.cells #[.bool an, .slice A0 n c0] 27)) w' := by refine Upd.trans ?_ u; rw [← hw3]; exact ((Upd.refl _ _).alloc _).alloc _
    have v2 : Upd (Blk (g + 1 + 1)) ((w.alloc (.cells #[.bool an, .slice A0 n c0] 27)).alloc (.cells #[.bool bn, .slice A1 m c1] 27)) w' := by refine Upd.trans ?_ u; rw [← hw3]; exact (Upd.refl _ _).alloc _
    have ne1 : ∀ i, ¬ Blk (g + 1 + 1) g i := fun i (h : g = g + 1 + 1) => by omega
    have ne2 : ∀ i, ¬ Blk (g + 1 + 1) (g + 1) i := fun i (h : g + 1 = g + 1 + 1) => by omega
    have a1 : CellT 27 w' g 0 (.bool an) := CellT.upd ⟨_, h1, by simp⟩ v1 (ne1 _)
    have a2 : CellT 27 w' g 1 (.slice A0 n c0) := CellT.upd ⟨_, h1, by simp⟩ v1 (ne1 _)
    have a3 : CellT 27 w' (g + 1) 0 (.bool bn) := CellT.upd ⟨_, h2, by simp⟩ v2 (ne2 _)
    have a4 : CellT 27 w' (g + 1) 1 (.slice A1 m c1) := CellT.upd ⟨_, h2, by simp⟩ v2 (ne2 _)
    exact ⟨a1.cell, a2.cell, a3.cell, a4.cell⟩
  have hS2 : ∀ w', Upd NoF w3 w' → CellT 27 w' (g + 1 + 1) 0 (.bool false) ∧ CellT 27 w' (g + 1 + 1) 1 (.slice none 0 0) := fun w' u =>
    ⟨CellT.upd ⟨_, h3, by simp⟩ u (fun h => h), CellT.upd ⟨_, h3, by simp⟩ u (fun h => h)⟩
  have HS2 := Lib.hid hS2
  have HST := Lib.hid (fun (wt : World) (u : Upd NoF w3 wt) (a c : Value) => (show Upd (Blk (g + 1 + 1)) w3 ((wt.setCell ⟨g + 1 + 1, 0, none⟩ a).setCell ⟨g + 1 + 1, 1, none⟩ c) from ((u.weak (G := Blk (g + 1 + 1)) (fun _ _ h => h.elim)).setCell (fun _ => rfl) a).setCell (fun _ => rfl) c))
  clear h1 h2 h3 hS2
  have HS := Lib.hid (And.intro hS (And.intro u3 hs3))
  have HU0 := Lib.hid (fun (w' : World) (u : Upd NoF w3 w') => u3.trans u)
  have HMUL := Lib.hid (fun (w' : World) (u : Upd NoF w3 w') =>
    (HMUL0.out w' (HU0.out w' u)).mono (R' := fun e w'' => ∃ (A : Option Addr) (c : Nat), e = .returned (.slice A q c) ∧ Hid (q ≤ c ∧ Kd.C (Kd.int .i64) w'' A q r) ∧ Upd NoF w3 w'')
      (fun e w'' ⟨A, c, he, h1, h2⟩ => ⟨A, c, he, h1, u.trans h2⟩))
  have HSIGN := Lib.hid (fun (s : Bool) (A : Option Addr) (c : Nat) (w1 w' : World) (hC : Hid (q ≤ c ∧ Kd.C (Kd.int .i64) w1 A q r)) (u1 : Upd NoF w1 w') (u : Upd NoF w3 w') =>
    (sign_any s A q c w').mono (R' := fun e w'' => e = .returned (.agg #[.bool (s && decide (0 < q)), .slice A q c]) ∧ Hid (q ≤ c ∧ Kd.C (Kd.int .i64) w'' A q r) ∧ Upd NoF w3 w'')
      (fun e w'' ⟨he, hb⟩ => ⟨he, ⟨hC.out.1, C_upd hC.out.2 (u1.trans (Upd.ofBelow hb))⟩, u.trans (Upd.ofBelow hb)⟩))
  have HG := Lib.hid hg
  clear hg hw3 u3 hs3 hS
  go_region_held3 (fun w' => w'.cell? ⟨g, 0, none⟩ = some (.bool an) ∧ w'.cell? ⟨g, 1, none⟩ = some (.slice A0 n c0) ∧ w'.cell? ⟨g + 1, 0, none⟩ = some (.bool bn) ∧ w'.cell? ⟨g + 1, 1, none⟩ = some (.slice A1 m c1))
    (first | exact HS.out.1 _ (HST.out _ (by assumption) _ _) | exact HS.out.1 _ (Upd.weak (F := NoF) (by (repeat (first | exact Upd.refl _ _ | assumption | refine Upd.alloc ?_ _ | refine Upd.drew ?_ | refine Upd.drewN ?_ _ | refine Upd.trans ?_ (by assumption)))) (fun _ _ h => h.elim)))
    (first
      | ((go_at_call 24; refine (HMUL.out _ (by (repeat (first | exact Upd.refl _ _ | assumption | refine Upd.alloc ?_ _ | refine Upd.drew ?_ | refine Upd.drewN ?_ _ | refine Upd.trans ?_ (by assumption))))).mono ?_; rintro e wm ⟨Am, cm, rfl, hCm, hUm⟩))
      | ((go_at_call 50; refine (HSIGN.out _ Am cm wm _ hCm (by (repeat (first | exact Upd.refl _ _ | refine Upd.alloc ?_ _ | refine Upd.drew ?_ | refine Upd.drewN ?_ _))) (by (repeat (first | exact Upd.refl _ _ | assumption | refine Upd.alloc ?_ _ | refine Upd.drew ?_ | refine Upd.drewN ?_ _ | refine Upd.trans ?_ (by assumption))))).mono ?_; rintro e wt ⟨rfl, hCt, hUt⟩; have d1 := (HS2.out wt hUt).1.cell; have d2 := (HS2.out wt hUt).2.cell; have f1 := (HS2.out wt hUt).1.frozen; have f2 := (HS2.out wt hUt).2.frozen)))
  all_goals
    obtain ⟨B, hB⟩ : ∃ B, (!(an == bn) && decide (0 < q)) = B := ⟨_, rfl⟩
    simp only [hB]
    have HF := Lib.hid (And.intro (HS2.out wt hUt) (And.intro hCt.out (HU0.out _ hUt)))
    have hge : w.heap.size ≤ g := by have := HG.out; omega
    have hU2 : Upd NoF w ((wt.setCell ⟨g + 1 + 1, 0, none⟩ (.bool B)).setCell ⟨g + 1 + 1, 1, none⟩ (.slice Am q cm)) := (HF.out.2.2.setCell (fun h => by omega) _).setCell (fun h => by omega) _
    have hR2 : Kd.C (Kd.int .i64) ((wt.setCell ⟨g + 1 + 1, 0, none⟩ (.bool B)).setCell ⟨g + 1 + 1, 1, none⟩ (.slice Am q cm)) Am q r :=
      C_set (C_set HF.out.2.1.2 HF.out.1.1.cell (fun _ h => by cases h) _) ((HF.out.1.2.far (b' := g + 1 + 1) (i' := 0) (.bool B) (by omega)).cell) (fun _ h => by cases h) _
    have e1 := HF.out.1.1
    have e2 := HF.out.1.2
    have g1 := ((e1.set (.bool B)).far (b' := g + 1 + 1) (i' := 1) (.slice Am q cm) (by omega)).cell
    have g2 := ((e2.far (b' := g + 1 + 1) (i' := 0) (.bool B) (by omega)).set (.slice Am q cm)).cell
    have HE := Lib.hid (And.intro hU2 (And.intro hR2 (And.intro HF.out.2.1.1 hB)))
    clear hUt hCt hUm hCm hge hU2 hR2 e1 e2 d1 d2 f1 f2 hB
    go_wp2_with fail
    refine bodyPost_ret (v := .agg #[.bool B, .slice Am q cm]) (by simp [results, Tryz.results18, go_sem, g1, g2]) rfl ?_
    exact ⟨Am, cm, by rw [← HE.out.2.2.2]; rfl, HE.out.2.2.1, HE.out.2.1, HE.out.1⟩
end Go.Proofs.YtefeijofhocnpaaGreatDoor
