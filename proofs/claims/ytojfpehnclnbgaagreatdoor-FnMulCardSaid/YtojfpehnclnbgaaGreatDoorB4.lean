/- Contracts over the program, for the claim of laws.FnMul: Times Law. -/
import Derived.Test.YtojfpehnclnbgaaGreatDoorB3
import Derived.Test.YtojfpehnclnbgaaGreatDoorB2
import Derived.Deep.RegionHeld3
set_option linter.unusedVariables false
set_option linter.unusedSimpArgs false
/- spec.sign, spec.Times. -/
namespace Go.Proofs.YtojfpehnclnbgaaGreatDoor
open Go.RowKit Go.Proofs.YtojfpehnclnbgaaGreatDoor.PFnMul Go.Proofs.YtojfpehnclnbgaaGreatDoorW.PrintWords Go.Proofs.YtojfpehnclnbgaaGreatDoorW.PrintLast Go.Proofs.YtojfpehnclnbgaaGreatDoorW.PrintMore

theorem C_upd {k : IntKind} {w w' : World} {A : Option Addr} {n : Nat} {xs : List Int} (h : Kd.C (Kd.int k) w A n xs) (u : Upd NoF w w') : Kd.C (Kd.int k) w' A n xs :=
  Kd.C_below h (u.below _ (Nat.le_refl _) (fun _ _ _ h => h))

/-- a store into a cell that holds no int -/
theorem C_set {k : IntKind} {w : World} {A : Option Addr} {n : Nat} {xs : List Int} {p : Addr} {v : Value} (h : Kd.C (Kd.int k) w A n xs) (hp : w.cell? p = some v) (hv : ∀ i, v ≠ .int k i) (x : Value) : Kd.C (Kd.int k) (w.setCell p x) A n xs := by
  refine ⟨h.1, h.2.1, fun h0 => ?_⟩
  obtain ⟨ad, hA, hc⟩ := h.2.2 h0
  refine ⟨ad, hA, fun j q hj => ?_⟩
  obtain ⟨c, c1, c2, c3⟩ := hc j q hj
  refine ⟨c, c1, c2, fun i u hi => ?_⟩
  have h1 := c3 i u hi
  have c2' : c = [.int k q] := c2
  have hu : u = .int k q := by
    rw [c2'] at hi
    match i, hi with
    | 0, hi => exact (Option.some.inj hi).symm
    | i + 1, hi => simp at hi
  have hne : p ≠ ad.add (j * (Kd.int k).sz + i) := fun e => by rw [← e, hp, hu] at h1; exact hv _ (Option.some.inj h1)
  rw [World.cell?_setCell_other _ _ _ _ hne]
  exact h1

set_option maxRecDepth 1000000 in
set_option maxHeartbeats 1600000 in
theorem sign_any (a0 : Bool) (A : Option Addr) (n c : Nat) (w : World) :
    Calls Tryz.prog 17 #[.bool a0, .slice A n c] w fun e w' => e = .returned (.agg #[.bool (a0 && decide (0 < n)), .slice A n c]) ∧ Below w.heap.size w w' := by
  have HB := Aside0.mk (Below.refl w.heap.size w)
  cases a0 with
  | true =>
    go_enter Tryz.func17, Tryz.ntmps17
    go_wp2_with (first | ((with_reducible refine gate_dst (N := 4) rfl ?_); (try (refine gate_guard (by rfl) ?_; dsimp only)); refine box_event ?hg (N := 4) ?hd (cs := #[.bool false, .slice none 0 0]) (t := 32) ?hr ?_; (case hd => rfl); (case hg => rfl); (case hr => first | (go_simp; done) | (go_simp; rfl)); intro gb hg w4 hbox hb; have n2_ := Aside0.mk (below_step HB.out hb); have n3_ := Aside0.mk (hbox); have n5_ := Aside0.mk ((by rw [hg]; exact (below_size HB.out) : w.heap.size ≤ gb)); clear HB; have HB := n2_; have BK := n3_; have GE := n5_; clear n2_ n3_ n5_; clear hb hbox hg; have hcz6_0 : w4.cell? ⟨gb, 0, none⟩ = some (.bool false) := (blk_cell BK.out 0).trans rfl; have hcz6_1 : w4.cell? ⟨gb, 1, none⟩ = some (.slice none 0 0) := (blk_cell BK.out 1).trans rfl; have hfz6_0 := blk_frozen BK.out 0; have hfz6_1 := blk_frozen BK.out 1))
    refine bodyPost_ret (results_cell_row rfl _ _ gb 32 #[.bool (decide (0 < n)), .slice A n c] (0, 0) _ rfl (by (with_reducible repeat (first | refine blk_drewN ?_ _ | refine blk_drew ?_ | refine blk_alloc ?_ _)); refine blk_put (cs := #[.bool (decide (0 < n)), .slice none 0 0]) ?_ 1 _ rfl; (with_reducible repeat (first | refine blk_drewN ?_ _ | refine blk_drew ?_ | refine blk_alloc ?_ _)); refine blk_put (cs := #[.bool false, .slice none 0 0]) ?_ 0 _ rfl; (with_reducible repeat (first | refine blk_drewN ?_ _ | refine blk_drew ?_ | refine blk_alloc ?_ _)); exact BK.out) Tryz.underlying32 rfl (by kernel_rfl)) rfl ?_
    exact ⟨rfl, by repeat (first | (with_reducible first | exact HB.out | apply below_alloc | apply pw_below_drewN | apply below_drew1 | refine below_set ?_ GE.out) | exact HB.out)⟩
  | false =>
    go_enter Tryz.func17, Tryz.ntmps17
    go_wp2_with (first | ((with_reducible refine gate_dst (N := 4) rfl ?_); (try (refine gate_guard (by rfl) ?_; dsimp only)); refine box_event ?hg (N := 4) ?hd (cs := #[.bool false, .slice none 0 0]) (t := 32) ?hr ?_; (case hd => rfl); (case hg => rfl); (case hr => first | (go_simp; done) | (go_simp; rfl)); intro gb hg w4 hbox hb; have n2_ := Aside0.mk (below_step HB.out hb); have n3_ := Aside0.mk (hbox); have n5_ := Aside0.mk ((by rw [hg]; exact (below_size HB.out) : w.heap.size ≤ gb)); clear HB; have HB := n2_; have BK := n3_; have GE := n5_; clear n2_ n3_ n5_; clear hb hbox hg; have hcz6_0 : w4.cell? ⟨gb, 0, none⟩ = some (.bool false) := (blk_cell BK.out 0).trans rfl; have hcz6_1 : w4.cell? ⟨gb, 1, none⟩ = some (.slice none 0 0) := (blk_cell BK.out 1).trans rfl; have hfz6_0 := blk_frozen BK.out 0; have hfz6_1 := blk_frozen BK.out 1))
    refine bodyPost_ret (results_cell_row rfl _ _ gb 32 #[.bool false, .slice A n c] (0, 0) _ rfl (by (with_reducible repeat (first | refine blk_drewN ?_ _ | refine blk_drew ?_ | refine blk_alloc ?_ _)); refine blk_put (cs := #[.bool false, .slice none 0 0]) ?_ 1 _ rfl; (with_reducible repeat (first | refine blk_drewN ?_ _ | refine blk_drew ?_ | refine blk_alloc ?_ _)); refine blk_put (cs := #[.bool false, .slice none 0 0]) ?_ 0 _ rfl; (with_reducible repeat (first | refine blk_drewN ?_ _ | refine blk_drew ?_ | refine blk_alloc ?_ _)); exact BK.out) Tryz.underlying32 rfl (by kernel_rfl)) rfl ?_
    exact ⟨rfl, by repeat (first | (with_reducible first | exact HB.out | apply below_alloc | apply pw_below_drewN | apply below_drew1 | refine below_set ?_ GE.out) | exact HB.out)⟩

set_option maxRecDepth 1000000 in
set_option maxHeartbeats 3200000 in
theorem Times_any (k : Nat) (an bn : Bool) (A0 A1 : Option Addr) (n m c0 c1 : Nat) (l0 l1 r : List Int) (w : World) (hn : l0.length = n) (hm : l1.length = m) (hr0 : Kd.C (Kd.int .i64) w A0 n l0) (hc0 : n ≤ c0) (hr1 : Kd.C (Kd.int .i64) w A1 m l1) (hc1 : m ≤ c1) (h : spec_Mul.f k l0 l1 = some r) :
    Calls Tryz.prog 9 #[.agg #[.bool an, .slice A0 n c0], .agg #[.bool bn, .slice A1 m c1]] w fun e w' => ∃ (A : Option Addr) (c : Nat),
      e = .returned (.agg #[.bool ((an != bn) && decide (0 < r.length)), .slice A r.length c]) ∧ r.length ≤ c ∧ Kd.C (Kd.int .i64) w' A r.length r ∧ Upd NoF w w' := by
  have HMUL0 := Lib.hid (fun (w' : World) (u : Upd NoF w w') => (show Calls Tryz.prog 18 #[.slice A0 n c0, .slice A1 m c1] w' fun e w'' => ∃ (A : Option Addr) (c : Nat), e = .returned (.slice A r.length c) ∧ Hid (r.length ≤ c ∧ Kd.C (Kd.int .i64) w'' A r.length r) ∧ Upd NoF w' w'' from by
    subst hn; subst hm
    refine (spec_Mul.calls k A0 c0 l0 A1 c1 l1 r w' (C_upd hr0 u) hc0 (C_upd hr1 u) hc1 h).mono ?_
    rintro e w'' ⟨v, rfl, hV, hb⟩
    obtain ⟨A, c, rfl⟩ := Kd.V_slice hV
    have h2 := Kd.V_reads' hV
    exact ⟨A, c, rfl, ⟨h2.2.1, h2.2.2⟩, Upd.ofBelow hb⟩))
  clear hn hm hr0 hr1 hc0 hc1 h
  obtain ⟨q, hq⟩ : ∃ q, r.length = q := ⟨_, rfl⟩
  rw [hq] at HMUL0 ⊢
  clear hq
  go_enter Tryz.func9, Tryz.ntmps9
  go_wp2_with fail
  obtain ⟨g, hg⟩ : ∃ g, w.heap.size = g := ⟨_, rfl⟩
  obtain ⟨w3, hw3⟩ : ∃ w3, ((w.alloc (.cells #[.bool an, .slice A0 n c0] 32)).alloc (.cells #[.bool bn, .slice A1 m c1] 32)).alloc (.cells #[.bool false, .slice none 0 0] 32) = w3 := ⟨_, rfl⟩
  rw [hg, hw3]
  have u3 : Upd NoF w w3 := by rw [← hw3]; exact (((Upd.refl NoF w).alloc _).alloc _).alloc _
  have hs3 : w3.heap.size = g + 3 := by rw [← hw3]; simp [hg]
  have h1 := heap_alloc_new w (.cells #[.bool an, .slice A0 n c0] 32)
  have h2 := heap_alloc_new (w.alloc (.cells #[.bool an, .slice A0 n c0] 32)) (.cells #[.bool bn, .slice A1 m c1] 32)
  have h3 := heap_alloc_new ((w.alloc (.cells #[.bool an, .slice A0 n c0] 32)).alloc (.cells #[.bool bn, .slice A1 m c1] 32)) (.cells #[.bool false, .slice none 0 0] 32)
  simp only [World.size_alloc, hg] at h1 h2 h3
  rw [hw3] at h3
  have hS : ∀ w', Upd (Blk (g + 1 + 1)) w3 w' → w'.cell? ⟨g, 0, none⟩ = some (.bool an) ∧ w'.cell? ⟨g, 1, none⟩ = some (.slice A0 n c0) ∧ w'.cell? ⟨g + 1, 0, none⟩ = some (.bool bn) ∧ w'.cell? ⟨g + 1, 1, none⟩ = some (.slice A1 m c1) := by
    intro w' u
    have v1 : Upd (Blk (g + 1 + 1)) (w.alloc (.cells #[.bool an, .slice A0 n c0] 32)) w' := by refine Upd.trans ?_ u; rw [← hw3]; exact ((Upd.refl _ _).alloc _).alloc _
    have v2 : Upd (Blk (g + 1 + 1)) ((w.alloc (.cells #[.bool an, .slice A0 n c0] 32)).alloc (.cells #[.bool bn, .slice A1 m c1] 32)) w' := by refine Upd.trans ?_ u; rw [← hw3]; exact (Upd.refl _ _).alloc _
    have ne1 : ∀ i, ¬ Blk (g + 1 + 1) g i := fun i (h : g = g + 1 + 1) => by omega
    have ne2 : ∀ i, ¬ Blk (g + 1 + 1) (g + 1) i := fun i (h : g + 1 = g + 1 + 1) => by omega
    have a1 : CellT 32 w' g 0 (.bool an) := CellT.upd ⟨_, h1, by simp⟩ v1 (ne1 _)
    have a2 : CellT 32 w' g 1 (.slice A0 n c0) := CellT.upd ⟨_, h1, by simp⟩ v1 (ne1 _)
    have a3 : CellT 32 w' (g + 1) 0 (.bool bn) := CellT.upd ⟨_, h2, by simp⟩ v2 (ne2 _)
    have a4 : CellT 32 w' (g + 1) 1 (.slice A1 m c1) := CellT.upd ⟨_, h2, by simp⟩ v2 (ne2 _)
    exact ⟨a1.cell, a2.cell, a3.cell, a4.cell⟩
  have hS2 : ∀ w', Upd NoF w3 w' → CellT 32 w' (g + 1 + 1) 0 (.bool false) ∧ CellT 32 w' (g + 1 + 1) 1 (.slice none 0 0) := fun w' u =>
    ⟨CellT.upd ⟨_, h3, by simp⟩ u (fun h => h), CellT.upd ⟨_, h3, by simp⟩ u (fun h => h)⟩
  have HS2 := Lib.hid hS2
  have HST := Lib.hid (fun (wt : World) (u : Upd NoF w3 wt) (a c : Value) => (show Upd (Blk (g + 1 + 1)) w3 ((wt.setCell ⟨g + 1 + 1, 0, none⟩ a).setCell ⟨g + 1 + 1, 1, none⟩ c) from ((u.weak (G := Blk (g + 1 + 1)) (fun _ _ h => h.elim)).setCell (fun _ => rfl) a).setCell (fun _ => rfl) c))
  clear h1 h2 h3 hS2
  have HS := Lib.hid (And.intro hS (And.intro u3 hs3))
  have HU0 := Lib.hid (fun (w' : World) (u : Upd NoF w3 w') => u3.trans u)
  have HMUL := Lib.hid (fun (w' : World) (u : Upd NoF w3 w') =>
    (HMUL0.out w' (HU0.out w' u)).mono (R' := fun e w'' => ∃ (A : Option Addr) (c : Nat), e = .returned (.slice A q c) ∧ Hid (q ≤ c ∧ Kd.C (Kd.int .i64) w'' A q r) ∧ Upd NoF w3 w'')
      (fun e w'' ⟨A, c, he, h1, h2⟩ => ⟨A, c, he, h1, u.trans h2⟩))
  have HSIGN := Lib.hid (fun (s : Bool) (A : Option Addr) (c : Nat) (w1 w' : World) (hC : Hid (q ≤ c ∧ Kd.C (Kd.int .i64) w1 A q r)) (u1 : Upd NoF w1 w') (u : Upd NoF w3 w') =>
    (sign_any s A q c w').mono (R' := fun e w'' => e = .returned (.agg #[.bool (s && decide (0 < q)), .slice A q c]) ∧ Hid (q ≤ c ∧ Kd.C (Kd.int .i64) w'' A q r) ∧ Upd NoF w3 w'')
      (fun e w'' ⟨he, hb⟩ => ⟨he, ⟨hC.out.1, C_upd hC.out.2 (u1.trans (Upd.ofBelow hb))⟩, u.trans (Upd.ofBelow hb)⟩))
  have HG := Lib.hid hg
  clear hg hw3 u3 hs3 hS
  go_region_held3 (fun w' => w'.cell? ⟨g, 0, none⟩ = some (.bool an) ∧ w'.cell? ⟨g, 1, none⟩ = some (.slice A0 n c0) ∧ w'.cell? ⟨g + 1, 0, none⟩ = some (.bool bn) ∧ w'.cell? ⟨g + 1, 1, none⟩ = some (.slice A1 m c1))
    (first | exact HS.out.1 _ (HST.out _ (by assumption) _ _) | exact HS.out.1 _ (Upd.weak (F := NoF) (by (repeat (first | exact Upd.refl _ _ | assumption | refine Upd.alloc ?_ _ | refine Upd.drew ?_ | refine Upd.drewN ?_ _ | refine Upd.trans ?_ (by assumption)))) (fun _ _ h => h.elim)))
    (first
      | ((go_at_call 18; refine (HMUL.out _ (by (repeat (first | exact Upd.refl _ _ | assumption | refine Upd.alloc ?_ _ | refine Upd.drew ?_ | refine Upd.drewN ?_ _ | refine Upd.trans ?_ (by assumption))))).mono ?_; rintro e wm ⟨Am, cm, rfl, hCm, hUm⟩))
      | ((go_at_call 17; refine (HSIGN.out _ Am cm wm _ hCm (by (repeat (first | exact Upd.refl _ _ | refine Upd.alloc ?_ _ | refine Upd.drew ?_ | refine Upd.drewN ?_ _))) (by (repeat (first | exact Upd.refl _ _ | assumption | refine Upd.alloc ?_ _ | refine Upd.drew ?_ | refine Upd.drewN ?_ _ | refine Upd.trans ?_ (by assumption))))).mono ?_; rintro e wt ⟨rfl, hCt, hUt⟩; have d1 := (HS2.out wt hUt).1.cell; have d2 := (HS2.out wt hUt).2.cell; have f1 := (HS2.out wt hUt).1.frozen; have f2 := (HS2.out wt hUt).2.frozen)))
  all_goals
    obtain ⟨B, hB⟩ : ∃ B, (!(an == bn) && decide (0 < q)) = B := ⟨_, rfl⟩
    simp only [hB]
    have HF := Lib.hid (And.intro (HS2.out wt hUt) (And.intro hCt.out (HU0.out _ hUt)))
    have hge : w.heap.size ≤ g := by have := HG.out; omega
    have hU2 : Upd NoF w ((wt.setCell ⟨g + 1 + 1, 0, none⟩ (.bool B)).setCell ⟨g + 1 + 1, 1, none⟩ (.slice Am q cm)) := (HF.out.2.2.setCell (fun h => by omega) _).setCell (fun h => by omega) _
    have hR2 : Kd.C (Kd.int .i64) ((wt.setCell ⟨g + 1 + 1, 0, none⟩ (.bool B)).setCell ⟨g + 1 + 1, 1, none⟩ (.slice Am q cm)) Am q r :=
      C_set (C_set HF.out.2.1.2 HF.out.1.1.cell (fun _ h => by cases h) _) ((HF.out.1.2.far (b' := g + 1 + 1) (i' := 0) (.bool B) (by omega)).cell) (fun _ h => by cases h) _
    have e1 := HF.out.1.1
    have e2 := HF.out.1.2
    have g1 := ((e1.set (.bool B)).far (b' := g + 1 + 1) (i' := 1) (.slice Am q cm) (by omega)).cell
    have g2 := ((e2.far (b' := g + 1 + 1) (i' := 0) (.bool B) (by omega)).set (.slice Am q cm)).cell
    have HE := Lib.hid (And.intro hU2 (And.intro hR2 (And.intro HF.out.2.1.1 hB)))
    clear hUt hCt hUm hCm hge hU2 hR2 e1 e2 d1 d2 f1 f2 hB
    go_wp2_with fail
    refine bodyPost_ret (v := .agg #[.bool B, .slice Am q cm]) (by simp [results, Tryz.results9, go_sem, g1, g2]) rfl ?_
    exact ⟨Am, cm, by rw [← HE.out.2.2.2]; rfl, HE.out.2.2.1, HE.out.2.1, HE.out.1⟩
end Go.Proofs.YtojfpehnclnbgaaGreatDoor

/- laws.FnMul. -/
namespace Go.Proofs.YtojfpehnclnbgaaGreatDoor
open Go.RowKit Go.Proofs.YtojfpehnclnbgaaGreatDoor.PFnMul Go.Proofs.YtojfpehnclnbgaaGreatDoorW.PrintWords Go.Proofs.YtojfpehnclnbgaaGreatDoorW.PrintLast Go.Proofs.YtojfpehnclnbgaaGreatDoorW.PrintMore

theorem C_of_RdU {w : World} {A : Option Addr} {xs : List Nat} {n : Nat} (h : RdU w A xs) (hn : xs.length = n) (hb : n ≤ 9223372036854775807) : Kd.C (Kd.int .u64) w A n (ints xs) := by
  refine ⟨by rw [ints_length]; exact hn, hb, fun h0 => ?_⟩
  obtain ⟨ad, hA, hc⟩ := h (by omega)
  refine ⟨ad, hA, fun j p hj => ⟨[.int .u64 p], rfl, rfl, fun i u hi => ?_⟩⟩
  have hj2 : j < xs.length := by
    have h1 := (List.getElem?_eq_some_iff.1 hj).1
    rw [ints_length] at h1; exact h1
  have hp : ((xs[j] : Nat) : Int) = p := by
    have h1 := hj
    unfold ints at h1
    rw [List.getElem?_map, List.getElem?_eq_getElem hj2] at h1
    exact Option.some.inj h1
  have h2 := hc j hj2
  rw [hp] at h2
  match i, hi with
  | 0, hi =>
    have hu : Value.int .u64 p = u := Option.some.inj hi
    subst hu
    have e : j * (Kd.int .u64).sz + 0 = j := Nat.mul_one j
    rw [e]; exact h2
  | i + 1, hi => simp at hi

theorem zz_f (a : Bool) (xs : List Nat) (n : Nat) (hn : xs.length = n) : laws_zzFits1.f a (ints xs) = some (decide (n ≤ 2147483647)) := by
  unfold laws_zzFits1.f
  rw [ints_length, hn]
  by_cases h : n ≤ 2147483647
  · rw [if_neg (by omega), decide_eq_true h]
  · rw [if_pos (by omega), decide_eq_false h]
theorem big_f (a : Bool) (xs : List Nat) (n : Nat) (hn : xs.length = n) : laws_big.f a (ints xs) 300 = some (decide (300 < n)) := by
  unfold laws_big.f
  rw [ints_length, hn]
  congr 1
  by_cases h : 300 < n
  · rw [decide_eq_true h]; exact decide_eq_true (by omega)
  · rw [decide_eq_false h]; exact decide_eq_false (by omega)

theorem sign_law (xn yn : Bool) (a b : Nat) : decide (sg xn a * sg yn b < 0) = ((((xn && decide (a ≠ 0)) != (yn && decide (b ≠ 0))) && decide (0 < (ds (a * b)).length)) && decide (a * b ≠ 0)) := by
  have hz := ds_empty (a * b)
  by_cases ha : a = 0
  · subst ha
    have : sg xn 0 = 0 := by unfold sg; split <;> rfl
    rw [this]; simp
  by_cases hb : b = 0
  · subst hb
    have : sg yn 0 = 0 := by unfold sg; split <;> rfl
    rw [this]; simp
  have hab : a * b ≠ 0 := Nat.mul_ne_zero ha hb
  have hl : 0 < (ds (a * b)).length := by have := mt hz.1 hab; omega
  have hpos : (0 : Int) < (a : Int) * (b : Int) := Int.mul_pos (by omega) (by omega)
  rw [decide_eq_true ha, decide_eq_true hb, decide_eq_true hab, decide_eq_true hl]
  cases xn <;> cases yn
  · exact (decide_eq_false (show ¬ ((a : Int) * (b : Int) < 0) by omega)).trans rfl
  · exact (decide_eq_true (show (a : Int) * (-(b : Int)) < 0 by rw [Int.mul_neg]; omega)).trans rfl
  · exact (decide_eq_true (show (-(a : Int)) * (b : Int) < 0 by rw [Int.neg_mul]; omega)).trans rfl
  · exact (decide_eq_false (show ¬ ((-(a : Int)) * (-(b : Int)) < 0) by rw [Int.neg_mul_neg]; omega)).trans rfl

theorem ds_len4 (N : Nat) : (ds N).length ≤ 4 * (digs N).length := by
  refine ds_len_of_lt ?_
  rw [Nat.pow_mul, ← B64_pow]
  exact lt_of_digs_len N

theorem sg_mul_abs (xn yn : Bool) (a b : Nat) : (sg xn a * sg yn b).natAbs = a * b := by
  rw [Int.natAbs_mul]
  have h : ∀ (s : Bool) (k : Nat), (sg s k).natAbs = k := fun s k => by unfold sg; split <;> omega
  rw [h, h]

/-- what the law's callees come to, told of every world that the law can be in -/
theorem law_is (xn yn : Bool) (a b : Nat) (hb : (digs (a * b)).length < 1099511627776) (A1 A2 : Option Addr) (c1 c2 : Nat) (w : World) (h1 : Kd.C (Kd.int .u64) w A1 (digs (a * b)).length (ints (digs (a * b)))) (k1 : (digs (a * b)).length ≤ c1)
    (h2 : Kd.C (Kd.int .i64) w A2 (ds (a * b)).length (ints (ds (a * b)))) (k2 : (ds (a * b)).length ≤ c2) (hw : ∃ k, spec_Words.f k (ints (ds (a * b))) = some (ints (digs (a * b)))) :
    Calls Tryz.prog 7 #[.agg #[.bool (decide (sg xn a * sg yn b < 0)), .slice A1 (digs (a * b)).length c1], .agg #[.bool (((xn && decide (a ≠ 0)) != (yn && decide (b ≠ 0))) && decide (0 < (ds (a * b)).length)), .slice A2 (ds (a * b)).length c2]] w fun e w' => e = .returned (.bool true) ∧ Upd NoF w w' := by
  obtain ⟨k, hk⟩ := spec_Is_any (a * b) _ _ hb (sign_law xn yn a b) hw
  have h := spec_Is.calls k (decide (sg xn a * sg yn b < 0)) A1 c1 (ints (digs (a * b))) (((xn && decide (a ≠ 0)) != (yn && decide (b ≠ 0))) && decide (0 < (ds (a * b)).length)) A2 c2 (ints (ds (a * b))) true w (by rw [ints_length]; exact h1) (by rw [ints_length]; exact k1) (by rw [ints_length]; exact h2) (by rw [ints_length]; exact k2) hk
  rw [ints_length, ints_length] at h
  exact h.mono (fun e w' ⟨he, hb⟩ => ⟨he, Upd.ofBelow hb⟩)

theorem law_in (neg : Bool) (A : Option Addr) (n c : Nat) (xs : List Nat) (w : World) (hn : xs.length = n) (hc : n ≤ c) (hl : n ≤ 1099511627776) (hd : Digs B64 xs) (hr : RdU w A xs) :
    Calls Tryz.prog 10 #[.agg #[.bool neg, .slice A n c]] w fun e w' => ∃ (A : Option Addr) (c : Nat), e = .returned (.agg #[.bool (neg && decide (val B64 xs ≠ 0)), .slice A (ds (val B64 xs)).length c]) ∧ Hid ((ds (val B64 xs)).length ≤ c ∧ Kd.C (Kd.int .i64) w' A (ds (val B64 xs)).length (ints (ds (val B64 xs)))) ∧ Upd NoF w w' := by
  obtain ⟨k, hk⟩ := spec_In_any neg xs hd (by omega)
  have h := spec_In.calls k neg A c (ints xs) _ _ w (by rw [ints_length, hn]; exact C_of_RdU hr hn (by omega)) (by rw [ints_length, hn]; exact hc) hk
  rw [ints_length, hn] at h
  refine h.mono ?_
  rintro e w' ⟨v, rfl, hV, hb⟩
  obtain ⟨A', c', rfl⟩ := Kd.V_slice hV
  have h2 := Kd.V_reads' hV
  rw [ints_length] at h2 ⊢
  exact ⟨A', c', rfl, ⟨h2.2.1, h2.2.2⟩, Upd.ofBelow hb⟩

set_option linter.unusedSimpArgs false in
set_option maxRecDepth 1000000 in
set_option maxHeartbeats 6400000 in
theorem FnMul_any (T : Int) (xn yn : Bool) (xA yA : Option Addr) (n m cx cy : Nat) (xs ys : List Nat) (w : World) (hT : Thr w T) (hn : xs.length = n) (hm : ys.length = m) (hcx : n ≤ cx) (hcy : m ≤ cy) (hnx : n ≤ 9223372036854775807) (hny : m ≤ 9223372036854775807)
    (dx : Digs B64 xs) (dy : Digs B64 ys) (hx : RdU w xA xs) (hy : RdU w yA ys) :
    Calls Tryz.prog 3 #[.agg #[.bool xn, .slice xA n cx], .agg #[.bool yn, .slice yA m cy]] w fun e w' => e = .returned (.bool true) ∧ Upd NoF w w' := by
  have HZX := Lib.hid (fun (w' : World) (u : Upd NoF w w') => (show Calls Tryz.prog 5 #[.agg #[.bool xn, .slice xA n cx]] w' fun e w'' => e = .returned (.bool (decide (n ≤ 2147483647))) ∧ Upd NoF w' w'' from by
    have h := laws_zzFits1.calls xn xA cx (ints xs) _ w' (by rw [ints_length, hn]; exact C_of_RdU (hx.upd u) hn hnx) (by rw [ints_length, hn]; exact hcx) (zz_f xn xs n hn)
    rw [ints_length, hn] at h
    exact h.mono (fun e w'' ⟨he, hb⟩ => ⟨he, Upd.ofBelow hb⟩)))
  have HZY := Lib.hid (fun (w' : World) (u : Upd NoF w w') => (show Calls Tryz.prog 5 #[.agg #[.bool yn, .slice yA m cy]] w' fun e w'' => e = .returned (.bool (decide (m ≤ 2147483647))) ∧ Upd NoF w' w'' from by
    have h := laws_zzFits1.calls yn yA cy (ints ys) _ w' (by rw [ints_length, hm]; exact C_of_RdU (hy.upd u) hm hny) (by rw [ints_length, hm]; exact hcy) (zz_f yn ys m hm)
    rw [ints_length, hm] at h
    exact h.mono (fun e w'' ⟨he, hb⟩ => ⟨he, Upd.ofBelow hb⟩)))
  have HGX := Lib.hid (fun (w' : World) (u : Upd NoF w w') => (show Calls Tryz.prog 6 #[.agg #[.bool xn, .slice xA n cx], .int .i64 300] w' fun e w'' => e = .returned (.bool (decide (300 < n))) ∧ Upd NoF w' w'' from by
    have h := laws_big.calls xn xA cx (ints xs) 300 _ w' (by rw [ints_length, hn]; exact C_of_RdU (hx.upd u) hn hnx) (by rw [ints_length, hn]; exact hcx) (big_f xn xs n hn)
    rw [ints_length, hn] at h
    exact h.mono (fun e w'' ⟨he, hb⟩ => ⟨he, Upd.ofBelow hb⟩)))
  have HGY := Lib.hid (fun (w' : World) (u : Upd NoF w w') => (show Calls Tryz.prog 6 #[.agg #[.bool yn, .slice yA m cy], .int .i64 300] w' fun e w'' => e = .returned (.bool (decide (300 < m))) ∧ Upd NoF w' w'' from by
    have h := laws_big.calls yn yA cy (ints ys) 300 _ w' (by rw [ints_length, hm]; exact C_of_RdU (hy.upd u) hm hny) (by rw [ints_length, hm]; exact hcy) (big_f yn ys m hm)
    rw [ints_length, hm] at h
    exact h.mono (fun e w'' ⟨he, hb⟩ => ⟨he, Upd.ofBelow hb⟩)))
  obtain ⟨va, hva⟩ : ∃ va, val B64 xs = va := ⟨_, rfl⟩
  obtain ⟨vb, hvb⟩ : ∃ vb, val B64 ys = vb := ⟨_, rfl⟩
  have HINX := Lib.hid (fun (h3 : Hid (n ≤ 300)) (w' : World) (u : Upd NoF w w') => (law_in xn xA n cx xs w' hn hcx (by have := h3.out; omega) dx (hx.upd u)).mono (R' := fun e w'' => ∃ (A : Option Addr) (c : Nat), e = .returned (.agg #[.bool (xn && decide (va ≠ 0)), .slice A (ds va).length c]) ∧ Hid ((ds va).length ≤ c ∧ Kd.C (Kd.int .i64) w'' A (ds va).length (ints (ds va))) ∧ Upd NoF w' w'')
    (by rw [hva]; exact fun e w'' ⟨A, c, he, h1, h2⟩ => ⟨A, c, he, h1, h2⟩))
  have HINY := Lib.hid (fun (h3 : Hid (m ≤ 300)) (w' : World) (u : Upd NoF w w') => (law_in yn yA m cy ys w' hm hcy (by have := h3.out; omega) dy (hy.upd u)).mono (R' := fun e w'' => ∃ (A : Option Addr) (c : Nat), e = .returned (.agg #[.bool (yn && decide (vb ≠ 0)), .slice A (ds vb).length c]) ∧ Hid ((ds vb).length ≤ c ∧ Kd.C (Kd.int .i64) w'' A (ds vb).length (ints (ds vb))) ∧ Upd NoF w' w'')
    (by rw [hvb]; exact fun e w'' ⟨A, c, he, h1, h2⟩ => ⟨A, c, he, h1, h2⟩))
  have hVn : (sg xn va * sg yn vb).natAbs = va * vb := sg_mul_abs xn yn va vb
  have HIMP := Lib.hid (fun (h3 : Hid (n ≤ 300)) (h4 : Hid (m ≤ 300)) (w' : World) (u : Upd NoF w w') => (implMul_any T xn yn xA yA n m cx cy xs ys w' (hT.upd u (fun _ h => h)) hn hm hcx hcy (by have := h3.out; omega) (by have := h4.out; omega) dx dy (hx.upd u) (hy.upd u)).mono (R' := fun e w'' => ∃ (A : Option Addr) (c : Nat), e = .returned (.agg #[.bool (decide (sg xn va * sg yn vb < 0)), .slice A (digs (va * vb)).length c]) ∧ Hid ((digs (va * vb)).length ≤ c ∧ RdU w'' A (digs (va * vb))) ∧ Upd NoF w' w'')
    (by rw [hva, hvb, hVn]; exact fun e w'' ⟨A, c, he, h1, _, h2, h3⟩ => ⟨A, c, he, ⟨h1, h2⟩, h3⟩))
  have hlx : (digs va).length ≤ n := by rw [← hva, ← hn]; exact digs_len_le dx
  have hly : (digs vb).length ≤ m := by rw [← hvb, ← hm]; exact digs_len_le dy
  clear hx hy dx dy hT hn hm hva hvb hVn
  have HN := Lib.hid (fun (h3 : Hid (n ≤ 300)) (h4 : Hid (m ≤ 300)) => (show (digs (va * vb)).length < 1099511627776 ∧ (ds (va * vb)).length < 17592186044416 ∧ (ds va).length + (ds vb).length ≤ 35184372088832 from by
    have a1 := ds_len4 (va * vb)
    have a2 := ds_len4 va
    have a3 := ds_len4 vb
    have a4 := digs_mul_len va vb
    have a5 := h3.out
    have a6 := h4.out
    omega))
  clear hlx hly
  go_enter Tryz.func3, Tryz.ntmps3
  go_wp2_with fail
  obtain ⟨g, hg⟩ : ∃ g, w.heap.size = g := ⟨_, rfl⟩
  obtain ⟨w2, hw2⟩ : ∃ w2, (w.alloc (.cells #[.bool xn, .slice xA n cx] 24)).alloc (.cells #[.bool yn, .slice yA m cy] 24) = w2 := ⟨_, rfl⟩
  rw [hg, hw2]
  have u2 : Upd NoF w w2 := by rw [← hw2]; exact ((Upd.refl NoF w).alloc _).alloc _
  have h1 := heap_alloc_new w (.cells #[.bool xn, .slice xA n cx] 24)
  have h2 := heap_alloc_new (w.alloc (.cells #[.bool xn, .slice xA n cx] 24)) (.cells #[.bool yn, .slice yA m cy] 24)
  simp only [World.size_alloc, hg] at h1 h2
  rw [hw2] at h2
  have hS : ∀ w', Upd NoF w2 w' → w'.cell? ⟨g, 0, none⟩ = some (.bool xn) ∧ w'.cell? ⟨g, 1, none⟩ = some (.slice xA n cx) ∧ w'.cell? ⟨g + 1, 0, none⟩ = some (.bool yn) ∧ w'.cell? ⟨g + 1, 1, none⟩ = some (.slice yA m cy) := by
    intro w' u
    have v1 : Upd NoF (w.alloc (.cells #[.bool xn, .slice xA n cx] 24)) w' := by refine Upd.trans ?_ u; rw [← hw2]; exact (Upd.refl _ _).alloc _
    have a1 : CellT 24 w' g 0 (.bool xn) := CellT.upd ⟨_, h1, by simp⟩ v1 (fun h => h)
    have a2 : CellT 24 w' g 1 (.slice xA n cx) := CellT.upd ⟨_, h1, by simp⟩ v1 (fun h => h)
    have a3 : CellT 24 w' (g + 1) 0 (.bool yn) := CellT.upd ⟨_, h2, by simp⟩ u (fun h => h)
    have a4 : CellT 24 w' (g + 1) 1 (.slice yA m cy) := CellT.upd ⟨_, h2, by simp⟩ u (fun h => h)
    exact ⟨a1.cell, a2.cell, a3.cell, a4.cell⟩
  have HS := Lib.hid hS
  have HU0 := Lib.hid u2
  -- every contract, from w2 on
  have KZX := Lib.hid (fun (w' : World) (u : Upd NoF w2 w') => (HZX.out w' (HU0.out.trans u)).mono (R' := fun e w'' => e = .returned (.bool (decide (n ≤ 2147483647))) ∧ Upd NoF w2 w'') (fun _ _ ⟨he, h⟩ => ⟨he, u.trans h⟩))
  have KZY := Lib.hid (fun (w' : World) (u : Upd NoF w2 w') => (HZY.out w' (HU0.out.trans u)).mono (R' := fun e w'' => e = .returned (.bool (decide (m ≤ 2147483647))) ∧ Upd NoF w2 w'') (fun _ _ ⟨he, h⟩ => ⟨he, u.trans h⟩))
  have KGX := Lib.hid (fun (w' : World) (u : Upd NoF w2 w') => (HGX.out w' (HU0.out.trans u)).mono (R' := fun e w'' => e = .returned (.bool (decide (300 < n))) ∧ Upd NoF w2 w'') (fun _ _ ⟨he, h⟩ => ⟨he, u.trans h⟩))
  have KGY := Lib.hid (fun (w' : World) (u : Upd NoF w2 w') => (HGY.out w' (HU0.out.trans u)).mono (R' := fun e w'' => e = .returned (.bool (decide (300 < m))) ∧ Upd NoF w2 w'') (fun _ _ ⟨he, h⟩ => ⟨he, u.trans h⟩))
  have KINX := Lib.hid (fun (h3 : Hid (n ≤ 300)) (w' : World) (u : Upd NoF w2 w') => (HINX.out h3 w' (HU0.out.trans u)).mono (R' := fun e w'' => ∃ (A : Option Addr) (c : Nat), e = .returned (.agg #[.bool (xn && decide (va ≠ 0)), .slice A (ds va).length c]) ∧ Hid ((ds va).length ≤ c ∧ Kd.C (Kd.int .i64) w'' A (ds va).length (ints (ds va))) ∧ Upd NoF w2 w'' ∧ Upd NoF w' w'') (fun _ _ ⟨A, c, he, h1, h2⟩ => ⟨A, c, he, h1, u.trans h2, h2⟩))
  have KINY := Lib.hid (fun (h3 : Hid (m ≤ 300)) (w' : World) (u : Upd NoF w2 w') => (HINY.out h3 w' (HU0.out.trans u)).mono (R' := fun e w'' => ∃ (A : Option Addr) (c : Nat), e = .returned (.agg #[.bool (yn && decide (vb ≠ 0)), .slice A (ds vb).length c]) ∧ Hid ((ds vb).length ≤ c ∧ Kd.C (Kd.int .i64) w'' A (ds vb).length (ints (ds vb))) ∧ Upd NoF w2 w'' ∧ Upd NoF w' w'') (fun _ _ ⟨A, c, he, h1, h2⟩ => ⟨A, c, he, h1, u.trans h2, h2⟩))
  have KIMP := Lib.hid (fun (h3 : Hid (n ≤ 300)) (h4 : Hid (m ≤ 300)) (w' : World) (u : Upd NoF w2 w') => (HIMP.out h3 h4 w' (HU0.out.trans u)).mono (R' := fun e w'' => ∃ (A : Option Addr) (c : Nat), e = .returned (.agg #[.bool (decide (sg xn va * sg yn vb < 0)), .slice A (digs (va * vb)).length c]) ∧ Hid ((digs (va * vb)).length ≤ c ∧ RdU w'' A (digs (va * vb))) ∧ Upd NoF w2 w'') (fun _ _ ⟨A, c, he, h1, h2⟩ => ⟨A, c, he, h1, u.trans h2⟩))
  have KTM := Lib.hid (fun (h3 : Hid (n ≤ 300)) (h4 : Hid (m ≤ 300)) (A1 A2 : Option Addr) (c1 c2 : Nat) (w' wa wb : World) (k1 : Hid ((ds va).length ≤ c1 ∧ Kd.C (Kd.int .i64) wa A1 (ds va).length (ints (ds va)))) (k2 : Hid ((ds vb).length ≤ c2 ∧ Kd.C (Kd.int .i64) wb A2 (ds vb).length (ints (ds vb)))) (ua : Upd NoF wa w') (ub : Upd NoF wb w') (u : Upd NoF w2 w') =>
    (show Calls Tryz.prog 9 #[.agg #[.bool (xn && decide (va ≠ 0)), .slice A1 (ds va).length c1], .agg #[.bool (yn && decide (vb ≠ 0)), .slice A2 (ds vb).length c2]] w' fun e w'' => ∃ (A : Option Addr) (c : Nat), e = .returned (.agg #[.bool (((xn && decide (va ≠ 0)) != (yn && decide (vb ≠ 0))) && decide (0 < (ds (va * vb)).length)), .slice A (ds (va * vb)).length c]) ∧ Hid ((ds (va * vb)).length ≤ c ∧ Kd.C (Kd.int .i64) w'' A (ds (va * vb)).length (ints (ds (va * vb)))) ∧ Upd NoF w2 w'' ∧ Upd NoF w' w'' from by
      obtain ⟨k, hk⟩ := spec_Mul_any (ds va) (ds vb) (ds_ds va) (ds_ds vb) (HN.out h3 h4).2.2
      rw [val_ds, val_ds] at hk
      have h := Times_any k (xn && decide (va ≠ 0)) (yn && decide (vb ≠ 0)) A1 A2 (ds va).length (ds vb).length c1 c2 (ints (ds va)) (ints (ds vb)) _ w' (ints_length _) (ints_length _) (C_upd k1.out.2 ua) k1.out.1 (C_upd k2.out.2 ub) k2.out.1 hk
      rw [ints_length] at h
      exact h.mono (fun e w'' ⟨A, c, he, h1, h2, h3⟩ => ⟨A, c, he, ⟨h1, h2⟩, u.trans h3, h3⟩)))
  have KIS := Lib.hid (fun (h3 : Hid (n ≤ 300)) (h4 : Hid (m ≤ 300)) (A1 A2 : Option Addr) (c1 c2 : Nat) (w' wa wb : World) (k1 : Hid ((digs (va * vb)).length ≤ c1 ∧ RdU wa A1 (digs (va * vb)))) (k2 : Hid ((ds (va * vb)).length ≤ c2 ∧ Kd.C (Kd.int .i64) wb A2 (ds (va * vb)).length (ints (ds (va * vb))))) (ua : Upd NoF wa w') (ub : Upd NoF wb w') (u : Upd NoF w2 w') =>
    (law_is xn yn va vb (HN.out h3 h4).1 A1 A2 c1 c2 w' (C_of_RdU (k1.out.2.upd ua) rfl (by have := (HN.out h3 h4).1; omega)) k1.out.1 (C_upd k2.out.2 ub) k2.out.1 (spec_Words_any _ (HN.out h3 h4).2.1)).mono (R' := fun e w'' => e = .returned (.bool true) ∧ Upd NoF w2 w'') (fun _ _ ⟨he, h⟩ => ⟨he, u.trans h⟩))
  clear h1 h2 hS hw2 hg u2 HZX HZY HGX HGY HINX HINY HIMP HN
  obtain ⟨sx, hsx⟩ : ∃ sx, (xn && decide (va ≠ 0)) = sx := ⟨_, rfl⟩
  rw [hsx] at KINX KTM KIS
  clear hsx
  obtain ⟨sy, hsy⟩ : ∃ sy, (yn && decide (vb ≠ 0)) = sy := ⟨_, rfl⟩
  rw [hsy] at KINY KTM KIS
  clear hsy
  obtain ⟨st, hst⟩ : ∃ st, ((sx != sy) && decide (0 < (ds (va * vb)).length)) = st := ⟨_, rfl⟩
  rw [hst] at KTM KIS
  clear hst
  obtain ⟨sb, hsb⟩ : ∃ sb, decide (sg xn va * sg yn vb < 0) = sb := ⟨_, rfl⟩
  rw [hsb] at KIMP KIS
  clear hsb
  obtain ⟨px, hpx⟩ : ∃ px, (ds va).length = px := ⟨_, rfl⟩
  rw [hpx] at KINX KTM
  clear hpx
  obtain ⟨py, hpy⟩ : ∃ py, (ds vb).length = py := ⟨_, rfl⟩
  rw [hpy] at KINY KTM
  clear hpy
  obtain ⟨pt, hpt⟩ : ∃ pt, (ds (va * vb)).length = pt := ⟨_, rfl⟩
  rw [hpt] at KTM KIS
  clear hpt
  obtain ⟨pd, hpd⟩ : ∃ pd, (digs (va * vb)).length = pd := ⟨_, rfl⟩
  rw [hpd] at KIMP KIS
  clear hpd
  refine (KZX.out _ (Upd.refl _ _)).mono ?_
  rintro e w3 ⟨rfl, u3⟩
  obtain ⟨d1, d2, d3, d4⟩ := HS.out w3 u3
  by_cases hfx : n ≤ 2147483647
  case neg =>
    rw [decide_eq_false hfx]
    have HX := Lib.hid (And.intro u3 hfx)
    clear u3 hfx
    go_wp2_with fail
    go_ret
    exact ⟨rfl, HU0.out.trans HX.out.1⟩
  rw [decide_eq_true hfx]
  have HX := Lib.hid (And.intro u3 hfx)
  clear u3 hfx
  go_wp2_with fail
  refine (KZY.out _ HX.out.1).mono ?_
  rintro e w4 ⟨rfl, u4⟩
  clear d1 d2 d3 d4
  obtain ⟨d1, d2, d3, d4⟩ := HS.out w4 u4
  by_cases hfy : m ≤ 2147483647
  case neg =>
    rw [decide_eq_false hfy]
    have HX := Lib.hid (And.intro u4 hfy)
    clear u4 hfy
    go_wp2_with fail
    go_ret
    exact ⟨rfl, HU0.out.trans HX.out.1⟩
  rw [decide_eq_true hfy]
  have HY := Lib.hid hfy
  clear hfy hcx hcy hnx hny HX
  go_wp2_with fail
  by_cases h3 : n ≤ 300
  case neg =>
    have e3 : decide (300 < n) = true := decide_eq_true (by omega)
    rw [e3] at KGX
    clear KZX KZY KIMP KTM KIS KINX KINY HY e3 h3
    refine wp_region_held_drew (S := (fun w' => w'.cell? ⟨g, 0, none⟩ = some (.bool xn) ∧ w'.cell? ⟨g, 1, none⟩ = some (.slice xA n cx) ∧ w'.cell? ⟨g + 1, 0, none⟩ = some (.bool yn) ∧ w'.cell? ⟨g + 1, 1, none⟩ = some (.slice yA m cy))) (by kernel_rfl) (by exact HS.out _ (by (repeat (first | exact Upd.refl _ _ | assumption | refine Upd.alloc ?_ _ | refine Upd.drew ?_ | refine Upd.drewN ?_ _ | refine Upd.trans ?_ (by assumption))))) (fun hHeld => ?_)
    refine wpAnyH_take (i := 0) (v := ?_) rfl (by kernel_rfl) (by kernel_rfl) (by kernel_rfl) (fun _ _ _ h => h) (Or.inl ⟨by rfl, ?_⟩) (by assumption) ?_
    rotate_left
    · (intro w' hSw; (try dsimp only at hSw); go_simp; try with_reducible rfl)
    simp only [Act.put, List.setIfInBounds_toArray, List.set_cons_zero, List.set_cons_succ]
    refine wpAnyH_ready (rs := [1]) (by kernel_rfl) (by simp) ?_
    refine AllReadyH.cons rfl (fun K hK => ?_) AllReadyH.nil
    go_simp
    (go_at_call_of 6 (Value.agg #[.bool xn, .slice xA n cx]); refine (KGX.out _ (by (repeat (first | exact Upd.refl _ _ | assumption | refine Upd.alloc ?_ _ | refine Upd.drew ?_ | refine Upd.drewN ?_ _ | refine Upd.trans ?_ (by assumption))))).mono ?_; rintro e wgx ⟨rfl, ugx⟩)
    go_wp2_with fail
    refine hK.out _ _ ?_ (fun hHeld => ?_)
    case' refine_1 => (try dsimp only); exact HS.out _ (by (repeat (first | exact Upd.refl _ _ | assumption | refine Upd.alloc ?_ _ | refine Upd.drew ?_ | refine Upd.drewN ?_ _ | refine Upd.trans ?_ (by assumption))))
    clear hK K
    (try simp only [Act.put, List.setIfInBounds_toArray, List.set_cons_zero, List.set_cons_succ])
    refine wpAnyH_take (i := 2) (v := ?_) rfl (by kernel_rfl) (by kernel_rfl) (by kernel_rfl) (fun _ _ _ h => h) (Or.inl ⟨by rfl, ?_⟩) (by assumption) ?_
    rotate_left
    · (intro w' hSw; (try dsimp only at hSw); go_simp; try with_reducible rfl)
    simp only [Act.put, List.setIfInBounds_toArray, List.set_cons_zero, List.set_cons_succ]
    refine wpAnyH_take (i := 3) (v := undef) rfl (by kernel_rfl) (by kernel_rfl) (by kernel_rfl) (fun _ _ _ h => h) (Or.inr ⟨by rfl, rfl⟩) (by assumption) ?_
    simp only [Act.put, List.setIfInBounds_toArray, List.set_cons_zero, List.set_cons_succ]
    refine wpAnyH_ready (rs := [4]) (by kernel_rfl) (by simp) ?_
    refine AllReadyH.cons rfl (fun K hK => ?_) AllReadyH.nil
    go_simp
    refine hK.out _ _ ?_ (fun hHeld => ?_)
    case' refine_1 => (try dsimp only); exact HS.out _ (by (repeat (first | exact Upd.refl _ _ | assumption | refine Upd.alloc ?_ _ | refine Upd.drew ?_ | refine Upd.drewN ?_ _ | refine Upd.trans ?_ (by assumption))))
    clear hK K
    (try simp only [Act.put, List.setIfInBounds_toArray, List.set_cons_zero, List.set_cons_succ])
    refine wpAnyH_take (i := 5) (v := ?_) rfl (by kernel_rfl) (by kernel_rfl) (by kernel_rfl) (fun _ _ _ h => h) (Or.inl ⟨by rfl, ?_⟩) (by assumption) ?_
    rotate_left
    · (intro w' hSw; (try dsimp only at hSw); go_simp; try with_reducible rfl)
    simp only [Act.put, List.setIfInBounds_toArray, List.set_cons_zero, List.set_cons_succ]
    refine wpAnyH_take (i := 6) (v := ?_) rfl (by kernel_rfl) (by kernel_rfl) (by kernel_rfl) (fun _ _ _ h => h) (Or.inl ⟨by rfl, ?_⟩) (by assumption) ?_
    rotate_left
    · (intro w' hSw; (try dsimp only at hSw); go_simp; try with_reducible rfl)
    simp only [Act.put, List.setIfInBounds_toArray, List.set_cons_zero, List.set_cons_succ]
    refine wpAnyH_take (i := 7) (v := undef) rfl (by kernel_rfl) (by kernel_rfl) (by kernel_rfl) (fun _ _ _ h => h) (Or.inr ⟨by rfl, rfl⟩) (by assumption) ?_
    simp only [Act.put, List.setIfInBounds_toArray, List.set_cons_zero, List.set_cons_succ]
    refine wpAnyH_take (i := 8) (v := undef) rfl (by kernel_rfl) (by kernel_rfl) (by kernel_rfl) (fun _ _ _ h => h) (Or.inr ⟨by rfl, rfl⟩) (by assumption) ?_
    simp only [Act.put, List.setIfInBounds_toArray, List.set_cons_zero, List.set_cons_succ]
    refine wpAnyH_take (i := 10) (v := undef) rfl (by kernel_rfl) (by kernel_rfl) (by kernel_rfl) (fun _ _ _ h => h) (Or.inr ⟨by rfl, rfl⟩) (by assumption) ?_
    simp only [Act.put, List.setIfInBounds_toArray, List.set_cons_zero, List.set_cons_succ]
    refine wpAnyH_take (i := 12) (v := undef) rfl (by kernel_rfl) (by kernel_rfl) (by kernel_rfl) (fun _ _ _ h => h) (Or.inr ⟨by rfl, rfl⟩) (by assumption) ?_
    simp only [Act.put, List.setIfInBounds_toArray, List.set_cons_zero, List.set_cons_succ]
    refine wpAnyH_ready (rs := [9]) (by kernel_rfl) (by simp) ?_
    refine AllReadyH.cons rfl (fun K hK => ?_) AllReadyH.nil
    go_simp
    refine hK.out _ _ ?_ (fun hHeld => ?_)
    case' refine_1 => (try dsimp only); exact HS.out _ (by (repeat (first | exact Upd.refl _ _ | assumption | refine Upd.alloc ?_ _ | refine Upd.drew ?_ | refine Upd.drewN ?_ _ | refine Upd.trans ?_ (by assumption))))
    clear hK K
    (try simp only [Act.put, List.setIfInBounds_toArray, List.set_cons_zero, List.set_cons_succ])
    refine wpAnyH_ready (rs := [11]) (by kernel_rfl) (by simp) ?_
    refine AllReadyH.cons rfl (fun K hK => ?_) AllReadyH.nil
    go_simp
    refine hK.out _ _ ?_ (fun hHeld => ?_)
    case' refine_1 => (try dsimp only); exact HS.out _ (by (repeat (first | exact Upd.refl _ _ | assumption | refine Upd.alloc ?_ _ | refine Upd.drew ?_ | refine Upd.drewN ?_ _ | refine Upd.trans ?_ (by assumption))))
    clear hK K
    (try simp only [Act.put, List.setIfInBounds_toArray, List.set_cons_zero, List.set_cons_succ])
    refine wpAnyH_ready (rs := [13]) (by kernel_rfl) (by simp) ?_
    refine AllReadyH.cons rfl (fun K hK => ?_) AllReadyH.nil
    go_simp
    refine hK.out _ _ ?_ (fun hHeld => ?_)
    case' refine_1 => (try dsimp only); exact HS.out _ (by (repeat (first | exact Upd.refl _ _ | assumption | refine Upd.alloc ?_ _ | refine Upd.drew ?_ | refine Upd.drewN ?_ _ | refine Upd.trans ?_ (by assumption))))
    clear hK K
    (try simp only [Act.put, List.setIfInBounds_toArray, List.set_cons_zero, List.set_cons_succ])
    refine wpAnyH_ready (rs := [14]) (by kernel_rfl) (by simp) ?_
    refine AllReadyH.cons rfl (fun K hK => ?_) AllReadyH.nil
    go_simp
    refine hK.out _ _ ?_ (fun hHeld => ?_)
    case' refine_1 => (try dsimp only); exact HS.out _ (by (repeat (first | exact Upd.refl _ _ | assumption | refine Upd.alloc ?_ _ | refine Upd.drew ?_ | refine Upd.drewN ?_ _ | refine Upd.trans ?_ (by assumption))))
    clear hK K
    (try simp only [Act.put, List.setIfInBounds_toArray, List.set_cons_zero, List.set_cons_succ])
    refine wpAnyH_ready (rs := [15]) (by kernel_rfl) (by simp) ?_
    refine AllReadyH.cons rfl (fun K hK => ?_) AllReadyH.nil
    go_simp
    refine hK.out _ _ ?_ (fun hHeld => ?_)
    case' refine_1 => (try dsimp only); exact HS.out _ (by (repeat (first | exact Upd.refl _ _ | assumption | refine Upd.alloc ?_ _ | refine Upd.drew ?_ | refine Upd.drewN ?_ _ | refine Upd.trans ?_ (by assumption))))
    clear hK K
    (try simp only [Act.put, List.setIfInBounds_toArray, List.set_cons_zero, List.set_cons_succ])
    refine wpAnyH_take (i := 16) (v := ?_) rfl (by kernel_rfl) (by kernel_rfl) (by kernel_rfl) (fun _ _ _ h => h) (Or.inl ⟨by rfl, ?_⟩) (by assumption) ?_
    rotate_left
    · (intro w' hSw; (try dsimp only at hSw); go_simp; try with_reducible rfl)
    simp only [Act.put, List.setIfInBounds_toArray, List.set_cons_zero, List.set_cons_succ]
    refine wpAnyH_ready (rs := [17]) (by kernel_rfl) (by simp) ?_
    refine AllReadyH.cons rfl (fun K hK => ?_) AllReadyH.nil
    go_simp
    refine hK.out _ _ ?_ (fun hHeld => ?_)
    case' refine_1 => (try dsimp only); exact HS.out _ (by (repeat (first | exact Upd.refl _ _ | assumption | refine Upd.alloc ?_ _ | refine Upd.drew ?_ | refine Upd.drewN ?_ _ | refine Upd.trans ?_ (by assumption))))
    clear hK K
    (try simp only [Act.put, List.setIfInBounds_toArray, List.set_cons_zero, List.set_cons_succ])
    refine wpAnyH_done (by kernel_rfl) ?_ _
    go_wp2_with fail
    go_ret
    exact ⟨rfl, HU0.out.trans ugx⟩
  have e3 : decide (300 < n) = false := decide_eq_false (by omega)
  rw [e3] at KGX
  have H3 := Lib.hid h3
  clear e3 h3
  by_cases h4 : m ≤ 300
  case neg =>
    have e4 : decide (300 < m) = true := decide_eq_true (by omega)
    rw [e4] at KGY
    clear KZX KZY KIMP KTM KIS KINX KINY HY e4 h4
    refine wp_region_held_drew (S := (fun w' => w'.cell? ⟨g, 0, none⟩ = some (.bool xn) ∧ w'.cell? ⟨g, 1, none⟩ = some (.slice xA n cx) ∧ w'.cell? ⟨g + 1, 0, none⟩ = some (.bool yn) ∧ w'.cell? ⟨g + 1, 1, none⟩ = some (.slice yA m cy))) (by kernel_rfl) (by exact HS.out _ (by (repeat (first | exact Upd.refl _ _ | assumption | refine Upd.alloc ?_ _ | refine Upd.drew ?_ | refine Upd.drewN ?_ _ | refine Upd.trans ?_ (by assumption))))) (fun hHeld => ?_)
    refine wpAnyH_take (i := 0) (v := ?_) rfl (by kernel_rfl) (by kernel_rfl) (by kernel_rfl) (fun _ _ _ h => h) (Or.inl ⟨by rfl, ?_⟩) (by assumption) ?_
    rotate_left
    · (intro w' hSw; (try dsimp only at hSw); go_simp; try with_reducible rfl)
    simp only [Act.put, List.setIfInBounds_toArray, List.set_cons_zero, List.set_cons_succ]
    refine wpAnyH_ready (rs := [1]) (by kernel_rfl) (by simp) ?_
    refine AllReadyH.cons rfl (fun K hK => ?_) AllReadyH.nil
    go_simp
    (go_at_call_of 6 (Value.agg #[.bool xn, .slice xA n cx]); refine (KGX.out _ (by (repeat (first | exact Upd.refl _ _ | assumption | refine Upd.alloc ?_ _ | refine Upd.drew ?_ | refine Upd.drewN ?_ _ | refine Upd.trans ?_ (by assumption))))).mono ?_; rintro e wgx ⟨rfl, ugx⟩)
    go_wp2_with fail
    refine hK.out _ _ ?_ (fun hHeld => ?_)
    case' refine_1 => (try dsimp only); exact HS.out _ (by (repeat (first | exact Upd.refl _ _ | assumption | refine Upd.alloc ?_ _ | refine Upd.drew ?_ | refine Upd.drewN ?_ _ | refine Upd.trans ?_ (by assumption))))
    clear hK K
    (try simp only [Act.put, List.setIfInBounds_toArray, List.set_cons_zero, List.set_cons_succ])
    refine wpAnyH_take (i := 2) (v := ?_) rfl (by kernel_rfl) (by kernel_rfl) (by kernel_rfl) (fun _ _ _ h => h) (Or.inl ⟨by rfl, ?_⟩) (by assumption) ?_
    rotate_left
    · (intro w' hSw; (try dsimp only at hSw); go_simp; try with_reducible rfl)
    simp only [Act.put, List.setIfInBounds_toArray, List.set_cons_zero, List.set_cons_succ]
    refine wpAnyH_take (i := 3) (v := ?_) rfl (by kernel_rfl) (by kernel_rfl) (by kernel_rfl) (fun _ _ _ h => h) (Or.inl ⟨by rfl, ?_⟩) (by assumption) ?_
    rotate_left
    · (intro w' hSw; (try dsimp only at hSw); go_simp; try with_reducible rfl)
    simp only [Act.put, List.setIfInBounds_toArray, List.set_cons_zero, List.set_cons_succ]
    refine wpAnyH_ready (rs := [4]) (by kernel_rfl) (by simp) ?_
    refine AllReadyH.cons rfl (fun K hK => ?_) AllReadyH.nil
    go_simp
    (go_at_call_of 6 (Value.agg #[.bool yn, .slice yA m cy]); refine (KGY.out _ (by (repeat (first | exact Upd.refl _ _ | assumption | refine Upd.alloc ?_ _ | refine Upd.drew ?_ | refine Upd.drewN ?_ _ | refine Upd.trans ?_ (by assumption))))).mono ?_; rintro e wgy ⟨rfl, ugy⟩)
    go_wp2_with fail
    refine hK.out _ _ ?_ (fun hHeld => ?_)
    case' refine_1 => (try dsimp only); exact HS.out _ (by (repeat (first | exact Upd.refl _ _ | assumption | refine Upd.alloc ?_ _ | refine Upd.drew ?_ | refine Upd.drewN ?_ _ | refine Upd.trans ?_ (by assumption))))
    clear hK K
    (try simp only [Act.put, List.setIfInBounds_toArray, List.set_cons_zero, List.set_cons_succ])
    refine wpAnyH_take (i := 5) (v := ?_) rfl (by kernel_rfl) (by kernel_rfl) (by kernel_rfl) (fun _ _ _ h => h) (Or.inl ⟨by rfl, ?_⟩) (by assumption) ?_
    rotate_left
    · (intro w' hSw; (try dsimp only at hSw); go_simp; try with_reducible rfl)
    simp only [Act.put, List.setIfInBounds_toArray, List.set_cons_zero, List.set_cons_succ]
    refine wpAnyH_take (i := 6) (v := ?_) rfl (by kernel_rfl) (by kernel_rfl) (by kernel_rfl) (fun _ _ _ h => h) (Or.inl ⟨by rfl, ?_⟩) (by assumption) ?_
    rotate_left
    · (intro w' hSw; (try dsimp only at hSw); go_simp; try with_reducible rfl)
    simp only [Act.put, List.setIfInBounds_toArray, List.set_cons_zero, List.set_cons_succ]
    refine wpAnyH_take (i := 7) (v := undef) rfl (by kernel_rfl) (by kernel_rfl) (by kernel_rfl) (fun _ _ _ h => h) (Or.inr ⟨by rfl, rfl⟩) (by assumption) ?_
    simp only [Act.put, List.setIfInBounds_toArray, List.set_cons_zero, List.set_cons_succ]
    refine wpAnyH_take (i := 8) (v := undef) rfl (by kernel_rfl) (by kernel_rfl) (by kernel_rfl) (fun _ _ _ h => h) (Or.inr ⟨by rfl, rfl⟩) (by assumption) ?_
    simp only [Act.put, List.setIfInBounds_toArray, List.set_cons_zero, List.set_cons_succ]
    refine wpAnyH_take (i := 10) (v := undef) rfl (by kernel_rfl) (by kernel_rfl) (by kernel_rfl) (fun _ _ _ h => h) (Or.inr ⟨by rfl, rfl⟩) (by assumption) ?_
    simp only [Act.put, List.setIfInBounds_toArray, List.set_cons_zero, List.set_cons_succ]
    refine wpAnyH_take (i := 12) (v := undef) rfl (by kernel_rfl) (by kernel_rfl) (by kernel_rfl) (fun _ _ _ h => h) (Or.inr ⟨by rfl, rfl⟩) (by assumption) ?_
    simp only [Act.put, List.setIfInBounds_toArray, List.set_cons_zero, List.set_cons_succ]
    refine wpAnyH_ready (rs := [9]) (by kernel_rfl) (by simp) ?_
    refine AllReadyH.cons rfl (fun K hK => ?_) AllReadyH.nil
    go_simp
    refine hK.out _ _ ?_ (fun hHeld => ?_)
    case' refine_1 => (try dsimp only); exact HS.out _ (by (repeat (first | exact Upd.refl _ _ | assumption | refine Upd.alloc ?_ _ | refine Upd.drew ?_ | refine Upd.drewN ?_ _ | refine Upd.trans ?_ (by assumption))))
    clear hK K
    (try simp only [Act.put, List.setIfInBounds_toArray, List.set_cons_zero, List.set_cons_succ])
    refine wpAnyH_ready (rs := [11]) (by kernel_rfl) (by simp) ?_
    refine AllReadyH.cons rfl (fun K hK => ?_) AllReadyH.nil
    go_simp
    refine hK.out _ _ ?_ (fun hHeld => ?_)
    case' refine_1 => (try dsimp only); exact HS.out _ (by (repeat (first | exact Upd.refl _ _ | assumption | refine Upd.alloc ?_ _ | refine Upd.drew ?_ | refine Upd.drewN ?_ _ | refine Upd.trans ?_ (by assumption))))
    clear hK K
    (try simp only [Act.put, List.setIfInBounds_toArray, List.set_cons_zero, List.set_cons_succ])
    refine wpAnyH_ready (rs := [13]) (by kernel_rfl) (by simp) ?_
    refine AllReadyH.cons rfl (fun K hK => ?_) AllReadyH.nil
    go_simp
    refine hK.out _ _ ?_ (fun hHeld => ?_)
    case' refine_1 => (try dsimp only); exact HS.out _ (by (repeat (first | exact Upd.refl _ _ | assumption | refine Upd.alloc ?_ _ | refine Upd.drew ?_ | refine Upd.drewN ?_ _ | refine Upd.trans ?_ (by assumption))))
    clear hK K
    (try simp only [Act.put, List.setIfInBounds_toArray, List.set_cons_zero, List.set_cons_succ])
    refine wpAnyH_ready (rs := [14]) (by kernel_rfl) (by simp) ?_
    refine AllReadyH.cons rfl (fun K hK => ?_) AllReadyH.nil
    go_simp
    refine hK.out _ _ ?_ (fun hHeld => ?_)
    case' refine_1 => (try dsimp only); exact HS.out _ (by (repeat (first | exact Upd.refl _ _ | assumption | refine Upd.alloc ?_ _ | refine Upd.drew ?_ | refine Upd.drewN ?_ _ | refine Upd.trans ?_ (by assumption))))
    clear hK K
    (try simp only [Act.put, List.setIfInBounds_toArray, List.set_cons_zero, List.set_cons_succ])
    refine wpAnyH_ready (rs := [15]) (by kernel_rfl) (by simp) ?_
    refine AllReadyH.cons rfl (fun K hK => ?_) AllReadyH.nil
    go_simp
    refine hK.out _ _ ?_ (fun hHeld => ?_)
    case' refine_1 => (try dsimp only); exact HS.out _ (by (repeat (first | exact Upd.refl _ _ | assumption | refine Upd.alloc ?_ _ | refine Upd.drew ?_ | refine Upd.drewN ?_ _ | refine Upd.trans ?_ (by assumption))))
    clear hK K
    (try simp only [Act.put, List.setIfInBounds_toArray, List.set_cons_zero, List.set_cons_succ])
    refine wpAnyH_take (i := 16) (v := ?_) rfl (by kernel_rfl) (by kernel_rfl) (by kernel_rfl) (fun _ _ _ h => h) (Or.inl ⟨by rfl, ?_⟩) (by assumption) ?_
    rotate_left
    · (intro w' hSw; (try dsimp only at hSw); go_simp; try with_reducible rfl)
    simp only [Act.put, List.setIfInBounds_toArray, List.set_cons_zero, List.set_cons_succ]
    refine wpAnyH_ready (rs := [17]) (by kernel_rfl) (by simp) ?_
    refine AllReadyH.cons rfl (fun K hK => ?_) AllReadyH.nil
    go_simp
    refine hK.out _ _ ?_ (fun hHeld => ?_)
    case' refine_1 => (try dsimp only); exact HS.out _ (by (repeat (first | exact Upd.refl _ _ | assumption | refine Upd.alloc ?_ _ | refine Upd.drew ?_ | refine Upd.drewN ?_ _ | refine Upd.trans ?_ (by assumption))))
    clear hK K
    (try simp only [Act.put, List.setIfInBounds_toArray, List.set_cons_zero, List.set_cons_succ])
    refine wpAnyH_done (by kernel_rfl) ?_ _
    go_wp2_with fail
    go_ret
    exact ⟨rfl, HU0.out.trans ugy⟩
  have e4 : decide (300 < m) = false := decide_eq_false (by omega)
  rw [e4] at KGY
  have H4 := Lib.hid h4
  clear e4 h4
  clear KZX KZY HY
  refine wp_region_held_drew (S := (fun w' => w'.cell? ⟨g, 0, none⟩ = some (.bool xn) ∧ w'.cell? ⟨g, 1, none⟩ = some (.slice xA n cx) ∧ w'.cell? ⟨g + 1, 0, none⟩ = some (.bool yn) ∧ w'.cell? ⟨g + 1, 1, none⟩ = some (.slice yA m cy))) (by kernel_rfl) (by exact HS.out _ (by (repeat (first | exact Upd.refl _ _ | assumption | refine Upd.alloc ?_ _ | refine Upd.drew ?_ | refine Upd.drewN ?_ _ | refine Upd.trans ?_ (by assumption))))) (fun hHeld => ?_)
  refine wpAnyH_take (i := 0) (v := ?_) rfl (by kernel_rfl) (by kernel_rfl) (by kernel_rfl) (fun _ _ _ h => h) (Or.inl ⟨by rfl, ?_⟩) (by assumption) ?_
  rotate_left
  · (intro w' hSw; (try dsimp only at hSw); go_simp; try with_reducible rfl)
  simp only [Act.put, List.setIfInBounds_toArray, List.set_cons_zero, List.set_cons_succ]
  refine wpAnyH_ready (rs := [1]) (by kernel_rfl) (by simp) ?_
  refine AllReadyH.cons rfl (fun K hK => ?_) AllReadyH.nil
  go_simp
  (go_at_call_of 6 (Value.agg #[.bool xn, .slice xA n cx]); refine (KGX.out _ (by (repeat (first | exact Upd.refl _ _ | assumption | refine Upd.alloc ?_ _ | refine Upd.drew ?_ | refine Upd.drewN ?_ _ | refine Upd.trans ?_ (by assumption))))).mono ?_; rintro e wgx ⟨rfl, ugx⟩)
  go_wp2_with fail
  refine hK.out _ _ ?_ (fun hHeld => ?_)
  case' refine_1 => (try dsimp only); exact HS.out _ (by (repeat (first | exact Upd.refl _ _ | assumption | refine Upd.alloc ?_ _ | refine Upd.drew ?_ | refine Upd.drewN ?_ _ | refine Upd.trans ?_ (by assumption))))
  clear hK K
  (try simp only [Act.put, List.setIfInBounds_toArray, List.set_cons_zero, List.set_cons_succ])
  refine wpAnyH_take (i := 2) (v := ?_) rfl (by kernel_rfl) (by kernel_rfl) (by kernel_rfl) (fun _ _ _ h => h) (Or.inl ⟨by rfl, ?_⟩) (by assumption) ?_
  rotate_left
  · (intro w' hSw; (try dsimp only at hSw); go_simp; try with_reducible rfl)
  simp only [Act.put, List.setIfInBounds_toArray, List.set_cons_zero, List.set_cons_succ]
  refine wpAnyH_take (i := 3) (v := ?_) rfl (by kernel_rfl) (by kernel_rfl) (by kernel_rfl) (fun _ _ _ h => h) (Or.inl ⟨by rfl, ?_⟩) (by assumption) ?_
  rotate_left
  · (intro w' hSw; (try dsimp only at hSw); go_simp; try with_reducible rfl)
  simp only [Act.put, List.setIfInBounds_toArray, List.set_cons_zero, List.set_cons_succ]
  refine wpAnyH_ready (rs := [4]) (by kernel_rfl) (by simp) ?_
  refine AllReadyH.cons rfl (fun K hK => ?_) AllReadyH.nil
  go_simp
  (go_at_call_of 6 (Value.agg #[.bool yn, .slice yA m cy]); refine (KGY.out _ (by (repeat (first | exact Upd.refl _ _ | assumption | refine Upd.alloc ?_ _ | refine Upd.drew ?_ | refine Upd.drewN ?_ _ | refine Upd.trans ?_ (by assumption))))).mono ?_; rintro e wgy ⟨rfl, ugy⟩)
  go_wp2_with fail
  refine hK.out _ _ ?_ (fun hHeld => ?_)
  case' refine_1 => (try dsimp only); exact HS.out _ (by (repeat (first | exact Upd.refl _ _ | assumption | refine Upd.alloc ?_ _ | refine Upd.drew ?_ | refine Upd.drewN ?_ _ | refine Upd.trans ?_ (by assumption))))
  clear hK K
  (try simp only [Act.put, List.setIfInBounds_toArray, List.set_cons_zero, List.set_cons_succ])
  refine wpAnyH_take (i := 5) (v := ?_) rfl (by kernel_rfl) (by kernel_rfl) (by kernel_rfl) (fun _ _ _ h => h) (Or.inl ⟨by rfl, ?_⟩) (by assumption) ?_
  rotate_left
  · (intro w' hSw; (try dsimp only at hSw); go_simp; try with_reducible rfl)
  simp only [Act.put, List.setIfInBounds_toArray, List.set_cons_zero, List.set_cons_succ]
  refine wpAnyH_take (i := 6) (v := ?_) rfl (by kernel_rfl) (by kernel_rfl) (by kernel_rfl) (fun _ _ _ h => h) (Or.inl ⟨by rfl, ?_⟩) (by assumption) ?_
  rotate_left
  · (intro w' hSw; (try dsimp only at hSw); go_simp; try with_reducible rfl)
  simp only [Act.put, List.setIfInBounds_toArray, List.set_cons_zero, List.set_cons_succ]
  refine wpAnyH_take (i := 7) (v := ?_) rfl (by kernel_rfl) (by kernel_rfl) (by kernel_rfl) (fun _ _ _ h => h) (Or.inl ⟨by rfl, ?_⟩) (by assumption) ?_
  rotate_left
  · (intro w' hSw; (try dsimp only at hSw); go_simp; try with_reducible rfl)
  simp only [Act.put, List.setIfInBounds_toArray, List.set_cons_zero, List.set_cons_succ]
  refine wpAnyH_take (i := 8) (v := ?_) rfl (by kernel_rfl) (by kernel_rfl) (by kernel_rfl) (fun _ _ _ h => h) (Or.inl ⟨by rfl, ?_⟩) (by assumption) ?_
  rotate_left
  · (intro w' hSw; (try dsimp only at hSw); go_simp; try with_reducible rfl)
  simp only [Act.put, List.setIfInBounds_toArray, List.set_cons_zero, List.set_cons_succ]
  refine wpAnyH_take (i := 10) (v := ?_) rfl (by kernel_rfl) (by kernel_rfl) (by kernel_rfl) (fun _ _ _ h => h) (Or.inl ⟨by rfl, ?_⟩) (by assumption) ?_
  rotate_left
  · (intro w' hSw; (try dsimp only at hSw); go_simp; try with_reducible rfl)
  simp only [Act.put, List.setIfInBounds_toArray, List.set_cons_zero, List.set_cons_succ]
  refine wpAnyH_take (i := 12) (v := ?_) rfl (by kernel_rfl) (by kernel_rfl) (by kernel_rfl) (fun _ _ _ h => h) (Or.inl ⟨by rfl, ?_⟩) (by assumption) ?_
  rotate_left
  · (intro w' hSw; (try dsimp only at hSw); go_simp; try with_reducible rfl)
  simp only [Act.put, List.setIfInBounds_toArray, List.set_cons_zero, List.set_cons_succ]
  refine wpAnyH_ready (rs := [9]) (by kernel_rfl) (by simp) ?_
  refine AllReadyH.cons rfl (fun K hK => ?_) AllReadyH.nil
  go_simp
  (go_at_call 8; refine (KIMP.out H3 H4 _ (by (repeat (first | exact Upd.refl _ _ | assumption | refine Upd.alloc ?_ _ | refine Upd.drew ?_ | refine Upd.drewN ?_ _ | refine Upd.trans ?_ (by assumption))))).mono ?_; rintro e wi ⟨Ai, ci, rfl, hi, ui⟩)
  go_wp2_with fail
  refine hK.out _ _ ?_ (fun hHeld => ?_)
  case' refine_1 => (try dsimp only); exact HS.out _ (by (repeat (first | exact Upd.refl _ _ | assumption | refine Upd.alloc ?_ _ | refine Upd.drew ?_ | refine Upd.drewN ?_ _ | refine Upd.trans ?_ (by assumption))))
  clear hK K
  (try simp only [Act.put, List.setIfInBounds_toArray, List.set_cons_zero, List.set_cons_succ])
  refine wpAnyH_ready (rs := [11]) (by kernel_rfl) (by simp) ?_
  refine AllReadyH.cons rfl (fun K hK => ?_) AllReadyH.nil
  go_simp
  (go_at_call_of 10 (Value.agg #[.bool xn, .slice xA n cx]); refine (KINX.out H3 _ (by (repeat (first | exact Upd.refl _ _ | assumption | refine Upd.alloc ?_ _ | refine Upd.drew ?_ | refine Upd.drewN ?_ _ | refine Upd.trans ?_ (by assumption))))).mono ?_; rintro e wx ⟨Ax, cx', rfl, hx, ux, rx⟩)
  go_wp2_with fail
  refine hK.out _ _ ?_ (fun hHeld => ?_)
  case' refine_1 => (try dsimp only); exact HS.out _ (by (repeat (first | exact Upd.refl _ _ | assumption | refine Upd.alloc ?_ _ | refine Upd.drew ?_ | refine Upd.drewN ?_ _ | refine Upd.trans ?_ (by assumption))))
  clear hK K
  (try simp only [Act.put, List.setIfInBounds_toArray, List.set_cons_zero, List.set_cons_succ])
  refine wpAnyH_ready (rs := [13]) (by kernel_rfl) (by simp) ?_
  refine AllReadyH.cons rfl (fun K hK => ?_) AllReadyH.nil
  go_simp
  (go_at_call_of 10 (Value.agg #[.bool yn, .slice yA m cy]); refine (KINY.out H4 _ (by (repeat (first | exact Upd.refl _ _ | assumption | refine Upd.alloc ?_ _ | refine Upd.drew ?_ | refine Upd.drewN ?_ _ | refine Upd.trans ?_ (by assumption))))).mono ?_; rintro e wy ⟨Ay, cy', rfl, hy, uy, ry⟩)
  go_wp2_with fail
  refine hK.out _ _ ?_ (fun hHeld => ?_)
  case' refine_1 => (try dsimp only); exact HS.out _ (by (repeat (first | exact Upd.refl _ _ | assumption | refine Upd.alloc ?_ _ | refine Upd.drew ?_ | refine Upd.drewN ?_ _ | refine Upd.trans ?_ (by assumption))))
  clear hK K
  (try simp only [Act.put, List.setIfInBounds_toArray, List.set_cons_zero, List.set_cons_succ])
  refine wpAnyH_ready (rs := [14]) (by kernel_rfl) (by simp) ?_
  refine AllReadyH.cons rfl (fun K hK => ?_) AllReadyH.nil
  go_simp
  (go_at_call 9; refine (KTM.out H3 H4 _ _ _ _ _ wx wy hx hy ry (Upd.refl _ _) uy).mono ?_; rintro e wt ⟨At, ct, rfl, ht, ut, rt⟩)
  go_wp2_with fail
  refine hK.out _ _ ?_ (fun hHeld => ?_)
  case' refine_1 => (try dsimp only); exact HS.out _ (by (repeat (first | exact Upd.refl _ _ | assumption | refine Upd.alloc ?_ _ | refine Upd.drew ?_ | refine Upd.drewN ?_ _ | refine Upd.trans ?_ (by assumption))))
  clear hK K
  (try simp only [Act.put, List.setIfInBounds_toArray, List.set_cons_zero, List.set_cons_succ])
  refine wpAnyH_ready (rs := [15]) (by kernel_rfl) (by simp) ?_
  refine AllReadyH.cons rfl (fun K hK => ?_) AllReadyH.nil
  go_simp
  (go_at_call 7; refine (KIS.out H3 H4 _ _ _ _ _ wi wt hi ht ((rx.trans ry).trans rt) (Upd.refl _ _) ut).mono ?_; rintro e ws ⟨rfl, us⟩)
  go_wp2_with fail
  refine hK.out _ _ ?_ (fun hHeld => ?_)
  case' refine_1 => (try dsimp only); exact HS.out _ (by (repeat (first | exact Upd.refl _ _ | assumption | refine Upd.alloc ?_ _ | refine Upd.drew ?_ | refine Upd.drewN ?_ _ | refine Upd.trans ?_ (by assumption))))
  clear hK K
  (try simp only [Act.put, List.setIfInBounds_toArray, List.set_cons_zero, List.set_cons_succ])
  refine wpAnyH_take (i := 16) (v := ?_) rfl (by kernel_rfl) (by kernel_rfl) (by kernel_rfl) (fun _ _ _ h => h) (Or.inl ⟨by rfl, ?_⟩) (by assumption) ?_
  rotate_left
  · (intro w' hSw; (try dsimp only at hSw); go_simp; try with_reducible rfl)
  simp only [Act.put, List.setIfInBounds_toArray, List.set_cons_zero, List.set_cons_succ]
  refine wpAnyH_ready (rs := [17]) (by kernel_rfl) (by simp) ?_
  refine AllReadyH.cons rfl (fun K hK => ?_) AllReadyH.nil
  go_simp
  refine hK.out _ _ ?_ (fun hHeld => ?_)
  case' refine_1 => (try dsimp only); exact HS.out _ (by (repeat (first | exact Upd.refl _ _ | assumption | refine Upd.alloc ?_ _ | refine Upd.drew ?_ | refine Upd.drewN ?_ _ | refine Upd.trans ?_ (by assumption))))
  clear hK K
  (try simp only [Act.put, List.setIfInBounds_toArray, List.set_cons_zero, List.set_cons_succ])
  refine wpAnyH_done (by kernel_rfl) ?_ _
  go_wp2_with fail
  go_ret
  exact ⟨rfl, HU0.out.trans us⟩
end Go.Proofs.YtojfpehnclnbgaaGreatDoor
