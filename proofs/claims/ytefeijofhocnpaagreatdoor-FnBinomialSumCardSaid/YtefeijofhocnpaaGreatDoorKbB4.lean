/- For the claim of laws.FnBinomial and FnBinomialSum: Times. -/
import Derived.Test.YtefeijofhocnpaaGreatDoorKbB3
import Derived.Test.YtefeijofhocnpaaGreatDoorKbB2
import Derived.Deep.RegionHeld3
set_option linter.unusedVariables false
set_option linter.unusedSimpArgs false
namespace Go.Proofs.YtefeijofhocnpaaGreatDoor
open Go.RowKit Go.Proofs.YtefeijofhocnpaaGreatDoor.PSpec Go.Proofs.YtefeijofhocnpaaGreatDoorW.PrintWords Go.Proofs.YtefeijofhocnpaaGreatDoorW.PrintLast Go.Proofs.YtefeijofhocnpaaGreatDoorW.PrintMore
theorem C_upd {k : IntKind} {w w' : World} {A : Option Addr} {n : Nat} {xs : List Int} (h : Kd.C (Kd.int k) w A n xs) (u : Upd NoF w w') : Kd.C (Kd.int k) w' A n xs :=
  Kd.C_below h (u.below _ (Nat.le_refl _) (fun _ _ _ h => h))
theorem C_set {k : IntKind} {w : World} {A : Option Addr} {n : Nat} {xs : List Int} {p : Addr} {v : Value} (h : Kd.C (Kd.int k) w A n xs) (hp : w.cell? p = some v) (hv : ∀ i, v ≠ .int k i) (x : Value) : Kd.C (Kd.int k) (w.setCell p x) A n xs := by
  refine ⟨h.1, h.2.1, fun h0 => ?_⟩
  obtain ⟨ad, hA, hc⟩ := h.2.2 h0
  refine ⟨ad, hA, fun j q hj => ?_⟩
  obtain ⟨c, c1, c2, c3⟩ := hc j q hj
  refine ⟨c, c1, c2, fun i u hi => ?_⟩
  have h1 := c3 i u hi
  have c2' : c = [.int k q] := c2
  have hu : u = .int k q := by
    rw [c2'] at hi
    match i, hi with
    | 0, hi => exact (Option.some.inj hi).symm
    | i + 1, hi => simp at hi
  have hne : p ≠ ad.add (j * (Kd.int k).sz + i) := fun e => by rw [← e, hp, hu] at h1; exact hv _ (Option.some.inj h1)
  rw [World.cell?_setCell_other _ _ _ _ hne]
  exact h1
set_option maxRecDepth 1000000 in
set_option maxHeartbeats 1600000 in
theorem sign_any (a0 : Bool) (A : Option Addr) (n c : Nat) (w : World) :
    Calls Tryz.prog 50 #[.bool a0, .slice A n c] w fun e w' => e = .returned (.agg #[.bool (a0 && decide (0 < n)), .slice A n c]) ∧ Below w.heap.size w w' := by
  have HB := Aside0.mk (Below.refl w.heap.size w)
  cases a0 with
  | true =>
    go_enter Tryz.func50, Tryz.ntmps50
    go_wp2_with (first | ((with_reducible refine gate_dst (N := 4) rfl ?_); (try (refine gate_guard (by rfl) ?_; dsimp only)); refine box_event ?hg (N := 4) ?hd (cs := #[.bool false, .slice none 0 0]) (t := 27) ?hr ?_; (case hd => rfl); (case hg => rfl); (case hr => first | (go_simp; done) | (go_simp; rfl)); intro gb hg w4 hbox hb; have n2_ := Aside0.mk (below_step HB.out hb); have n3_ := Aside0.mk (hbox); have n5_ := Aside0.mk ((by rw [hg]; exact (below_size HB.out) : w.heap.size ≤ gb)); clear HB; have HB := n2_; have BK := n3_; have GE := n5_; clear n2_ n3_ n5_; clear hb hbox hg; have hcz6_0 : w4.cell? ⟨gb, 0, none⟩ = some (.bool false) := (blk_cell BK.out 0).trans rfl; have hcz6_1 : w4.cell? ⟨gb, 1, none⟩ = some (.slice none 0 0) := (blk_cell BK.out 1).trans rfl; have hfz6_0 := blk_frozen BK.out 0; have hfz6_1 := blk_frozen BK.out 1))
    refine bodyPost_ret (results_cell_row rfl _ _ gb 27 #[.bool (decide (0 < n)), .slice A n c] (0, 0) _ rfl (by (with_reducible repeat (first | refine blk_drewN ?_ _ | refine blk_drew ?_ | refine blk_alloc ?_ _)); refine blk_put (cs := #[.bool (decide (0 < n)), .slice none 0 0]) ?_ 1 _ rfl; (with_reducible repeat (first | refine blk_drewN ?_ _ | refine blk_drew ?_ | refine blk_alloc ?_ _)); refine blk_put (cs := #[.bool false, .slice none 0 0]) ?_ 0 _ rfl; (with_reducible repeat (first | refine blk_drewN ?_ _ | refine blk_drew ?_ | refine blk_alloc ?_ _)); exact BK.out) Tryz.underlying27 rfl (by kernel_rfl)) rfl ?_
    exact ⟨rfl, by repeat (first | (with_reducible first | exact HB.out | apply below_alloc | apply pw_below_drewN | apply below_drew1 | refine below_set ?_ GE.out) | exact HB.out)⟩
  | false =>
    go_enter Tryz.func50, Tryz.ntmps50
    go_wp2_with (first | ((with_reducible refine gate_dst (N := 4) rfl ?_); (try (refine gate_guard (by rfl) ?_; dsimp only)); refine box_event ?hg (N := 4) ?hd (cs := #[.bool false, .slice none 0 0]) (t := 27) ?hr ?_; (case hd => rfl); (case hg => rfl); (case hr => first | (go_simp; done) | (go_simp; rfl)); intro gb hg w4 hbox hb; have n2_ := Aside0.mk (below_step HB.out hb); have n3_ := Aside0.mk (hbox); have n5_ := Aside0.mk ((by rw [hg]; exact (below_size HB.out) : w.heap.size ≤ gb)); clear HB; have HB := n2_; have BK := n3_; have GE := n5_; clear n2_ n3_ n5_; clear hb hbox hg; have hcz6_0 : w4.cell? ⟨gb, 0, none⟩ = some (.bool false) := (blk_cell BK.out 0).trans rfl; have hcz6_1 : w4.cell? ⟨gb, 1, none⟩ = some (.slice none 0 0) := (blk_cell BK.out 1).trans rfl; have hfz6_0 := blk_frozen BK.out 0; have hfz6_1 := blk_frozen BK.out 1))
    refine bodyPost_ret (results_cell_row rfl _ _ gb 27 #[.bool false, .slice A n c] (0, 0) _ rfl (by (with_reducible repeat (first | refine blk_drewN ?_ _ | refine blk_drew ?_ | refine blk_alloc ?_ _)); refine blk_put (cs := #[.bool false, .slice none 0 0]) ?_ 1 _ rfl; (with_reducible repeat (first | refine blk_drewN ?_ _ | refine blk_drew ?_ | refine blk_alloc ?_ _)); refine blk_put (cs := #[.bool false, .slice none 0 0]) ?_ 0 _ rfl; (with_reducible repeat (first | refine blk_drewN ?_ _ | refine blk_drew ?_ | refine blk_alloc ?_ _)); exact BK.out) Tryz.underlying27 rfl (by kernel_rfl)) rfl ?_
    exact ⟨rfl, by repeat (first | (with_reducible first | exact HB.out | apply below_alloc | apply pw_below_drewN | apply below_drew1 | refine below_set ?_ GE.out) | exact HB.out)⟩
end Go.Proofs.YtefeijofhocnpaaGreatDoor
