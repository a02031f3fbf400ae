/- For the claim of laws.FnBinomial and FnBinomialSum: IntMul, IntMulK. -/
import Derived.Test.YtefeijofhocnpaaGreatDoorKbA7
import Derived.BigRegion
set_option linter.unusedVariables false
set_option linter.unusedSimpArgs false
namespace Go.Proofs.YtefeijofhocnpaaGreatDoor
open Go.RowKit
theorem iInt3 : (Tryz.prog.info? 80).map (fun i => i.size) = some 2 := by kernel_rfl
theorem uPInt : Tryz.prog.underlying 76 = some (.pointer 80) := by kernel_rfl
theorem eql_ints {w : World} {b b' : Nat} (ha : Free w b) (hb : Free w b') {r : Bool} (hr : ((⟨b, 0, none⟩ : Addr) == ⟨b', 0, none⟩) = r) :
    (binOp .eql 76 (.pointer (some ⟨b, 0, none⟩)) (.pointer (some ⟨b', 0, none⟩))).run Tryz.prog w = .ok (.bool r) w := by
  obtain ⟨i, hi⟩ : ∃ i, Tryz.prog.info? 80 = some i ∧ i.size = 2 := by
    have h := iInt3
    cases hq : Tryz.prog.info? 80 with
    | none => rw [hq] at h; cases h
    | some i => exact ⟨i, rfl, by rw [hq] at h; simpa using h⟩
  exact run_eql_ptr (a := ⟨b, 0, none⟩) (b := ⟨b', 0, none⟩) uPInt hi.1 (by omega) ha hb hr
theorem eql_intsO {w : World} {b b' o' : Nat} (ha : Free w b) (hb : Free w b') {r : Bool} (hr : ((⟨b, 0, none⟩ : Addr) == ⟨b', o', none⟩) = r) :
    (binOp .eql 76 (.pointer (some ⟨b, 0, none⟩)) (.pointer (some ⟨b', o', none⟩))).run Tryz.prog w = .ok (.bool r) w := by
  obtain ⟨i, hi⟩ : ∃ i, Tryz.prog.info? 80 = some i ∧ i.size = 2 := by
    have h := iInt3
    cases hq : Tryz.prog.info? 80 with
    | none => rw [hq] at h; cases h
    | some i => exact ⟨i, rfl, by rw [hq] at h; simpa using h⟩
  exact run_eql_ptr (a := ⟨b, 0, none⟩) (b := ⟨b', o', none⟩) uPInt hi.1 (by omega) ha hb hr
theorem sign_mul {X Y : Int} {sx sy : Bool} (hx : decide (X < 0) = sx) (hy : decide (Y < 0) = sy) (h0 : X.natAbs * Y.natAbs ≠ 0) : decide (X * Y < 0) = (sx != sy) := by
  have hX : X ≠ 0 := by intro h; subst h; simp at h0
  have hY : Y ≠ 0 := by intro h; subst h; simp at h0
  subst hx; subst hy
  rcases Int.lt_or_gt_of_ne hX with h1 | h1 <;> rcases Int.lt_or_gt_of_ne hY with h2 | h2
  · have := Int.mul_pos_of_neg_of_neg h1 h2
    simp [h1, h2]; omega
  · have := Int.mul_neg_of_neg_of_pos h1 h2
    have h3 : ¬ Y < 0 := by omega
    simp [h1, h3, this]
  · have := Int.mul_neg_of_pos_of_neg h1 h2
    have h3 : ¬ X < 0 := by omega
    simp [h2, h3, this]
  · have := Int.mul_pos h1 h2
    have h3 : ¬ X < 0 := by omega
    have h4 : ¬ Y < 0 := by omega
    simp [h3, h4]; omega
set_option maxRecDepth 1000000 in
set_option maxHeartbeats 1600000 in
theorem Int_mul_gen (zb xb yb : Nat) (lz lx ly : Loc) (sz : Bool) (nz : Nat) (X Y : Int) (S : Value) (w : World) (hz : IntD w zb lz sz nz) (hx : IntV w xb lx X) (hy : IntV w yb ly Y) (hne : xb ≠ yb) (Q : Loc → World → Prop)
    (HM : ∀ w', Upd NoF w w' → Calls Tryz.prog 92 #[.slice lz.A nz lz.c, S, .slice lx.A (digs X.natAbs).length lx.c, .slice ly.A (digs Y.natAbs).length ly.c] w' fun e w1 => ∃ r : Loc, e = .returned (.slice r.A (digs (X.natAbs * Y.natAbs)).length r.c) ∧ Q r w1)
    (hQ : ∀ r w1, Q r w1 → IntD w1 zb lz sz nz ∧ CellT 80 w1 xb 0 (.bool (decide (X < 0))) ∧ CellT 80 w1 yb 0 (.bool (decide (Y < 0)))) :
    Calls Tryz.prog 97 #[.pointer (some ⟨zb, 0, none⟩), S, .pointer (some ⟨xb, 0, none⟩), .pointer (some ⟨yb, 0, none⟩)] w fun e w' => e = .returned (.tuple #[]) ∧
      ∃ (r : Loc) (w1 : World) (k : Nat), Q r w1 ∧ w' = ((w1.setCell ⟨zb, 1, none⟩ (.slice r.A (digs (X.natAbs * Y.natAbs)).length r.c)).setCell ⟨zb, 0, none⟩ (.bool (decide (X * Y < 0)))).drewN k := by
  have c1 := hz.neg.cell
  have c2 := hz.neg.frozen
  have c3 := hz.abs.cell
  have c4 := hz.abs.frozen
  have c6 := hx.abs.cell
  have c8 := hy.abs.cell
  have heq := eql_ints hx.neg.free hy.neg.free (r := false) (by rw [addr_beq]; exact decide_eq_false (fun h => hne h.1))
  obtain ⟨sx, hsx⟩ : ∃ s, decide (X < 0) = s := ⟨_, rfl⟩
  obtain ⟨sy, hsy⟩ : ∃ s, decide (Y < 0) = s := ⟨_, rfl⟩
  rw [hsx, hsy] at hQ
  have HSX := Lib.hid (And.intro hsx hsy)
  have HH := Lib.hid (And.intro HM hQ)
  clear hsx hsy HM hQ hx hy
  go_enter Tryz.func97, Tryz.ntmps97
  go_wp2_with fail
  refine wp_region_pre_tail 1 14 (by kernel_rfl) (by kernel_rfl) ?_
  simp only [List.take_succ_cons, List.take_zero, List.drop_succ_cons, List.drop_zero]
  repeat (refine wpPure_step ?_ (fun _ _ _ h => h) (by rfl) (by intro _; go_simp; with_reducible rfl) ?_; (try simp only [Act.put, List.setIfInBounds_toArray, List.set_cons_zero, List.set_cons_succ]))
  refine wpPure_nil ?_
  repeat still_step
  refine wpStill_nil ?_
  go_wp2_with fail
  refine (HH.out.1 _ ((Upd.refl NoF w).drew)).mono ?_
  rintro e w1 ⟨r, rfl, hq⟩
  obtain ⟨g1, g2, g3⟩ := HH.out.2 r w1 hq
  have d1 := g1.abs.cell
  have d2 := g1.abs.frozen
  have HQ := Lib.hid hq
  clear heq c1 c2 c3 c4 c6 c8 hq
  go_wp2_with fail
  have k1 := (g1.abs.set (.slice r.A (digs (X.natAbs * Y.natAbs)).length r.c))
  have k2 := (g1.neg.far (b' := zb) (i' := 1) (.slice r.A (digs (X.natAbs * Y.natAbs)).length r.c) (by omega))
  have k3 := (g2.far (b' := zb) (i' := 1) (.slice r.A (digs (X.natAbs * Y.natAbs)).length r.c) (by omega))
  have k4 := (g3.far (b' := zb) (i' := 1) (.slice r.A (digs (X.natAbs * Y.natAbs)).length r.c) (by omega))
  obtain ⟨w2, hw2⟩ : ∃ w2, w1.setCell ⟨zb, 1, none⟩ (.slice r.A (digs (X.natAbs * Y.natAbs)).length r.c) = w2 := ⟨_, rfl⟩
  rw [hw2] at k1 k2 k3 k4 ⊢
  have d3 := k1.cell
  have d4 := k2.cell
  have d5 := k2.frozen
  have d6 := k3.cell
  have d7 := k4.cell
  have HW := Lib.hid hw2
  clear hw2 k1 k2 k3 k4 d1 d2 g1 g2 g3
  by_cases h0 : X.natAbs * Y.natAbs = 0
  · have q0 : decide (0 < (digs (X.natAbs * Y.natAbs)).length) = false := decide_eq_false (by rw [digs_len_eq_zero.2 h0]; omega)
    have e1 : decide (X * Y < 0) = false := decide_eq_false (by rw [← Int.natAbs_mul] at h0; omega)
    have HE := Lib.hid e1
    clear e1 h0
    go_region
    all_goals
      go_wp2
      go_end0
      refine ⟨rfl, r, w1, 1, HQ.out, ?_⟩
      rw [HE.out, HW.out]; rfl
  · have q0 : decide (0 < (digs (X.natAbs * Y.natAbs)).length) = true := decide_eq_true (by have := mt digs_len_eq_zero.1 h0; omega)
    have e1 := sign_mul HSX.out.1 HSX.out.2 h0
    have HE := Lib.hid e1
    clear e1 h0
    go_region
    all_goals
      go_wp2
      go_end0
      refine ⟨rfl, r, w1, 1, HQ.out, ?_⟩
      rw [HE.out, HW.out]; rfl
end Go.Proofs.YtefeijofhocnpaaGreatDoor
namespace Go.Proofs.YtefeijofhocnpaaGreatDoor
open Go.RowKit
structure MulOut (w : World) (z : Loc) (reuse : Prop) (need N sb ns : Nat) (J : SI) (r : Loc) (rs : List Nat) (J' : SI) (w' : World) : Prop where
  at_ : r = z ∨ w.heap.size ≤ r.b
  re : reuse → r = z
  ln : rs.length ≤ need
  lc : rs.length ≤ r.c
  u : U64 w' r.b r.o rs
  d : Digs B64 rs
  v : val B64 rs = N
  ok : r.Ok w'
  stk : StkV w' sb ns J'
  le : SI.Le w sb J J'
  off : Off J' sb ns r
theorem blk_upd (w : World) (zb k : Nat) (u v : Value) : Upd (Blk zb) w (((w.setCell ⟨zb, 1, none⟩ u).setCell ⟨zb, 0, none⟩ v).drewN k) :=
  (((Upd.refl (Blk zb) w).setCell (fun _ => rfl) _).setCell (fun _ => rfl) _).drewN k
theorem Int_mul_stk (T : Int) (zb xb yb : Nat) (lz lx ly : Loc) (sz : Bool) (nz : Nat) (X Y : Int) (sb ns : Nat) (J : SI) (w : World) (hM : MulSpec T (digs X.natAbs).length (digs Y.natAbs).length) (hz : IntD w zb lz sz nz) (hx : IntV w xb lx X) (hy : IntV w yb ly Y) (hne : xb ≠ yb)
    (rx : Rel lz lx) (ry : Rel lz ly) (hT : Thr w T) (hS : StkV w sb ns J) (oz : Off J sb ns lz) (ox : Off J sb ns lx) (oy : Off J sb ns ly) (hG : ns + G ((digs X.natAbs).length + (digs Y.natAbs).length) ≤ 1099511627776) :
    Calls Tryz.prog 97 #[.pointer (some ⟨zb, 0, none⟩), .pointer (some ⟨sb, 0, none⟩), .pointer (some ⟨xb, 0, none⟩), .pointer (some ⟨yb, 0, none⟩)] w fun e w' => e = .returned (.tuple #[]) ∧
      ∃ (r : Loc) (rs : List Nat) (J' : SI), MulOut w lz (Apart lz lx ∧ Apart lz ly ∧ (digs X.natAbs).length + (digs Y.natAbs).length ≤ lz.c) ((digs X.natAbs).length + (digs Y.natAbs).length) (X.natAbs * Y.natAbs) sb ns J r rs J' w' ∧
        IntV w' zb r (X * Y) ∧ Upd (Or2 (Blk zb) (Or2 (ZF lz rs.length) (J.K sb ns))) w w' := by
  have hno : ∀ (k : Nat) {b i : Nat} {v : Value}, CellT 80 w b i v → ∀ j, ¬ Or2 (ZF lz k) (J.K sb ns) b j := fun k b i v hc j h => by
    rcases h with h | h
    · exact ZF.no hz.ok hc (by decide) k j h
    · exact hS.no hc (by decide) (by decide) (by decide) j h
  refine (Int_mul_gen zb xb yb lz lx ly sz nz X Y _ w hz hx hy hne
    (fun r w1 => ∃ rs J', MulOut w lz (Apart lz lx ∧ Apart lz ly ∧ (digs X.natAbs).length + (digs Y.natAbs).length ≤ lz.c) ((digs X.natAbs).length + (digs Y.natAbs).length) (X.natAbs * Y.natAbs) sb ns J r rs J' w1 ∧ Upd (Or2 (ZF lz rs.length) (J.K sb ns)) w w1)
    (fun w' u => ?_) (fun r w1 ⟨rs, J', _, hu⟩ => ?_)).mono ?_
  · have hs := u.size
    refine (hM lz lx ly nz sb ns J _ _ w' (hz.ok.upd u) (hx.nat.upd0 u) (hy.nat.upd0 u) rfl rfl rx ry (hT.upd u (fun _ h => h)) (hS.upd0 u) oz ox oy hG).mono ?_
    rintro e w1 ⟨r, rs, J', rfl, h1, h2, h3, h4, h5, h6, h7, h8, h9, h10, h11, h12⟩
    rw [val_digs, val_digs] at h7 ⊢
    exact ⟨r, rfl, rs, J', ⟨h1.imp id (fun h => by omega), h2, h3, h4, h5, h6, h7, h8, h10, fun n b i hb h => h11 n b i (by omega) h, h12⟩, u.then h9 (fun _ _ _ h => h.elim) (fun _ _ _ h => h)⟩
  · exact ⟨⟨hz.neg.upd hu (hno _ hz.neg _), hz.abs.upd hu (hno _ hz.abs _), hz.ok.upd hu⟩, hx.neg.upd hu (hno _ hx.neg _), hy.neg.upd hu (hno _ hy.neg _)⟩
  · rintro e w' ⟨rfl, r, w1, k, ⟨rs, J', hO, hu⟩, rfl⟩
    have hu2 := blk_upd w1 zb k (.slice r.A (digs (X.natAbs * Y.natAbs)).length r.c) (.bool (decide (X * Y < 0)))
    have hzn := hz.neg.upd hu (hno _ hz.neg _)
    have hza := hz.abs.upd hu (hno _ hz.abs _)
    have hnb : ∀ i, i < rs.length → ¬ Blk zb r.b (r.o + i) := fun i hi h => hzn.neW (hO.u i hi) (by decide) h.symm
    refine ⟨rfl, r, rs, J', ⟨hO.at_, hO.re, hO.ln, hO.lc, hO.u.upd hu2 hnb, hO.d, hO.v, hO.ok.upd hu2, hO.stk.upd hu2 (fun b i h => h ▸ hO.stk.no hzn (by decide) (by decide) (by decide) i), hO.le, hO.off⟩, ⟨?_, ?_, ?_⟩,
      (hu.mono (fun _ _ _ h => Or.inr h)).trans (hu2.mono (fun _ _ _ h => Or.inl h))⟩
    · exact (hzn.far _ (by omega)).set _
    · rw [Int.natAbs_mul]
      exact (hza.set _).far _ (by omega)
    · rw [Int.natAbs_mul]
      have hv : VecV w1 r rs := ⟨hO.ok, hO.lc, hO.u, hO.d⟩
      have hn := hv.norm
      rw [hO.v] at hn
      refine hn.upd hu2 (fun i hi => hnb i ?_)
      have := digs_len_le hO.d
      rw [hO.v] at this
      omega
end Go.Proofs.YtefeijofhocnpaaGreatDoor
