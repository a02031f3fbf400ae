/- For the claim of laws.FnSquareRoot: LawSqrt. -/
import Derived.Test.YtefeijofhocnpaaGreatDoorKsF1
import Derived.Test.YtefeijofhocnpaaGreatDoorKsD5
set_option linter.unusedVariables false
set_option linter.unusedSimpArgs false
namespace Go.Proofs.YtefeijofhocnpaaGreatDoor
open Go.RowKit
set_option linter.unusedSimpArgs false
theorem implMul_num (T : Int) (v1 v2 : Value) (n m : Nat) (X Y : Int) (w : World) (hT : Thr w T) (h1 : NumR w v1 n X) (h2 : NumR w v2 m Y) (hn : n ≤ 262144) (hm : m ≤ 262144) :
    Calls Tryz.prog 35 #[v1, v2] w fun e w' => ∃ v, e = .returned v ∧ NumI w' v (X * Y) ∧ Upd NoF w w' := by
  obtain ⟨s, A, c, xs, rfl, a2, a3, a4, a5, a6, a7⟩ := h1
  obtain ⟨s2, A2, c2, ys, rfl, b2, b3, b4, b5, b6, b7⟩ := h2
  rw [a7, b7]
  exact (implMul_any T s s2 A A2 n m c c2 xs ys w hT a2 b2 a3 b3 hn hm a5 b5 a6 b6).mono (fun _ _ ⟨A, c, he, h1, _, h3, h4⟩ => ⟨_, he, ⟨A, c, rfl, h1, h3⟩, h4⟩)
structure BoxN (w : World) (g : Nat) (s : Bool) (A : Option Addr) (n c : Nat) : Prop where
  c0 : CellT 33 w g 0 (.bool s)
  c1 : CellT 33 w g 1 (.slice A n c)
theorem BoxN.upd {w w' : World} {g : Nat} {s : Bool} {A : Option Addr} {n c : Nat} (h : BoxN w g s A n c) (u : Upd NoF w w') : BoxN w' g s A n c := ⟨h.c0.upd u (fun h => h), h.c1.upd u (fun h => h)⟩
theorem BoxN.new (w : World) (s : Bool) (A : Option Addr) (n c : Nat) : BoxN (w.alloc (.cells #[.bool s, .slice A n c] 33)) w.heap.size s A n c :=
  ⟨⟨_, heap_alloc_new w _, by simp⟩, ⟨_, heap_alloc_new w _, by simp⟩⟩
theorem sq_nonneg (V : Int) : 0 ≤ V * V := by
  rcases Int.le_total 0 V with h | h
  · exact Int.mul_nonneg h h
  · have := Int.mul_nonneg (show 0 ≤ -V by omega) (show 0 ≤ -V by omega)
    rwa [Int.neg_mul_neg] at this
set_option maxRecDepth 100000 in
theorem field_nat (b : Bool) (x : Value) (w : World) : (Instr.field 27 (.agg #[.bool b, x]) 1).run Tryz.prog w = .ok x w := by
  first
  | exact rfl
  | (simp [Instr.field, go_sem]; done)
set_option maxRecDepth 1000000 in
set_option maxHeartbeats 3200000 in
theorem FnSquareRoot_any (v : Value) (n : Nat) (V : Int) (w : World) (hN : NumR w v n V) (hK : Thr w 40) (hO : NatOne w) (hD : DThr w 40) :
    Calls Tryz.prog 10 #[v] w fun e w' => e = .returned (.bool true) ∧ Upd NoF w w' := by
  have HZ := Lib.hid (fun w' (u : Upd NoF w w') => zz_sp v n V w' (hN.upd u))
  have HG := Lib.hid (fun w' (u : Upd NoF w w') => big_sp v n V 20 w' (hN.upd u))
  have HIN := Lib.hid (fun w' (u : Upd NoF w w') (h : n ≤ 20) => in_sp v n V w' (hN.upd u) (by omega))
  have HM := Lib.hid (fun w' (u : Upd NoF w w') (h : n ≤ 20) => implMul_num 40 v v n n V V w' (hK.upd u (fun _ h => h)) (hN.upd u) (hN.upd u) (by omega) (by omega))
  have hlen := hN.len
  obtain ⟨s, A, c, xs, rfl, hN2⟩ := id hN
  have HW := Lib.hid (And.intro hO (And.intro hD hlen))
  clear hN hN2 hO hD hK
  have hfd : ∀ (b : Bool) (x : Value) (w : World), (Instr.field 27 (.agg #[.bool b, x]) 1).run Tryz.prog w = .ok x w := field_nat
  go_enter Tryz.func10, Tryz.ntmps10
  go_wp2_with fail
  have hb := BoxN.new w s A n c
  have u1 : Upd NoF w (w.alloc (.cells #[.bool s, .slice A n c] 33)) := (Upd.refl NoF w).alloc _
  obtain ⟨g, hg⟩ : ∃ g, w.heap.size = g := ⟨_, rfl⟩
  obtain ⟨w1, hw1⟩ : ∃ w1, w.alloc (.cells #[.bool s, .slice A n c] 33) = w1 := ⟨_, rfl⟩
  rw [hg, hw1] at hb
  rw [hw1] at u1
  rw [hg, hw1]
  have H1 := Lib.hid (And.intro u1 hb)
  clear u1 hb hg hw1
  refine (HZ.out w1 H1.out.1).mono ?_
  rintro e w2 ⟨rfl, u2⟩
  by_cases hz : 2147483647 < n
  · have q1 : decide (n ≤ 2147483647) = false := decide_eq_false (by omega)
    rw [q1]
    have HU := Lib.hid (H1.out.1.trans u2)
    clear u2
    go_wp2_with fail
    go_ret
    exact ⟨rfl, HU.out⟩
  have q1 : decide (n ≤ 2147483647) = true := decide_eq_true (by omega)
  rw [q1]
  have H2 := Lib.hid (And.intro (H1.out.1.trans u2) (H1.out.2.upd u2))
  have c0 := H2.out.2.c0.cell
  have c1 := H2.out.2.c1.cell
  clear u2 q1
  go_wp2_with fail
  refine (HG.out w2 H2.out.1).mono ?_
  rintro e w3 ⟨rfl, u3⟩
  by_cases hz2 : 20 < n
  · have q1 : decide (20 < n) = true := decide_eq_true hz2
    rw [q1]
    have HU := Lib.hid (H2.out.1.trans u3)
    clear u3
    go_wp2_with fail
    go_ret
    exact ⟨rfl, HU.out⟩
  have q1 : decide (20 < n) = false := decide_eq_false hz2
  rw [q1]
  have H3 := Lib.hid (And.intro (H2.out.1.trans u3) (H2.out.2.upd u3))
  have c0 := H3.out.2.c0.cell
  have c1 := H3.out.2.c1.cell
  have hn : n ≤ 20 := by omega
  clear u3 q1 hz hz2
  go_wp2_with fail
  refine (HIN.out w3 H3.out.1 hn).mono ?_
  rintro e w4 ⟨v1, rfl, hv1, u4⟩
  obtain ⟨A1, c1', rfl, hc1, hC1⟩ := hv1
  have hSA : SpN w4 (.slice A1 (ds V.natAbs).length c1') V.natAbs := ⟨A1, c1', rfl, hc1, hC1⟩
  have H4 := Lib.hid (And.intro (H3.out.1.trans u4) (And.intro (H3.out.2.upd u4) hSA))
  have c0 := H4.out.2.1.c0.cell
  have c1 := H4.out.2.1.c1.cell
  clear u4 hc1 hC1 hSA
  go_wp2_with fail
  refine (HM.out w4 H4.out.1 hn).mono ?_
  rintro e w5 ⟨v5, rfl, hv5, u5⟩
  have hl2 : (digs (V * V).natAbs).length ≤ 40 := by
    rw [Int.natAbs_mul]
    have := digs_mul_len V.natAbs V.natAbs
    have := HW.out.2.2
    omega
  have hroot : IsRoot (V * V).natAbs V.natAbs := by rw [Int.natAbs_mul]; exact root_sq _
  have u05 := H4.out.1.trans u5
  have HS := Lib.hid (implSqrt_any 40 v5 _ V.natAbs (V * V) w5 (hv5.raw (by omega)) (sq_nonneg V) hroot (HW.out.1.upd u05) (HW.out.2.1.upd u05 (fun _ h => h)) (by omega) (by omega))
  have H5 := Lib.hid (And.intro u05 (And.intro (H4.out.2.1.upd u5) (H4.out.2.2.upd u5)))
  clear hl2 hroot u05 u5 hv5
  go_wp2_with fail
  refine HS.out.mono ?_
  rintro e w6 ⟨v6, rfl, hv6, u6⟩
  obtain ⟨a, ha⟩ : ∃ a, V.natAbs = a := ⟨_, rfl⟩
  have hal : (digs a).length ≤ 20 := by rw [← ha]; have := HW.out.2.2; omega
  have H5 := Lib.hid (And.intro (H5.out.1.trans u6) (And.intro (ha ▸ hv6) (ha ▸ H5.out.2.2.upd u6)))
  obtain ⟨A6, c6, rfl, n6, r6⟩ := hv6
  rw [ha] at H5 ⊢
  have HA := Lib.hid (And.intro ha hal)
  rw [show (((a : Nat) : Int)).natAbs = a from rfl] at H5 ⊢
  obtain ⟨s6, hs6⟩ : ∃ s6, decide (((a : Nat) : Int) < 0) = s6 := ⟨_, rfl⟩
  obtain ⟨m6, hm6⟩ : ∃ m6, (digs a).length = m6 := ⟨_, rfl⟩
  obtain ⟨m1, hm1⟩ : ∃ m1, (ds a).length = m1 := ⟨_, rfl⟩
  rw [hs6, hm6] at H5 ⊢
  rw [hm1] at H5 ⊢
  have HM6 := Lib.hid (And.intro hs6 (And.intro hm6 hm1))
  have q0 : ((m1 : Int) == 0) = decide (a = 0) := by
    have := ds_len_eq_zero (n := a)
    rw [hm1] at this
    by_cases h : a = 0
    · rw [decide_eq_true h]; exact beq_iff_eq.2 (by omega)
    · rw [decide_eq_false h]; exact beq_eq_false_iff_ne.2 (by omega)
  have hb := BoxN.new w6 s6 A6 m6 c6
  have u7 : Upd NoF w6 (w6.alloc (.cells #[.bool s6, .slice A6 m6 c6] 33)) := (Upd.refl NoF w6).alloc _
  clear hs6 hm6 hm1 u6 n6 r6 ha hal
  go_wp2_with fail
  obtain ⟨g6, hg6⟩ : ∃ g6, w6.heap.size = g6 := ⟨_, rfl⟩
  obtain ⟨w7, hw7⟩ : ∃ w7, w6.alloc (.cells #[.bool s6, .slice A6 m6 c6] 33) = w7 := ⟨_, rfl⟩
  rw [hg6, hw7] at hb
  rw [hw7] at u7
  rw [hg6, hw7]
  have H7 := Lib.hid (And.intro (H5.out.1.trans u7) (And.intro (H5.out.2.1.upd u7) (And.intro (H5.out.2.2.upd u7) hb)))
  clear u7 hb hg6 hw7 H5
  refine (isnat_sp _ _ a w7 H7.out.2.1 H7.out.2.2.1 (by have := HA.out.2; omega)).mono ?_
  rintro e w8 ⟨rfl, u8⟩
  have H8 := Lib.hid (And.intro (H7.out.1.trans u8) (And.intro (H7.out.2.1.upd u8) (And.intro (H7.out.2.2.1.upd u8) (H7.out.2.2.2.upd u8))))
  have c0 := H8.out.2.2.2.c0.cell
  have c1 := H8.out.2.2.2.c1.cell
  clear u8 H7
  by_cases h0 : a = 0
  · rw [decide_eq_true h0] at q0
    clear h0
    go_wp2_with fail
    refine (isnat_sp _ _ a w8 H8.out.2.1 H8.out.2.2.1 (by have := HA.out.2; omega)).mono ?_
    rintro e w9 ⟨rfl, u9⟩
    have HU := Lib.hid (H8.out.1.trans u9)
    clear u9
    go_wp2_with fail
    go_ret
    exact ⟨rfl, HU.out⟩
  rw [decide_eq_false h0] at q0
  have ha1 : 1 ≤ a := by omega
  have ha2 : 1 ≤ a * a := Nat.mul_pos ha1 ha1
  have hl4 : (ds a).length ≤ 80 := by have := ds_len4 a; have := HA.out.2; omega
  have hl5 : (digs (a * a)).length ≤ 40 := by have := digs_mul_len a a; have := HA.out.2; omega
  have hl6 : (ds (a * a)).length ≤ 160 := by have := ds_len4 (a * a); omega
  have hl7 : (digs (a * a - 1)).length ≤ 40 := Nat.le_trans (digs_len_mono (Nat.sub_le _ _)) hl5
  have HM2 := Lib.hid (fun w' (u : Upd NoF w8 w') => mul_sp _ _ a a w' (H8.out.2.2.1.upd u) (H8.out.2.2.1.upd u) (by omega))
  have HL := Lib.hid (And.intro ha1 (And.intro ha2 (And.intro hl4 (And.intro hl5 (And.intro hl6 hl7)))))
  clear h0 ha2 hl4 hl5 hl6 hl7
  go_wp2_with fail
  refine (HM2.out w8 (Upd.refl _ _)).mono ?_
  rintro e w9 ⟨v9, rfl, h9, u9⟩
  go_wp2_with fail
  refine (small_sp 1 w9 (by omega)).mono ?_
  rintro e wa ⟨va, rfl, ha, ua⟩
  go_wp2_with fail
  refine (sub_sp v9 va (a * a) 1 wa (h9.upd ua) ha HL.out.2.1 (by have := HL.out.2.2.2.2.1; omega)).mono ?_
  rintro e wb ⟨vb, rfl, hvb, ub⟩
  have hI := hvb.int
  obtain ⟨Ab, cb, rfl, _, _⟩ := hvb
  have Ub := Lib.hid (And.intro (H8.out.1.trans ((u9.trans ua).trans ub)) (And.intro hI ((u9.trans ua).trans ub)))
  clear u9 ua ub h9 ha hI HM2
  go_wp2_with fail
  refine (number_sp _ _ wb Ub.out.2.1 (by have := HL.out.2.2.2.2.2; rw [Int.natAbs_natCast]; omega)).mono ?_
  rintro e wc ⟨vc, rfl, hvc, uc⟩
  have U8c := Lib.hid (Ub.out.2.2.trans uc)
  have uc := Ub.out.1.trans uc
  have HS2 := Lib.hid (implSqrt_any 40 vc _ (a - 1) ((a * a - 1 : Nat) : Int) wc (hvc.raw (by have := HL.out.2.2.2.2.2; rw [Int.natAbs_natCast]; omega)) (by omega) (by rw [Int.natAbs_natCast]; exact root_less HL.out.1)
    (HW.out.1.upd uc) (HW.out.2.1.upd uc (fun _ h => h)) (by have := HL.out.2.2.2.2.2; rw [Int.natAbs_natCast]; omega) (by have := HL.out.2.2.2.2.2; rw [Int.natAbs_natCast]; omega))
  have Uc := Lib.hid uc
  clear hvc uc
  go_wp2_with fail
  refine HS2.out.mono ?_
  rintro e wd ⟨vd, rfl, hvd, ud⟩
  obtain ⟨b, hb⟩ : ∃ b, a - 1 = b := ⟨_, rfl⟩
  have hbl : (digs b).length ≤ 20 := by rw [← hb]; exact Nat.le_trans (digs_len_mono (Nat.sub_le _ _)) HA.out.2
  rw [hb] at hvd
  have hvd0 := hvd
  obtain ⟨Ad, cd, rfl, nd, rd⟩ := hvd
  rw [show (((b : Nat) : Int)).natAbs = b from rfl] at hvd0 ⊢
  obtain ⟨sd, hsd⟩ : ∃ sd, decide (((b : Nat) : Int) < 0) = sd := ⟨_, rfl⟩
  obtain ⟨md, hmd⟩ : ∃ md, (digs b).length = md := ⟨_, rfl⟩
  rw [hsd, hmd] at hvd0 ⊢
  have hbx := BoxN.new wd sd Ad md cd
  have ue : Upd NoF wd (wd.alloc (.cells #[.bool sd, .slice Ad md cd] 33)) := (Upd.refl NoF wd).alloc _
  have He := Lib.hid (And.intro (Uc.out.trans (ud.trans ue)) (And.intro (hvd0.upd ue) (And.intro (U8c.out.trans (ud.trans ue)) (And.intro hb hbl))))
  clear hb hsd hmd hvd0 nd rd ud ue hbl
  go_wp2_with fail
  obtain ⟨ge, hge⟩ : ∃ ge, wd.heap.size = ge := ⟨_, rfl⟩
  obtain ⟨we, hwe⟩ : ∃ we, wd.alloc (.cells #[.bool sd, .slice Ad md cd] 33) = we := ⟨_, rfl⟩
  rw [hge, hwe] at hbx
  rw [hwe] at He
  rw [hge, hwe]
  have HS := Lib.hid (fun w' (u : Upd NoF we w') => (show w'.cell? ⟨ge, 0, none⟩ = some (.bool sd) ∧ w'.cell? ⟨ge, 1, none⟩ = some (.slice Ad md cd) from ⟨(hbx.upd u).c0.cell, (hbx.upd u).c1.cell⟩))
  have KS := Lib.hid (fun w' => small_sp 1 w' (by omega))
  have KB := Lib.hid (fun (v2 : Value) (w' : World) (u : Upd NoF we w') (h2 : SpN w' v2 1) => sub_sp _ v2 a 1 w' (H8.out.2.2.1.upd (He.out.2.2.1.trans u)) h2 HL.out.1 (by have := HL.out.2.2.1; omega))
  have KI := Lib.hid (fun (v2 : Value) (w' : World) (u : Upd NoF we w') (h2 : SpN w' v2 (a - 1)) => isnat_sp _ v2 b w' (He.out.2.1.upd u) (He.out.2.2.2.1 ▸ h2) (by have := He.out.2.2.2.2; omega))
  clear hbx hge hwe
  refine wp_region_held_drew (S := (fun w' => w'.cell? ⟨ge, 0, none⟩ = some (.bool sd) ∧ w'.cell? ⟨ge, 1, none⟩ = some (.slice Ad md cd))) (by kernel_rfl) (by exact HS.out _ (by (repeat (first | exact Upd.refl _ _ | assumption | refine Upd.alloc ?_ _ | refine Upd.drew ?_ | refine Upd.drewN ?_ _ | refine Upd.trans ?_ (by assumption))))) (fun hHeld => ?_)
  refine wpAnyH_take (i := 0) (v := ?_) rfl (by kernel_rfl) (by kernel_rfl) (by kernel_rfl) (fun _ _ _ h => h) (Or.inl ⟨by rfl, ?_⟩) (by assumption) ?_
  rotate_left
  · (intro w' hSw; (try dsimp only at hSw); go_simp; try with_reducible rfl)
  simp only [Act.put, List.setIfInBounds_toArray, List.set_cons_zero, List.set_cons_succ]
  refine wpAnyH_take (i := 1) (v := ?_) rfl (by kernel_rfl) (by kernel_rfl) (by kernel_rfl) (fun _ _ _ h => h) (Or.inl ⟨by rfl, ?_⟩) (by assumption) ?_
  rotate_left
  · (intro w' hSw; (try dsimp only at hSw); go_simp; try with_reducible rfl)
  simp only [Act.put, List.setIfInBounds_toArray, List.set_cons_zero, List.set_cons_succ]
  refine wpAnyH_take (i := 2) (v := ?_) rfl (by kernel_rfl) (by kernel_rfl) (by kernel_rfl) (fun _ _ _ h => h) (Or.inl ⟨by rfl, ?_⟩) (by assumption) ?_
  rotate_left
  · (intro w' hSw; (try dsimp only at hSw); go_simp; try with_reducible rfl)
  simp only [Act.put, List.setIfInBounds_toArray, List.set_cons_zero, List.set_cons_succ]
  refine wpAnyH_take (i := 3) (v := ?_) rfl (by kernel_rfl) (by kernel_rfl) (by kernel_rfl) (fun _ _ _ h => h) (Or.inl ⟨by rfl, ?_⟩) (by assumption) ?_
  rotate_left
  · (intro w' hSw; (try dsimp only at hSw); go_simp; try with_reducible rfl)
  simp only [Act.put, List.setIfInBounds_toArray, List.set_cons_zero, List.set_cons_succ]
  refine wpAnyH_take (i := 4) (v := ?_) rfl (by kernel_rfl) (by kernel_rfl) (by kernel_rfl) (fun _ _ _ h => h) (Or.inl ⟨by rfl, ?_⟩) (by assumption) ?_
  rotate_left
  · (intro w' hSw; (try dsimp only at hSw); go_simp; try with_reducible rfl)
  simp only [Act.put, List.setIfInBounds_toArray, List.set_cons_zero, List.set_cons_succ]
  refine wpAnyH_ready (rs := [5]) (by kernel_rfl) (by simp) ?_
  refine AllReadyH.cons rfl (fun K hK => ?_) AllReadyH.nil
  go_simp
  refine (KS.out _).mono ?_
  rintro e wf ⟨vf, rfl, hf, uf⟩
  have uf : Upd NoF we wf := (Upd.refl NoF we).drew.trans uf
  go_wp2_with fail
  refine hK.out _ _ ?_ (fun hHeld => ?_)
  case' refine_1 => (try dsimp only); exact HS.out _ (by (repeat (first | exact Upd.refl _ _ | assumption | refine Upd.alloc ?_ _ | refine Upd.drew ?_ | refine Upd.drewN ?_ _ | refine Upd.trans ?_ (by assumption))))
  clear hK K
  (try simp only [Act.put, List.setIfInBounds_toArray, List.set_cons_zero, List.set_cons_succ])
  refine wpAnyH_ready (rs := [6]) (by kernel_rfl) (by simp) ?_
  refine AllReadyH.cons rfl (fun K hK => ?_) AllReadyH.nil
  go_simp
  refine (KB.out vf wf uf hf).mono ?_
  rintro e wh ⟨vh, rfl, hh, uh⟩
  have uh : Upd NoF we wh := uf.trans uh
  go_wp2_with fail
  refine hK.out _ _ ?_ (fun hHeld => ?_)
  case' refine_1 => (try dsimp only); exact HS.out _ (by (repeat (first | exact Upd.refl _ _ | assumption | refine Upd.alloc ?_ _ | refine Upd.drew ?_ | refine Upd.drewN ?_ _ | refine Upd.trans ?_ (by assumption))))
  clear hK K
  (try simp only [Act.put, List.setIfInBounds_toArray, List.set_cons_zero, List.set_cons_succ])
  refine wpAnyH_ready (rs := [7]) (by kernel_rfl) (by simp) ?_
  refine AllReadyH.cons rfl (fun K hK => ?_) AllReadyH.nil
  go_simp
  refine (KI.out vh wh uh hh).mono ?_
  rintro e wi ⟨rfl, ui⟩
  have ui : Upd NoF we wi := uh.trans ui
  go_wp2_with fail
  refine hK.out _ _ ?_ (fun hHeld => ?_)
  case' refine_1 => (try dsimp only); exact HS.out _ (by (repeat (first | exact Upd.refl _ _ | assumption | refine Upd.alloc ?_ _ | refine Upd.drew ?_ | refine Upd.drewN ?_ _ | refine Upd.trans ?_ (by assumption))))
  clear hK K
  (try simp only [Act.put, List.setIfInBounds_toArray, List.set_cons_zero, List.set_cons_succ])
  refine wpAnyH_take (i := 8) (v := ?_) rfl (by kernel_rfl) (by kernel_rfl) (by kernel_rfl) (fun _ _ _ h => h) (Or.inl ⟨by rfl, ?_⟩) (by assumption) ?_
  rotate_left
  · (intro w' hSw; (try dsimp only at hSw); go_simp; try with_reducible rfl)
  simp only [Act.put, List.setIfInBounds_toArray, List.set_cons_zero, List.set_cons_succ]
  refine wpAnyH_ready (rs := [9]) (by kernel_rfl) (by simp) ?_
  refine AllReadyH.cons rfl (fun K hK => ?_) AllReadyH.nil
  go_simp
  refine hK.out _ _ ?_ (fun hHeld => ?_)
  case' refine_1 => (try dsimp only); exact HS.out _ (by (repeat (first | exact Upd.refl _ _ | assumption | refine Upd.alloc ?_ _ | refine Upd.drew ?_ | refine Upd.drewN ?_ _ | refine Upd.trans ?_ (by assumption))))
  clear hK K
  (try simp only [Act.put, List.setIfInBounds_toArray, List.set_cons_zero, List.set_cons_succ])
  refine wpAnyH_done (by kernel_rfl) ?_ _
  go_wp2_with fail
  go_ret
  exact ⟨rfl, He.out.1.trans ui⟩
end Go.Proofs.YtefeijofhocnpaaGreatDoor
