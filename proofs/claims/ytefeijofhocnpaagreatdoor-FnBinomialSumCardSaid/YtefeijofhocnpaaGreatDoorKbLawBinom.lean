/- For the claim of laws.FnBinomial and FnBinomialSum: LawBinom. -/
import Derived.Test.YtefeijofhocnpaaGreatDoorKbD5
import Derived.Test.YtefeijofhocnpaaGreatDoorKbD4
set_option linter.unusedVariables false
set_option linter.unusedSimpArgs false
namespace Go.Proofs.YtefeijofhocnpaaGreatDoor
open Go.RowKit
set_option linter.unusedSimpArgs false
theorem ds_len_of (N m : Nat) (h : (digs N).length ≤ m) : (ds N).length ≤ 4 * m := by have := ds_len4 N; omega
set_option maxRecDepth 1000000 in
set_option maxHeartbeats 3200000 in
theorem FnBinomialSum_any (T : Int) (n k : Int) (w : World) (hT : Thr w T) (hO : OneI w) (hn : 0 ≤ n) (hn2 : n ≤ 65535) (hk : 0 ≤ k) (hk2 : k ≤ 65535) :
    Calls Tryz.prog 6 #[.int .u16 n, .int .u16 k] w fun e w' => e = .returned (.bool true) ∧ Upd NoF w w' := by
  obtain ⟨a, ha⟩ : ∃ a : Nat, Int.tmod n 400 = (a : Int) := ⟨(n % 400).toNat, by rw [Int.tmod_eq_emod_of_nonneg hn]; omega⟩
  obtain ⟨b, hb⟩ : ∃ b : Nat, Int.tmod k 405 = (b : Int) := ⟨(k % 405).toNat, by rw [Int.tmod_eq_emod_of_nonneg hk]; omega⟩
  have ha2 : a < 400 := by rw [Int.tmod_eq_emod_of_nonneg hn] at ha; omega
  have hb2 : b < 405 := by rw [Int.tmod_eq_emod_of_nonneg hk] at hb; omega
  have e0 : IntKind.i64.wrap n = n := by rw [IntKind.wrap_i64]; omega
  have e1 : IntKind.i64.wrap k = k := by rw [IntKind.wrap_i64]; omega
  have e2 : IntKind.i64.wrap (a : Int) = (a : Int) := by rw [IntKind.wrap_i64]; omega
  have e3 : IntKind.i64.wrap (b : Int) = (b : Int) := by rw [IntKind.wrap_i64]; omega
  have e4 : IntKind.i64.wrap (1 + (a : Int)) = ((a + 1 : Nat) : Int) := by rw [IntKind.wrap_i64]; omega
  have e5 : IntKind.i64.wrap (1 + (b : Int)) = ((b + 1 : Nat) : Int) := by rw [IntKind.wrap_i64]; omega
  have e6 : IntKind.i64.wrap (((a + 1 : Nat) : Int) - 1) = (a : Int) := by rw [IntKind.wrap_i64]; omega
  have e7 : IntKind.i64.wrap (((b + 1 : Nat) : Int) - 1) = (b : Int) := by rw [IntKind.wrap_i64]; omega
  have R : ∀ (n k : Nat), n ≤ 2000 → k ≤ 2000 → ∀ w', Upd NoF w w' → Calls Tryz.prog 25 #[.int .i64 (n : Int), .int .i64 (k : Int)] w' fun e w'' => ∃ v, e = .returned v ∧ NumI w'' v ((bin n k : Nat) : Int) ∧ Upd NoF w' w'' :=
    fun n k h1 h2 w' u => implBinom_any T n k w' (hT.upd u (fun _ h => h)) (hO.upd u) h1 (by omega)
  have R1 := Lib.hid (R a b (by omega) (by omega))
  have R2 := Lib.hid (R a (b + 1) (by omega) (by omega))
  have R3 := Lib.hid (R (a + 1) (b + 1) (by omega) (by omega))
  have R4 := Lib.hid (R (a + 1) 0 (by omega) (by omega))
  rw [bin_zero] at R4
  have hP : ((bin a b : Nat) : Int) + ((bin a (b + 1) : Nat) : Int) = ((bin (a + 1) (b + 1) : Nat) : Int) := by
    show _ = ((bin a b + bin a (b + 1) : Nat) : Int); omega
  have l1 := bin_digs (k := b) (show a ≤ 2000 by omega)
  have l2 := bin_digs (k := b + 1) (show a ≤ 2000 by omega)
  have l3 := bin_digs (k := b + 1) (show a + 1 ≤ 2000 by omega)
  have m1 := ds_len_of _ _ l1
  have m2 := ds_len_of _ _ l2
  obtain ⟨n1, hn1⟩ : ∃ n1, a + 1 = n1 := ⟨_, rfl⟩
  obtain ⟨k1, hk1⟩ : ∃ k1, b + 1 = k1 := ⟨_, rfl⟩
  rw [hn1] at e4 e6 R3 R4 hP l3
  rw [hk1] at e5 e7 R2 R3 hP l2 l3 m2
  have HL := Lib.hid (show (digs ((bin a b : Nat) : Int).natAbs).length ≤ 32 ∧ (digs ((bin a k1 : Nat) : Int).natAbs).length ≤ 32 ∧ (digs ((bin n1 k1 : Nat) : Int).natAbs).length ≤ 32 ∧ (ds ((bin a b : Nat) : Int).natAbs).length ≤ 4 * 32 ∧ (ds ((bin a k1 : Nat) : Int).natAbs).length ≤ 4 * 32 from ⟨l1, l2, l3, m1, m2⟩)
  have HN := Lib.hid (show (0 : Int) ≤ ((bin a b : Nat) : Int) ∧ (0 : Int) ≤ ((bin a k1 : Nat) : Int) from ⟨by omega, by omega⟩)
  have HP := Lib.hid hP
  generalize ((bin a b : Nat) : Int) = P1 at *
  generalize ((bin a k1 : Nat) : Int) = P2 at *
  generalize ((bin n1 k1 : Nat) : Int) = P3 at *
  have HS1 := Lib.hid (fun w' => small_sp 1 w' (by omega))
  clear R hP l1 l2 l3 m1 m2 hT hO hn hn2 hk hk2 ha2 hb2 hn1 hk1
  go_enter Tryz.func6, Tryz.ntmps6
  go_wp2_with fail
  refine (R1.out w (Upd.refl _ _)).mono ?_
  rintro e w1 ⟨v1, rfl, h1, u1⟩
  go_wp2_with fail
  refine (in_sp v1 _ P1 w1 (h1.raw (by have := HL.out.1; omega)) (by have := HL.out.1; omega)).mono ?_
  rintro e w2 ⟨v2, rfl, h2, u2⟩
  have U2 := Lib.hid (u1.trans u2)
  clear u1 u2 h1
  go_wp2_with fail
  refine (R2.out w2 U2.out).mono ?_
  rintro e w3 ⟨v3, rfl, h3, u3⟩
  go_wp2_with fail
  refine (in_sp v3 _ P2 w3 (h3.raw (by have := HL.out.2.1; omega)) (by have := HL.out.2.1; omega)).mono ?_
  rintro e w4 ⟨v4, rfl, h4, u4⟩
  go_wp2_with fail
  refine (plus_sp v2 v4 P1 P2 w4 (h2.upd (u3.trans u4)) h4 HN.out.1 HN.out.2 (by have := HL.out.2.2.2.1; omega) (by have := HL.out.2.2.2.2; omega)).mono ?_
  rintro e w5 ⟨v5, rfl, h5, u5⟩
  rw [HP.out] at h5
  obtain ⟨A5, c5, rfl, s1, s2⟩ := h5
  obtain ⟨m5, hm5⟩ : ∃ m5, (ds P3.natAbs).length = m5 := ⟨_, rfl⟩
  obtain ⟨d5, hd5⟩ : ∃ d5, decide (P3 < 0) = d5 := ⟨_, rfl⟩
  rw [hm5] at s1 s2 ⊢
  rw [hd5]
  have H5 := Lib.hid (And.intro (And.intro hm5 hd5) (And.intro (And.intro s1 s2) (U2.out.trans ((u3.trans u4).trans u5))))
  clear h2 h3 h4 u3 u4 u5 U2 hm5 hd5 s1 s2
  go_wp2_with fail
  have h1 := heap_alloc_new w5 (.cells #[.bool d5, .slice A5 m5 c5] 27)
  have uA : Upd NoF w5 (w5.alloc (.cells #[.bool d5, .slice A5 m5 c5] 27)) := (Upd.refl NoF w5).alloc _
  have k1 : CellT 27 (w5.alloc (.cells #[.bool d5, .slice A5 m5 c5] 27)) w5.heap.size 0 (.bool d5) := ⟨_, h1, by simp⟩
  have k2 : CellT 27 (w5.alloc (.cells #[.bool d5, .slice A5 m5 c5] 27)) w5.heap.size 1 (.slice A5 m5 c5) := ⟨_, h1, by simp⟩
  obtain ⟨w6, hw6⟩ : ∃ w6, w5.alloc (.cells #[.bool d5, .slice A5 m5 c5] 27) = w6 := ⟨_, rfl⟩
  rw [hw6] at uA k1 k2 ⊢
  obtain ⟨g, hg⟩ : ∃ g, w5.heap.size = g := ⟨_, rfl⟩
  rw [hg] at k1 k2 ⊢
  have HS := Lib.hid (fun (w' : World) (u : Upd NoF w6 w') => (And.intro (k1.upd u (fun h => h)).cell (k2.upd u (fun h => h)).cell : w'.cell? ⟨g, 0, none⟩ = some (.bool d5) ∧ w'.cell? ⟨g, 1, none⟩ = some (.slice A5 m5 c5)))
  have h6 : SpI w6 (.agg #[.bool d5, .slice A5 m5 c5]) P3 := by
    refine ⟨A5, c5, by rw [H5.out.1.1, H5.out.1.2], by rw [H5.out.1.1]; exact H5.out.2.1.1, ?_⟩
    rw [H5.out.1.1]
    have := H5.out.2.1.2
    exact C_upd this uA
  have U6 := Lib.hid (H5.out.2.2.trans uA)
  have H6 := Lib.hid h6
  have K3 := Lib.hid (fun (w' : World) (u : Upd NoF w6 w') => R3.out w' (U6.out.trans u))
  have K4 := Lib.hid (fun (w' : World) (u : Upd NoF w6 w') => R4.out w' (U6.out.trans u))
  have KI := Lib.hid (fun (v : Value) (wa w' : World) (h : NumI wa v P3) (u1 : Upd NoF wa w') (u : Upd NoF w6 w') => is_sp v _ P3 w' (h.upd u1) (h6.upd u) (by have := HL.out.2.2.1; omega))
  have KN := Lib.hid (fun (v v2 : Value) (wa wb : World) (h : NumI wa v ((1 : Nat) : Int)) (h2 : SpN wb v2 1) (u : Upd NoF wa wb) => isnat_sp v v2 1 wb (h.upd u) h2 (by have : (digs 1).length ≤ 1 := digs_len_of_lt (by rw [Nat.pow_one]; exact B64_one); omega))
  clear h1 uA k1 k2 hw6 hg h6 R1 R2 R3 R4 H5 HN HP
  refine wp_region_held_drew (S := (fun w' => w'.cell? ⟨g, 0, none⟩ = some (.bool d5) ∧ w'.cell? ⟨g, 1, none⟩ = some (.slice A5 m5 c5))) (by kernel_rfl) (by exact HS.out _ (by (repeat (first | exact Upd.refl _ _ | assumption | refine Upd.alloc ?_ _ | refine Upd.drew ?_ | refine Upd.drewN ?_ _ | refine Upd.trans ?_ (by assumption))))) (fun hHeld => ?_)
  refine wpAnyH_take (i := 0) (v := ?_) rfl (by kernel_rfl) (by kernel_rfl) (by kernel_rfl) (fun _ _ _ h => h) (Or.inl ⟨by rfl, ?_⟩) (by assumption) ?_
  rotate_left
  · (intro w' hSw; (try dsimp only at hSw); go_simp; try with_reducible rfl)
  simp only [Act.put, List.setIfInBounds_toArray, List.set_cons_zero, List.set_cons_succ]
  refine wpAnyH_take (i := 1) (v := ?_) rfl (by kernel_rfl) (by kernel_rfl) (by kernel_rfl) (fun _ _ _ h => h) (Or.inl ⟨by rfl, ?_⟩) (by assumption) ?_
  rotate_left
  · (intro w' hSw; (try dsimp only at hSw); go_simp; try with_reducible rfl)
  simp only [Act.put, List.setIfInBounds_toArray, List.set_cons_zero, List.set_cons_succ]
  refine wpAnyH_take (i := 3) (v := ?_) rfl (by kernel_rfl) (by kernel_rfl) (by kernel_rfl) (fun _ _ _ h => h) (Or.inl ⟨by rfl, ?_⟩) (by assumption) ?_
  rotate_left
  · (intro w' hSw; (try dsimp only at hSw); go_simp; try with_reducible rfl)
  simp only [Act.put, List.setIfInBounds_toArray, List.set_cons_zero, List.set_cons_succ]
  refine wpAnyH_ready (rs := [2]) (by kernel_rfl) (by simp) ?_
  refine AllReadyH.cons rfl (fun K hK => ?_) AllReadyH.nil
  go_simp
  refine (K3.out _ (by (repeat (first | exact Upd.refl _ _ | assumption | refine Upd.alloc ?_ _ | refine Upd.drew ?_ | refine Upd.drewN ?_ _ | refine Upd.trans ?_ (by assumption))))).mono ?_
  rintro e w7 ⟨v7, rfl, h7, u7⟩
  go_wp2_with fail
  refine hK.out _ _ ?_ (fun hHeld => ?_)
  case' refine_1 => (try dsimp only); exact HS.out _ (by (repeat (first | exact Upd.refl _ _ | assumption | refine Upd.alloc ?_ _ | refine Upd.drew ?_ | refine Upd.drewN ?_ _ | refine Upd.trans ?_ (by assumption))))
  clear hK K
  (try simp only [Act.put, List.setIfInBounds_toArray, List.set_cons_zero, List.set_cons_succ])
  refine wpAnyH_ready (rs := [4]) (by kernel_rfl) (by simp) ?_
  refine AllReadyH.cons rfl (fun K hK => ?_) AllReadyH.nil
  go_simp
  refine (KI.out v7 w7 w7 h7 (Upd.refl _ _) (by (repeat (first | exact Upd.refl _ _ | assumption | refine Upd.alloc ?_ _ | refine Upd.drew ?_ | refine Upd.drewN ?_ _ | refine Upd.trans ?_ (by assumption))))).mono ?_
  rintro e w8 ⟨rfl, u8⟩
  go_wp2_with fail
  refine hK.out _ _ ?_ (fun hHeld => ?_)
  case' refine_1 => (try dsimp only); exact HS.out _ (by (repeat (first | exact Upd.refl _ _ | assumption | refine Upd.alloc ?_ _ | refine Upd.drew ?_ | refine Upd.drewN ?_ _ | refine Upd.trans ?_ (by assumption))))
  clear hK K
  (try simp only [Act.put, List.setIfInBounds_toArray, List.set_cons_zero, List.set_cons_succ])
  refine wpAnyH_take (i := 5) (v := ?_) rfl (by kernel_rfl) (by kernel_rfl) (by kernel_rfl) (fun _ _ _ h => h) (Or.inl ⟨by rfl, ?_⟩) (by assumption) ?_
  rotate_left
  · (intro w' hSw; (try dsimp only at hSw); go_simp; try with_reducible rfl)
  simp only [Act.put, List.setIfInBounds_toArray, List.set_cons_zero, List.set_cons_succ]
  refine wpAnyH_take (i := 6) (v := ?_) rfl (by kernel_rfl) (by kernel_rfl) (by kernel_rfl) (fun _ _ _ h => h) (Or.inl ⟨by rfl, ?_⟩) (by assumption) ?_
  rotate_left
  · (intro w' hSw; (try dsimp only at hSw); go_simp; try with_reducible rfl)
  simp only [Act.put, List.setIfInBounds_toArray, List.set_cons_zero, List.set_cons_succ]
  refine wpAnyH_ready (rs := [7]) (by kernel_rfl) (by simp) ?_
  refine AllReadyH.cons rfl (fun K hK => ?_) AllReadyH.nil
  go_simp
  refine (K4.out _ (by (repeat (first | exact Upd.refl _ _ | assumption | refine Upd.alloc ?_ _ | refine Upd.drew ?_ | refine Upd.drewN ?_ _ | refine Upd.trans ?_ (by assumption))))).mono ?_
  rintro e w9 ⟨v9, rfl, h9, u9⟩
  go_wp2_with fail
  refine hK.out _ _ ?_ (fun hHeld => ?_)
  case' refine_1 => (try dsimp only); exact HS.out _ (by (repeat (first | exact Upd.refl _ _ | assumption | refine Upd.alloc ?_ _ | refine Upd.drew ?_ | refine Upd.drewN ?_ _ | refine Upd.trans ?_ (by assumption))))
  clear hK K
  (try simp only [Act.put, List.setIfInBounds_toArray, List.set_cons_zero, List.set_cons_succ])
  refine wpAnyH_ready (rs := [8]) (by kernel_rfl) (by simp) ?_
  refine AllReadyH.cons rfl (fun K hK => ?_) AllReadyH.nil
  go_simp
  refine (HS1.out w9).mono ?_
  rintro e wa ⟨va, rfl, ha, ua⟩
  go_wp2_with fail
  refine hK.out _ _ ?_ (fun hHeld => ?_)
  case' refine_1 => (try dsimp only); exact HS.out _ (by (repeat (first | exact Upd.refl _ _ | assumption | refine Upd.alloc ?_ _ | refine Upd.drew ?_ | refine Upd.drewN ?_ _ | refine Upd.trans ?_ (by assumption))))
  clear hK K
  (try simp only [Act.put, List.setIfInBounds_toArray, List.set_cons_zero, List.set_cons_succ])
  refine wpAnyH_ready (rs := [9]) (by kernel_rfl) (by simp) ?_
  refine AllReadyH.cons rfl (fun K hK => ?_) AllReadyH.nil
  go_simp
  refine (KN.out v9 va w9 wa h9 ha ua).mono ?_
  rintro e wb ⟨rfl, ub⟩
  go_wp2_with fail
  refine hK.out _ _ ?_ (fun hHeld => ?_)
  case' refine_1 => (try dsimp only); exact HS.out _ (by (repeat (first | exact Upd.refl _ _ | assumption | refine Upd.alloc ?_ _ | refine Upd.drew ?_ | refine Upd.drewN ?_ _ | refine Upd.trans ?_ (by assumption))))
  clear hK K
  (try simp only [Act.put, List.setIfInBounds_toArray, List.set_cons_zero, List.set_cons_succ])
  refine wpAnyH_take (i := 10) (v := ?_) rfl (by kernel_rfl) (by kernel_rfl) (by kernel_rfl) (fun _ _ _ h => h) (Or.inl ⟨by rfl, ?_⟩) (by assumption) ?_
  rotate_left
  · (intro w' hSw; (try dsimp only at hSw); go_simp; try with_reducible rfl)
  simp only [Act.put, List.setIfInBounds_toArray, List.set_cons_zero, List.set_cons_succ]
  refine wpAnyH_ready (rs := [11]) (by kernel_rfl) (by simp) ?_
  refine AllReadyH.cons rfl (fun K hK => ?_) AllReadyH.nil
  go_simp
  refine hK.out _ _ ?_ (fun hHeld => ?_)
  case' refine_1 => (try dsimp only); exact HS.out _ (by (repeat (first | exact Upd.refl _ _ | assumption | refine Upd.alloc ?_ _ | refine Upd.drew ?_ | refine Upd.drewN ?_ _ | refine Upd.trans ?_ (by assumption))))
  clear hK K
  (try simp only [Act.put, List.setIfInBounds_toArray, List.set_cons_zero, List.set_cons_succ])
  refine wpAnyH_done (by kernel_rfl) ?_ _
  go_wp2_with fail
  go_ret
  exact ⟨rfl, U6.out.trans ((Upd.refl NoF w6).drew.trans ((((u7.trans u8).trans u9).trans ua).trans ub))⟩
set_option maxRecDepth 1000000 in
set_option maxHeartbeats 3200000 in
theorem FnBinomial_any (T : Int) (n k : Int) (w : World) (hT : Thr w T) (hO : OneI w) (hn : 0 ≤ n) (hn2 : n ≤ 65535) (hk : 0 ≤ k) (hk2 : k ≤ 65535) :
    Calls Tryz.prog 5 #[.int .u16 n, .int .u16 k] w fun e w' => e = .returned (.bool true) ∧ Upd NoF w w' := by
  obtain ⟨a, ha⟩ : ∃ a : Nat, Int.tmod n 401 = (a : Int) := ⟨(n % 401).toNat, by rw [Int.tmod_eq_emod_of_nonneg hn]; omega⟩
  obtain ⟨b, hb⟩ : ∃ b : Nat, Int.tmod k 410 = (b : Int) := ⟨(k % 410).toNat, by rw [Int.tmod_eq_emod_of_nonneg hk]; omega⟩
  have ha2 : a < 401 := by rw [Int.tmod_eq_emod_of_nonneg hn] at ha; omega
  have hb2 : b < 410 := by rw [Int.tmod_eq_emod_of_nonneg hk] at hb; omega
  have e0 : IntKind.i64.wrap n = n := by rw [IntKind.wrap_i64]; omega
  have e1 : IntKind.i64.wrap k = k := by rw [IntKind.wrap_i64]; omega
  have e2 : IntKind.i64.wrap (a : Int) = (a : Int) := by rw [IntKind.wrap_i64]; omega
  have e3 : IntKind.i64.wrap (b : Int) = (b : Int) := by rw [IntKind.wrap_i64]; omega
  have R1 := Lib.hid (fun (w' : World) (u : Upd NoF w w') => implBinom_any T a b w' (hT.upd u (fun _ h => h)) (hO.upd u) (by omega) (by omega))
  have HL : Hid ((digs (bin a b)).length ≤ 1048576) := Nat.le_trans (bin_digs (show a ≤ 2000 by omega)) (by omega)
  have HD : Hid (∀ i, (digs (bin a i)).length ≤ 32) := fun i => bin_digs (show a ≤ 2000 by omega)
  have KN := Lib.hid (fun (v v2 : Value) (wa wb : World) (h : NumI wa v ((bin a b : Nat) : Int)) (h2 : SpN wb v2 (bin a b)) (u : Upd NoF wa wb) => isnat_sp v v2 (bin a b) wb (h.upd u) h2 HL.out)
  have HS1 := Lib.hid (fun w' => small_sp 1 w' (by omega))
  clear hT hO hn hn2 hk hk2 HL
  go_enter Tryz.func5, Tryz.ntmps5
  go_wp2_with fail
  refine (HS1.out w).mono ?_
  rintro e w1 ⟨v1, rfl, h1, u1⟩
  have H1 := Lib.hid (And.intro h1 u1)
  clear h1 u1
  go_wp2_with fail
  go_loopw [7, 17] (fun rv iv wr => ∃ (i : Nat) (v : Value), v = rv ∧ iv = .int .i64 (i : Int) ∧ Hid (i ≤ b ∧ i ≤ a ∧ SpN wr v (bin a i) ∧ Upd NoF w wr)) (fun _ iv _ => b - (intOf iv).toNat)
  case atStart => exact ⟨0, _, rfl, rfl, Nat.zero_le _, Nat.zero_le _, by rw [bin_zero]; exact H1.out.1, H1.out.2⟩
  case round =>
    obtain ⟨i, v, rfl, rfl, HR⟩ := hrel
    by_cases h1 : i < b
    · have p1 : (i : Int) < (b : Int) := by omega
      by_cases h2 : i < a
      · have p2 : ¬ (a : Int) ≤ (i : Int) := by omega
        have q1 : IntKind.i64.wrap ((a : Int) - (i : Int)) = ((a - i : Nat) : Int) := by rw [IntKind.wrap_i64]; omega
        have q2 : IntKind.i64.wrap ((i : Int) + 1) = ((i + 1 : Nat) : Int) := by rw [IntKind.wrap_i64]; omega
        have S1 := Lib.hid (fun w' => small_sp (a - i) w' (by omega))
        have S2 := Lib.hid (fun w' => small_sp (i + 1) w' (by omega))
        have HB : Hid (i < b ∧ i < a ∧ a < 401) := ⟨h1, h2, ha2⟩
        clear h1 h2
        go_wp2_with fail
        refine (S1.out wr).mono ?_
        rintro e w2 ⟨v2, rfl, h2, u2⟩
        go_wp2_with fail
        refine (mul_sp v v2 (bin a i) (a - i) w2 (HR.out.2.2.1.upd u2) h2 ?_).mono ?_
        case refine_1 =>
          have m1 := ds_len_of _ _ (HD.out i)
          have m2 := ds_len4 (a - i)
          have m3 : (digs (a - i)).length ≤ 1 := digs_len_of_lt (by rw [Nat.pow_one, B64_eq]; have := HB.out; omega)
          omega
        rintro e w3 ⟨v3, rfl, h3, u3⟩
        rw [← bin_step] at h3
        have H3 := Lib.hid (And.intro h3 (HR.out.2.2.2.trans (u2.trans u3)))
        clear h2 h3 u2 u3
        go_wp2_with fail
        refine (S2.out w3).mono ?_
        rintro e w4 ⟨v4, rfl, h4, u4⟩
        go_wp2_with fail
        refine (divone_sp v3 v4 (bin a (i + 1) * (i + 1)) (i + 1) w4 (H3.out.1.upd u4) h4 (by omega) (by have := HB.out; omega) ?_).mono ?_
        case refine_1 =>
          have m1 : (digs (bin a (i + 1) * (i + 1))).length ≤ 33 := by
            refine digs_len_of_lt ?_
            rw [Nat.pow_succ]
            have h4 := lt_of_digs_len (bin a (i + 1))
            exact Nat.mul_lt_mul'' (Nat.lt_of_lt_of_le h4 (Nat.pow_le_pow_right B64_pos (HD.out (i + 1)))) (by rw [B64_eq]; have := HB.out; omega)
          have m2 := ds_len4 (bin a (i + 1) * (i + 1))
          omega
        rintro e w5 ⟨v5, v6, rfl, h5, h6, u5⟩
        rw [Nat.mul_div_cancel _ (by omega)] at h5
        have H5 : Hid (i + 1 ≤ b ∧ i + 1 ≤ a ∧ SpN w5 v5 (bin a (i + 1)) ∧ Upd NoF w w5) := ⟨by have := HB.out; omega, by have := HB.out; omega, h5, H3.out.2.trans (u4.trans u5)⟩
        clear h4 h5 h6 u4 u5
        go_wp2_with fail
        go_roundw
        case rel => exact ⟨i + 1, _, rfl, rfl, H5⟩
        case measure => have := HB.out; simp [intOf]; omega
      · have p2 : (a : Int) ≤ (i : Int) := by omega
        have hz : bin a b = 0 := bin_out a b (by have := HR.out.2.1; omega)
        rw [hz] at KN R1
        have HU := Lib.hid HR.out.2.2.2
        clear h1 h2 hz
        go_wp2_with fail
        refine (R1.out wr HU.out).mono ?_
        rintro e w2 ⟨v2, rfl, h2, u2⟩
        go_wp2_with fail
        refine (KN.out v2 _ w2 w2 h2 (SpN.zero w2) (Upd.refl _ _)).mono ?_
        rintro e w3 ⟨rfl, u3⟩
        have HF := Lib.hid (HU.out.trans (u2.trans u3))
        clear h2 u2 u3
        go_wp2_with fail
        go_ret
        exact ⟨rfl, HF.out⟩
    · have p1 : ¬ (i : Int) < (b : Int) := by omega
      have e5 : i = b := by have := HR.out.1; omega
      have HQ : Hid (SpN wr v (bin a b) ∧ Upd NoF w wr) := by subst e5; exact ⟨HR.out.2.2.1, HR.out.2.2.2⟩
      clear h1 e5
      go_wp2_with fail
      refine (R1.out wr HQ.out.2).mono ?_
      rintro e w2 ⟨v2, rfl, h2, u2⟩
      go_wp2_with fail
      refine (KN.out v2 v w2 w2 h2 (HQ.out.1.upd u2) (Upd.refl _ _)).mono ?_
      rintro e w3 ⟨rfl, u3⟩
      have HF := Lib.hid (HQ.out.2.trans (u2.trans u3))
      clear h2 u2 u3
      go_wp2_with fail
      go_ret
      exact ⟨rfl, HF.out⟩
end Go.Proofs.YtefeijofhocnpaaGreatDoor
