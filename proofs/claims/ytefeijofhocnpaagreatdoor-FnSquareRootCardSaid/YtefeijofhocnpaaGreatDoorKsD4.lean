/- For the claim of laws.FnSquareRoot: Binom. -/
import Derived.Test.YtefeijofhocnpaaGreatDoorKsD3
import Derived.Test.YtefeijofhocnpaaGreatDoorKsB5
set_option linter.unusedVariables false
set_option linter.unusedSimpArgs false
namespace Go.Proofs.YtefeijofhocnpaaGreatDoor
open Go.RowKit
def OneI (w : World) : Prop := ∃ (ob oo : Nat) (lo : Loc), CellT 76 w 0 0 (.pointer (some ⟨ob, oo, none⟩)) ∧ IntVo w ob oo lo 1
theorem OneI.upd {w w' : World} (h : OneI w) (u : Upd NoF w w') : OneI w' := let ⟨ob, oo, lo, h1, h2⟩ := h; ⟨ob, oo, lo, h1.upd u (fun h => h), h2.upd u (fun _ h => h) (fun _ _ h => h)⟩
theorem digs_one_of {n : Nat} (h0 : n ≠ 0) (h : n < B64) : (digs n).length = 1 := by
  have h1 : (digs n).length ≤ 1 := digs_len_of_lt (by rw [Nat.pow_one]; exact h)
  have h2 := mt (digs_len_eq_zero (n := n)).1 h0
  omega
set_option exponentiation.threshold 4096 in
theorem bin_digs {n k : Nat} (h : n ≤ 2000) : (digs (bin n k)).length ≤ 32 := by
  refine digs_len_of_lt (Nat.lt_of_le_of_lt (bin_le n k) ?_)
  rw [show B64 = 2 ^ 64 from rfl, ← Nat.pow_mul]
  exact Nat.pow_lt_pow_right (by omega) (by omega)
theorem G_small {k : Nat} (h : k ≤ 10000) : G k ≤ 1099511627776 := Nat.le_trans (G_mono h) (by decide)
theorem bin_round (n i : Nat) (h : i < n) : ((bin n i : Nat) : Int) * ((n : Int) - (i : Int)) = (((bin n (i + 1)) * (i + 1) : Nat) : Int) ∧ (((bin n (i + 1)) * (i + 1) : Nat) : Int).tdiv ((i : Int) + 1) = ((bin n (i + 1) : Nat) : Int) := by
  constructor
  · rw [bin_step, Int.natCast_mul]
    congr 1
    omega
  · rw [show (i : Int) + 1 = ((i + 1 : Nat) : Int) by omega, Int.natCast_mul]
    exact Int.mul_tdiv_cancel _ (by omega)
theorem new4 (w : World) : Upd NoF w ((((w.alloc (.cells #[.bool false, .slice none 0 0] 80)).alloc (.cells #[.bool false, .slice none 0 0] 80)).alloc (.cells #[.bool false, .slice none 0 0] 80)).alloc (.cells #[.bool false, .slice none 0 0] 80)) :=
  ((((Upd.refl NoF w).alloc _).alloc _).alloc _).alloc _
theorem Ints.new {w0 w : World} {L : List (Nat × Loc × Int)} (h : Ints w0 w L) : Ints w0 (w.alloc (.cells #[.bool false, .slice none 0 0] 80)) ((w.heap.size, nilL, 0) :: L) := by
  have hD := intBox w _ (Upd.refl NoF _)
  refine h.cons ((Upd.refl NoF w).alloc _) ⟨?_, ?_, ?_⟩ (Nat.le_refl _) (Or.inl rfl)
  · exact hD.neg
  · have := hD.abs
    show CellT _ _ _ _ (.slice nilL.A (digs 0).length nilL.c)
    rw [digs_zero]; exact this
  · exact NatV.zero (nilL_ok _)
theorem size_alloc (w : World) (o : Obj) : (w.alloc o).heap.size = w.heap.size + 1 := by simp
theorem Ints.new4 {w0 w : World} {L : List (Nat × Loc × Int)} (h : Ints w0 w L) : Ints w0 ((((w.alloc (.cells #[.bool false, .slice none 0 0] 80)).alloc (.cells #[.bool false, .slice none 0 0] 80)).alloc (.cells #[.bool false, .slice none 0 0] 80)).alloc (.cells #[.bool false, .slice none 0 0] 80))
    ((w.heap.size + 3, nilL, 0) :: (w.heap.size + 2, nilL, 0) :: (w.heap.size + 1, nilL, 0) :: (w.heap.size, nilL, 0) :: L) := by
  have h4 := h.new.new.new.new
  simp only [size_alloc] at h4
  exact h4
theorem OneI.sub {w0 w : World} {L : List (Nat × Loc × Int)} (h : OneI w0) (hI : Ints w0 w L) : ∃ (ob oo : Nat) (lo : Loc), w.cell? ⟨0, 0, none⟩ = some (.pointer (some ⟨ob, oo, none⟩)) ∧ IntVo w0 ob oo lo 1 := by
  obtain ⟨ob, oo, lo, h1, h2⟩ := h
  exact ⟨ob, oo, lo, (h1.upd hI.up (fun h => h)).cell, h2⟩
set_option maxRecDepth 1000000 in
set_option maxHeartbeats 1600000 in
theorem Binomial_o (T : Int) (w0 w : World) (zb n k : Nat) (z : Loc) (Z : Int) (L : List (Nat × Loc × Int)) (hI : Ints w0 w ((zb, z, Z) :: L)) (hT : Thr w0 T) (hO : OneI w0) (hn : n ≤ 2000) (hk : k ≤ n) :
    Calls Tryz.prog 54 #[.pointer (some ⟨zb, 0, none⟩), .int .i64 (n : Int), .int .i64 (k : Int)] w fun e w' => e = .returned (.pointer (some ⟨zb, 0, none⟩)) ∧ ∃ r : Loc, Ints w0 w' ((zb, r, ((bin n k : Nat) : Int)) :: L) := by
  have p1 : ¬ (n : Int) < (k : Int) := by omega
  have p2 : decide (n < k) = false := decide_eq_false (by omega)
  have p3 : ¬ (k : Int) < 0 := by omega
  have p4 : IntKind.i64.wrap ((n : Int) - (k : Int)) = ((n - k : Nat) : Int) := by rw [IntKind.wrap_i64]; omega
  have HI := Lib.hid hI
  go_enter Tryz.func54, Tryz.ntmps54
  go_upto_if 24 with fail
  go_cut [2] from 20 to 46 (fun s2 wx => (∃ k2 : Nat, s2 = .int .i64 (k2 : Int) ∧ Hid (k2 ≤ n ∧ bin n k2 = bin n k)) ∧ wx = w)
  case first =>
    have p5 := Lib.hid (bin_sym n k hk)
    by_cases h : n - k < k
    · have p6 : ((n - k : Nat) : Int) < (k : Int) := by omega
      go_wp2_with fail
      go_meet
      case rel => exact ⟨⟨n - k, rfl, by omega, p5.out⟩, rfl⟩
    · have p6 : ¬ ((n - k : Nat) : Int) < (k : Int) := by omega
      go_wp2_with fail
      go_meet
      case rel => exact ⟨⟨k, rfl, hk, rfl⟩, rfl⟩
  case rest =>
    obtain ⟨⟨k2, rfl, hk2⟩, hwx⟩ := hcut
    cases hwx.symm
    clear p1 p2 p3 p4
    go_wp2_with fail
    have h4 := HI.out.new4
    obtain ⟨g, hg⟩ : ∃ g, w.heap.size = g := ⟨_, rfl⟩
    obtain ⟨w4, hw4⟩ : ∃ w4, ((((w.alloc (.cells #[.bool false, .slice none 0 0] 80)).alloc (.cells #[.bool false, .slice none 0 0] 80)).alloc (.cells #[.bool false, .slice none 0 0] 80)).alloc (.cells #[.bool false, .slice none 0 0] 80)) = w4 := ⟨_, rfl⟩
    rw [hg, hw4] at h4
    rw [hg, hw4]
    have H4 := Lib.hid h4
    clear hg hw4 h4 HI hI
    refine (SetInt64_o g n nilL 0 w4 (H4.out.at_ 3 _ _ _ rfl) (by omega)).mono ?_
    rintro e w5 ⟨rfl, ho⟩
    obtain ⟨lN, h5⟩ := H4.out.out (i := 3) rfl ho
    have H5 : Hid (Ints w0 w5 ((g + 3, nilL, 0) :: (g + 2, nilL, 0) :: (g + 1, nilL, 0) :: (g, lN, (n : Int)) :: (zb, z, Z) :: L)) := h5
    clear ho h5 H4
    go_wp2_with fail
    refine (SetInt64_o (g + 1) k2 nilL 0 w5 (H5.out.at_ 2 _ _ _ rfl) (by have := hk2.out.1; omega)).mono ?_
    rintro e w6 ⟨rfl, ho⟩
    obtain ⟨lK, h6⟩ := H5.out.out (i := 2) rfl ho
    have H6 : Hid (Ints w0 w6 ((g + 3, nilL, 0) :: (g + 2, nilL, 0) :: (g + 1, lK, (k2 : Int)) :: (g, lN, (n : Int)) :: (zb, z, Z) :: L)) := h6
    clear ho h6 H5
    obtain ⟨ob, oo, lo, hO1, hO2⟩ := hO
    have c1 := (hO1.upd H6.out.up (fun h => h)).cell
    have HO := Lib.hid (And.intro hO1 (And.intro hO2 hT))
    clear hO1 hO2 hT
    go_wp2_with fail
    have hfar := H6.out.farR (i := 4) rfl HO.out.2.1
    refine (Set_oR zb ob oo z lo Z 1 w6 (H6.out.at_ 4 _ _ _ rfl) (H6.out.oldR HO.out.2.1) hfar.1 hfar.2 (by have := digs_one_of (n := (1 : Int).natAbs) (by decide) (by decide); omega)).mono ?_
    rintro e w7 ⟨rfl, ho⟩
    obtain ⟨lz, h7⟩ := H6.out.out (i := 4) rfl ho
    have H7 : Hid (Ints w0 w7 ((g + 3, nilL, 0) :: (g + 2, nilL, 0) :: (g + 1, lK, (k2 : Int)) :: (g, lN, (n : Int)) :: (zb, lz, 1) :: L)) := h7
    clear ho h7 H6 c1
    go_wp2_with fail
    go_loopw [36] (fun _ wr => ∃ (i : Nat) (lt li lz : Loc) (Tv : Int), Hid (i ≤ k2 ∧ Ints w0 wr ((g + 3, lt, Tv) :: (g + 2, li, (i : Int)) :: (g + 1, lK, (k2 : Int)) :: (g, lN, (n : Int)) :: (zb, lz, ((bin n i : Nat) : Int)) :: L)))
      (fun _ wr => (k2 - (intAt wr (g + 2)).toNat))
    case atStart => exact ⟨0, nilL, nilL, lz, 0, Nat.zero_le _, by rw [bin_zero]; exact H7.out⟩
    case round =>
      obtain ⟨i, lt, li, lz, Tv, HR⟩ := hrel
      have hC := Lib.hid (Cmp_o (g + 2) (g + 1) li lK (i : Int) (k2 : Int) wr (HR.out.2.at_ 1 _ _ _ rfl) (HR.out.2.at_ 2 _ _ _ rfl) (by omega) (by have h : (digs i).length ≤ 1 := digs_len_of_lt (by rw [Nat.pow_one, B64_eq]; have := HR.out.1; have := hk2.out.1; omega); exact Nat.le_trans h (by omega)))
      have HW := Lib.hid (HR.out.2.at_ 1 _ _ _ rfl).val
      by_cases hik : i < k2
      · have e1 : cmpI (i : Int) (k2 : Int) = -1 := if_pos (by omega)
        rw [e1] at hC
        clear e1
        go_wp2_with fail
        refine hC.out.mono ?_
        rintro e w1 ⟨rfl, hw⟩
        have u1 := hw.upd
        have H1 := Lib.hid (HR.out.2.upd u1)
        clear hw hC u1
        go_wp2_with fail
        have hin : Hid (i < k2 ∧ k2 ≤ n ∧ n ≤ 2000) := ⟨hik, hk2.out.1, hn⟩
        clear hik
        refine (Sub_o (g + 3) g (g + 2) lt lN li Tv (n : Int) (i : Int) w1 (H1.out.at_ 0 _ _ _ rfl) (H1.out.at_ 3 _ _ _ rfl) (H1.out.at_ 1 _ _ _ rfl) (H1.out.rel (i := 0) (j := 3) rfl rfl) (H1.out.rel (i := 0) (j := 1) rfl rfl)
          (by have h : (digs n).length ≤ 1 := digs_len_of_lt (by rw [Nat.pow_one, B64_eq]; omega); exact Nat.le_trans (Nat.add_le_add_right h 1) (by omega)) (by have h : (digs i).length ≤ 1 := digs_len_of_lt (by rw [Nat.pow_one, B64_eq]; have := hin.out; omega); exact Nat.le_trans (Nat.add_le_add_right h 1) (by omega))).mono ?_
        rintro e w2 ⟨rfl, ho⟩
        obtain ⟨lt2, h2⟩ := H1.out.out (i := 0) rfl ho
        have H2 : Hid (Ints w0 w2 ((g + 3, lt2, (n : Int) - (i : Int)) :: (g + 2, li, (i : Int)) :: (g + 1, lK, (k2 : Int)) :: (g, lN, (n : Int)) :: (zb, lz, ((bin n i : Nat) : Int)) :: L)) := h2
        clear ho h2 H1 HR
        go_wp2_with fail
        refine (Mul_o T zb zb (g + 3) lz lz lt2 _ _ _ w2 (H2.out.at_ 4 _ _ _ rfl) (H2.out.at_ 4 _ _ _ rfl) (H2.out.at_ 0 _ _ _ rfl) (Or.inl rfl) (H2.out.rel (i := 4) (j := 0) rfl rfl) (H2.out.ap 4 0 _ _ _ _ _ _ (by omega) rfl rfl).1 (HO.out.2.2.upd H2.out.up (fun _ h => h)) ?_).mono ?_
        case refine_1 =>
          refine G_small ?_
          have h1 : (digs ((n : Int) - (i : Int)).natAbs).length ≤ 1 := digs_len_of_lt (by rw [Nat.pow_one, B64_eq]; have := hin.out; omega)
          have h2 : (digs ((bin n i : Nat) : Int).natAbs).length ≤ 32 := bin_digs hin.out.2.2
          omega
        rintro e w3 ⟨rfl, ho⟩
        obtain ⟨lz2, h3⟩ := H2.out.out (i := 4) rfl ho
        have hb := bin_round n i (by have := hin.out; omega)
        rw [hb.1] at h3
        have HB := Lib.hid hb.2
        have H3 : Hid (Ints w0 w3 ((g + 3, lt2, (n : Int) - (i : Int)) :: (g + 2, li, (i : Int)) :: (g + 1, lK, (k2 : Int)) :: (g, lN, (n : Int)) :: (zb, lz2, (((bin n (i + 1)) * (i + 1) : Nat) : Int)) :: L)) := h3
        have c1 := (HO.out.1.upd H3.out.up (fun h => h)).cell
        clear ho h3 H2 hb
        go_wp2_with fail
        refine (Add_oR (g + 2) (g + 2) ob oo li li lo (i : Int) (i : Int) 1 w3 (H3.out.at_ 1 _ _ _ rfl) (H3.out.at_ 1 _ _ _ rfl) (H3.out.oldR HO.out.2.1) (by have := digs_one_of (n := (1 : Int).natAbs) (by decide) (by decide); omega) (by omega) (by decide) (Or.inl rfl) (H3.out.relR (i := 1) rfl HO.out.2.1 (by decide))
          (by have h : (digs i).length ≤ 1 := digs_len_of_lt (by rw [Nat.pow_one, B64_eq]; have := hin.out; omega); exact Nat.le_trans (Nat.add_le_add_right h 1) (by omega)) (by have := digs_one_of (n := (1 : Int).natAbs) (by decide) (by decide); omega)).mono ?_
        rintro e w4 ⟨rfl, ho⟩
        obtain ⟨li2, h4⟩ := H3.out.out (i := 1) rfl ho
        have H4 : Hid (Ints w0 w4 ((g + 3, lt2, (n : Int) - (i : Int)) :: (g + 2, li2, (i : Int) + 1) :: (g + 1, lK, (k2 : Int)) :: (g, lN, (n : Int)) :: (zb, lz2, (((bin n (i + 1)) * (i + 1) : Nat) : Int)) :: L)) := h4
        clear ho h4 H3 c1
        go_wp2_with fail
        refine (Quo_o zb zb (g + 2) lz2 lz2 li2 _ _ _ w4 (H4.out.at_ 4 _ _ _ rfl) (H4.out.at_ 4 _ _ _ rfl) (H4.out.at_ 1 _ _ _ rfl) (Or.inl rfl) (H4.out.rel (i := 4) (j := 1) rfl rfl) ?_).mono ?_
        case refine_1 =>
          refine divAt_one ?_ (digs_one_of (by omega) (by rw [B64_eq]; have := hin.out; omega))
          have h2 : (digs ((bin n (i + 1) * (i + 1) : Nat) : Int).natAbs).length ≤ 33 := by
            refine digs_len_of_lt ?_
            show bin n (i + 1) * (i + 1) < _
            rw [Nat.pow_succ]
            have h3 := bin_digs (k := i + 1) hin.out.2.2
            have h4 := lt_of_digs_len (bin n (i + 1))
            exact Nat.mul_lt_mul'' (Nat.lt_of_lt_of_le h4 (Nat.pow_le_pow_right B64_pos h3)) (by rw [B64_eq]; have := hin.out; omega)
          omega
        rintro e w5 ⟨rfl, ho⟩
        obtain ⟨lz3, h5⟩ := H4.out.out (i := 4) rfl ho
        rw [HB.out] at h5
        have H5 : Hid (Ints w0 w5 ((g + 3, lt2, (n : Int) - (i : Int)) :: (g + 2, li2, ((i + 1 : Nat) : Int)) :: (g + 1, lK, (k2 : Int)) :: (g, lN, (n : Int)) :: (zb, lz3, ((bin n (i + 1) : Nat) : Int)) :: L)) := h5
        have hm : Hid ((k2 - (intAt w5 (g + 2)).toNat) < (k2 - (intAt wr (g + 2)).toNat)) := by
          have e1 := (H5.out.at_ 1 _ _ _ rfl).val
          show _ < _
          rw [e1, HW.out]
          have := hin.out
          omega
        clear ho h5 H4
        go_wp2_with fail
        go_roundw
        case rel => exact ⟨i + 1, lt2, li2, lz3, _, by have := hin.out; omega, H5.out⟩
        case measure => exact hm.out
      · have e2 : i = k2 := by have := HR.out.1; omega
        have e1 : cmpI (i : Int) (k2 : Int) = 0 := by subst e2; unfold cmpI; rw [if_neg (by omega), if_neg (by omega)]
        rw [e1] at hC
        have HF : Hid (bin n i = bin n k) := by rw [e2]; exact hk2.out.2
        clear e1 hik e2
        go_wp2_with fail
        refine hC.out.mono ?_
        rintro e w1 ⟨rfl, hw⟩
        have u1 := hw.upd
        have H1 := Lib.hid (HR.out.2.upd u1)
        clear hw hC u1
        go_wp2_with fail
        go_ret
        have h := H1.out.tail.tail.tail.tail
        rw [HF.out] at h
        exact ⟨rfl, lz, h⟩
end Go.Proofs.YtefeijofhocnpaaGreatDoor
