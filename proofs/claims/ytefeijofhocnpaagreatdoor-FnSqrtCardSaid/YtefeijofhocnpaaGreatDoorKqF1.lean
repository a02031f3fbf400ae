/- For the claim of laws.The greatest number whose square is at most x (FnSqrt).: BitLen, Lsh, SqrtM, Sqrt, ISqrt, Guard, Answer, ImplSqrt. -/
import Derived.Test.YtefeijofhocnpaaGreatDoorKqD1
import Derived.Test.YtefeijofhocnpaaGreatDoorKqA2
import Derived.Test.YtefeijofhocnpaaGreatDoorKqD6
import Derived.Test.YtefeijofhocnpaaGreatDoorKqA1
import Derived.Test.YtefeijofhocnpaaGreatDoorKqC1
import Derived.Test.YtefeijofhocnpaaGreatDoorKqD3
import Derived.Test.YtefeijofhocnpaaGreatDoorKqD4
import Derived.WalkLawsBesides
import Derived.Test.YtefeijofhocnpaaGreatDoorKqB2
import Derived.Recover
import Derived.Defers
import Derived.Test.YtefeijofhocnpaaGreatDoorKqB5
set_option linter.unusedVariables false
set_option linter.unusedSimpArgs false
namespace Go.Proofs.YtefeijofhocnpaaGreatDoor
open Go.RowKit
theorem Len_any (x : Nat) (w : World) (hx : x < B64) :
    Calls Tryz.prog 152 #[.int .u64 (x : Int)] w fun e w' => e = .returned (.int .i64 ((Lib.bitLen x : Nat) : Int)) ∧ w' = w := by
  have hx' : x < 18446744073709551616 := hx
  refine (Any.bits_Len Tryz.lays125 (x : Int) w (by omega) (by omega)).mono (fun e w' ⟨h1, h2⟩ => ⟨?_, h2⟩)
  rw [h1, Int.toNat_natCast]
theorem bitLen_bounds {x : Nat} (hx : x < B64) : x < 2 ^ Lib.bitLen x ∧ Lib.bitLen x ≤ 64 ∧ (2 ≤ x → 2 ≤ Lib.bitLen x) := by
  by_cases h0 : x = 0
  · subst h0
    exact ⟨by decide, by decide, fun h => by omega⟩
  · have h := Lib.bitLenAux_bounds 64 x hx h0
    have hL : Lib.bitLen x = Lib.bitLenAux 64 x := rfl
    rw [← hL] at h
    refine ⟨h.2.2, ?_, fun h2 => ?_⟩
    · rcases Nat.lt_or_ge 64 (Lib.bitLen x) with h1 | h1
      · exfalso
        have : 2 ^ 64 ≤ 2 ^ (Lib.bitLen x - 1) := Nat.pow_le_pow_right (by omega) (by omega)
        have h2 := h.2.1
        have h3 : x < 2 ^ 64 := hx
        omega
      · exact h1
    · rcases Nat.lt_or_ge (Lib.bitLen x) 2 with h1 | h1
      · have h3 := h.2.2
        have : 2 ^ Lib.bitLen x ≤ 2 ^ 1 := Nat.pow_le_pow_right (by omega) (by omega)
        omega
      · exact h1
theorem or_up (t u : Nat) (ht : t < B64) (hu : u ≤ t) : ∃ t' : Nat, bits .or .u64 (t : Int) (u : Int) = (t' : Int) ∧ t ≤ t' ∧ t' < B64 := by
  have ht' : t < 2 ^ 64 := ht
  have hu' : u < 2 ^ 64 := by omega
  refine ⟨t ||| u, ?_, Nat.left_le_or, Nat.or_lt_two_pow ht' hu'⟩
  have hlt := Nat.or_lt_two_pow ht' hu'
  show IntKind.u64.wrap ((BitVec.ofInt 64 (t : Int) ||| BitVec.ofInt 64 (u : Int)).toNat : Int) = _
  have h2 : ∀ x : Nat, x < 2 ^ 64 → (BitVec.ofInt 64 (x : Int)).toNat = x := fun x hx => by
    rw [BitVec.ofInt_natCast, BitVec.toNat_ofNat]; exact Nat.mod_eq_of_lt hx
  rw [BitVec.toNat_or, h2 t ht', h2 u hu', IntKind.wrap_u64]
  omega
set_option maxRecDepth 100000 in
theorem bitLen_any (x : Loc) (X n t : Nat) (w : World) (hx : NatV w x X) (hl : (digs X).length = n + 1) (hn : n + 1 ≤ 1099511627776) (ht : (digs X)[n]? = some t) :
    Calls Tryz.prog 123 #[.slice x.A (n + 1 : Nat) x.c] w fun e w' => ∃ l, e = .returned (.int .i64 ((64 * n + l : Nat) : Int)) ∧ w' = w ∧ t < 2 ^ l ∧ l ≤ 64 ∧ (2 ≤ t → 2 ≤ l) := by
  have htB : t < B64 := (digs_digs X).at_ ht
  have exA := hx.addr (by omega)
  have ct : w.cell? ⟨x.b, x.o + n, none⟩ = some (.int .u64 (t : Int)) := by
    obtain ⟨g1, e1⟩ := List.getElem?_eq_some_iff.1 ht
    have := hx.at_.cell n g1
    rwa [e1] at this
  obtain ⟨xA, xc, xb, xo⟩ := x
  simp only at exA ct
  subst exA
  obtain ⟨t1, f1, g1, k1⟩ := or_up t (t / 2) htB (Nat.div_le_self _ _)
  obtain ⟨t2, f2, g2, k2⟩ := or_up t1 (t1 / 4) k1 (Nat.div_le_self _ _)
  obtain ⟨t3, f3, g3, k3⟩ := or_up t2 (t2 / 16) k2 (Nat.div_le_self _ _)
  obtain ⟨t4, f4, g4, k4⟩ := or_up t3 (t3 / 256) k3 (Nat.div_le_self _ _)
  obtain ⟨t5, f5, g5, k5⟩ := or_up t4 (t4 / 65536) k4 (Nat.div_le_self _ _)
  obtain ⟨t6, f6, g6, k6⟩ := or_up t5 (t5 / 65536 / 65536) k5 (Nat.le_trans (Nat.div_le_self _ _) (Nat.div_le_self _ _))
  rw [show ((t / 2 : Nat) : Int) = (t : Int) / 2 from rfl] at f1
  rw [show ((t1 / 4 : Nat) : Int) = (t1 : Int) / 4 from rfl] at f2
  rw [show ((t2 / 16 : Nat) : Int) = (t2 : Int) / 16 from rfl] at f3
  rw [show ((t3 / 256 : Nat) : Int) = (t3 : Int) / 256 from rfl] at f4
  rw [show ((t4 / 65536 : Nat) : Int) = (t4 : Int) / 65536 from rfl] at f5
  rw [show ((t5 / 65536 / 65536 : Nat) : Int) = (t5 : Int) / 65536 / 65536 from rfl] at f6
  have hLt := Lib.hid (Len_any t6 w k6)
  obtain ⟨b1, b2, b3⟩ := bitLen_bounds k6
  obtain ⟨l, hl'⟩ : ∃ l, Lib.bitLen t6 = l := ⟨_, rfl⟩
  rw [hl'] at hLt b1 b2 b3
  have HB := Lib.hid (show t < 2 ^ l ∧ l ≤ 64 ∧ (2 ≤ t → 2 ≤ l) from ⟨by omega, b2, fun h => b3 (by omega)⟩)
  have i1 : (0 : Int) ≤ (n : Int) := by omega
  have i2 : (n : Int) < (n : Int) + 1 := by omega
  have i3 : (n : Int) + 1 - 1 = (n : Int) := by omega
  clear hx hl ht b1 b2 b3 g1 g2 g3 g4 g5 g6 k1 k2 k3 k4 k5 k6 hl' htB
  go_enter Tryz.func123, Tryz.ntmps123
  go_wp2_with fail
  refine hLt.out.mono ?_
  rintro e w' ⟨rfl, hw⟩
  cases hw.symm
  go_wp2_with fail
  go_ret
  refine ⟨l, ?_, rfl, HB.out⟩
  have hl64 := HB.out.2.1
  have e : wrap64 ((n : Int) * 64 + (l : Int)) = ((64 * n + l : Nat) : Int) := by unfold wrap64; omega
  show Ending.returned (.int .i64 (wrap64 ((n : Int) * 64 + (l : Int)))) = _
  rw [e]
end Go.Proofs.YtefeijofhocnpaaGreatDoor
namespace Go.Proofs.YtefeijofhocnpaaGreatDoor
open Go.RowKit
theorem val_drop_div {xs : List Nat} (D : Digs B64 xs) {k : Nat} (hk : k ≤ xs.length) : val B64 (xs.drop k) = val B64 xs / B64 ^ k := by
  have h := val_take_drop (b := B64) xs k hk
  have h2 := val_lt _ (D.take k)
  rw [List.length_take, Nat.min_eq_left hk] at h2
  rw [h, Nat.add_comm, Nat.mul_add_div (Nat.pow_pos B64_pos), Nat.div_eq_of_lt h2]; rfl
theorem NatRes.vec {w w1 w2 : World} {z : Loc} {need n b o c N : Nat} {rs : List Nat} (hF : From w z (Loc.mk1 b o c) n) (hc : n ≤ c) (hO : (Loc.mk1 b o c).Ok w1) (u1 : Upd NoF w w1) (u2 : Upd (Rg b o (o + n)) w1 w2)
    (hR : U64 w2 b o rs) (hl : rs.length = n) (hD : Digs B64 rs) (hv : val B64 rs = N) (hneed : n = need) : NatRes w z need N (.returned (.slice (some ⟨b, o, none⟩) (digs N).length c)) w2 := by
  subst hv
  exact NatRes.made (need := need) hF (by omega) (fun h => by omega) u1 u2 ⟨hO.upd u2, Nat.le_trans (digs_len_le hD) (by rw [hl]; exact hc), by rw [digs_eq_take hD]; exact hR.take _, digs_digs _⟩ hneed
set_option maxRecDepth 1000000 in
set_option maxHeartbeats 1600000 in
theorem rsh_pos (z x : Loc) (nz X s m k r : Nat) (w : World) (hz : z.Ok w) (hx : NatV w x X) (hm : (digs X).length = m + k) (hm0 : 0 < m) (hmB : m + k ≤ 1099511627776) (hs : s = 64 * k + r) (hr : r < 64) (hs0 : s ≠ 0) (rx : Rel z x) :
    Calls Tryz.prog 124 #[.slice z.A nz z.c, .slice x.A (m + k : Nat) x.c, .int .u64 (s : Int)] w fun e w' => NatRes w z m (X / 2 ^ s) e w' := by
  have exA := hx.addr (by omega)
  obtain ⟨xA, xc, xb, xo⟩ := x
  simp only at exA
  subst exA
  have hxc : m + k ≤ xc := by have := hx.le; simp only at this; omega
  have q1 : ((s : Int) == 0) = false := beq_eq_false_iff_ne.2 (by omega)
  have hX := lt_of_digs_len X
  have q2 : (s : Int) / 64 = (k : Int) := by omega
  have q3 : Int.tdiv (s : Int) 64 = (k : Int) := by rw [Int.tdiv_eq_ediv_of_nonneg (by omega)]; exact q2
  have q4 : (m : Int) + (k : Int) - (k : Int) = (m : Int) := by omega
  have q5 : decide ((m : Int) ≤ 0) = false := decide_eq_false (by omega)
  have q6 : ¬ (m : Int) ≤ 0 := by omega
  have q7 : Int.tmod (s : Int) 64 = (r : Int) := by rw [Int.tmod_eq_emod_of_nonneg (by omega)]; omega
  have q8 : (s : Int) % 64 = (r : Int) := by omega
  have q9 : (m : Int) + (k : Int) - (m : Int) = (k : Int) := by omega
  have q10 : (0 : Int) < (m : Int) := by omega
  have b1 : m < 1099511627776 + 1 := by omega
  have b2 : k < 1099511627776 + 1 := by omega
  have HX := Lib.hid (And.intro hx (And.intro hm (And.intro hm0 (And.intro hmB (And.intro hs (And.intro hr (And.intro hxc (And.intro rx hz))))))))
  clear hx hm hm0 hmB hs hr hs0 hxc rx hX hz
  go_enter Tryz.func124, Tryz.ntmps124
  go_wp2_with fail
  refine (make_pos z nz m _ _ HX.out.2.2.2.2.2.2.2.2 rfl HX.out.2.2.1 (by omega)).mono ?_
  rintro e w1 ⟨b, o, c, rfl, hF, hO, hc, hU⟩
  have hx1 := HX.out.1.at_.upd hU (fun _ _ h => h)
  simp only at hx1
  have hxd : U64 w1 xb (xo + k) ((digs X).drop k) := hx1.drop k
  have lxd : ((digs X).drop k).length = m := by rw [List.length_drop, HX.out.2.1]; omega
  have vxd : val B64 ((digs X).drop k) = X / B64 ^ k := by rw [val_drop_div (digs_digs X) (by rw [HX.out.2.1]; omega), val_digs]
  have rx := HX.out.2.2.2.2.2.2.2.1
  have hup : UpOk b o xb (xo + k) m := hF.up (fun hm => by
    rcases rx with rfl | h
    · exact Or.inr (Or.inl (by simp only; omega))
    · have := HX.out.2.2.2.2.2.2.1; have := HX.out.2.2.1; unfold Apart at h; unfold UpOk; simp only at h; omega) (HX.out.1.at_.drop k).r lxd
  have hL : Live w1 b o m := hO.live.le hc
  have e0 : X / B64 ^ k / 2 ^ r = X / 2 ^ s := by
    rw [HX.out.2.2.2.2.1, Nat.div_div_eq_div_mul, Nat.pow_add, Nat.pow_mul]; rfl
  have HM := Lib.hid (And.intro hF (And.intro hc (And.intro hO hU)))
  have HY := Lib.hid (And.intro hxd (And.intro lxd (And.intro vxd (And.intro hup (And.intro hL e0)))))
  have i1 : k < xc := by have := HX.out.2.2.2.2.2.2.1; have := HX.out.2.2.1; omega
  have i2 : (k : Int) ≤ (m : Int) + (k : Int) := by omega
  have i3 : m + k - k = m := by omega
  have i4 : (m : Int) + (k : Int) ≤ (xc : Int) := by have := HX.out.2.2.2.2.2.2.1; omega
  have i5 : (0 : Int) ≤ (k : Int) := by omega
  have hc63 := hO.1
  clear hF hO hU hx1 hxd lxd vxd rx hup hL e0
  by_cases hr0 : r = 0
  · subst hr0
    have q11 : (((0 : Nat) : Int) == 0) = true := rfl
    go_wp2_with (with_reducible refine wpList_copy64 rfl (.tmp 40) (.tmp 45) 78 78 rfl 102 uNat sWord (some ⟨b, o, none⟩) (some ⟨xb, xo + k, none⟩) m c m (xc - k) b o xb (xo + k) rfl rfl ((digs X).drop k) (by rw [HY.out.2.1]; exact (Nat.min_self m).symm) (fun _ => ⟨rfl, rfl⟩) HY.out.1.r (by rw [HY.out.2.1]; exact HY.out.2.2.2.2.1) ?_; intro w2 hU2 hR2; rw [HY.out.2.1] at hU2)
    have hv2 : val B64 ((digs X).drop k) = X / 2 ^ s := by have := HY.out.2.2.2.2.2; rw [Nat.pow_zero, Nat.div_one] at this; rw [HY.out.2.2.1, this]
    have HN := Lib.hid (norm_len b o c m _ w2 HY.out.2.1 hc hc63 hR2 ((digs_digs X).drop k))
    rw [hv2] at HN
    have HF := Lib.hid (NatRes.vec HM.out.1 HM.out.2.1 HM.out.2.2.1 HM.out.2.2.2 hU2 hR2 HY.out.2.1 ((digs_digs X).drop k) hv2 rfl)
    clear hU2 hR2 hv2
    refine HN.out.mono ?_
    rintro e w3 ⟨rfl, hw3⟩
    cases hw3.symm
    go_wp2_with fail
    go_ret
    exact HF.out
  · have q11 : ((r : Int) == 0) = false := beq_eq_false_iff_ne.2 (by omega)
    have HV := Lib.hid (rshVU_any b o c xb (xo + k) (xc - k) m r ((digs X).drop k) w1 (by have := HX.out.2.2.2.1; omega) HX.out.2.2.2.2.2.1 HY.out.2.1 HY.out.2.2.2.2.1 HY.out.1 ((digs_digs X).drop k) HY.out.2.2.2.1)
    go_wp2_with fail
    refine HV.out.mono ?_
    rintro e w2 ⟨c2, rs, rfl, hU2, hR2, hl2, hD2, hv2⟩
    rw [HY.out.2.2.1, HY.out.2.2.2.2.2] at hv2
    have HN := Lib.hid (norm_len b o c m rs w2 hl2 hc hc63 hR2 hD2)
    rw [hv2] at HN
    have HF := Lib.hid (NatRes.vec HM.out.1 HM.out.2.1 HM.out.2.2.1 HM.out.2.2.2 hU2 hR2 hl2 hD2 hv2 rfl)
    clear hU2 hR2 hl2 hD2 hv2 HV
    go_wp2_with fail
    refine HN.out.mono ?_
    rintro e w3 ⟨rfl, hw3⟩
    cases hw3.symm
    go_wp2_with fail
    go_ret
    exact HF.out
theorem lsh_fin {w1 w2 w4 : World} {b o m k X s r c2 : Nat} {rs : List Nat} (hL : Live w1 b (o + k) (m + 1)) (U2 : Upd (Rg b (o + k) (o + k + m)) w1 w2) (hR : U64 w2 b (o + k) rs) (hl : rs.length = m) (hD : Digs B64 rs) (hv : X * 2 ^ r = val B64 rs + c2 * B64 ^ m) (hc2 : c2 < B64) (hs : s = 64 * k + r)
    (U4 : Upd (Rg b o (o + k)) (w2.setCell ⟨b, o + (m + k), none⟩ (.int .u64 (c2 : Int))) w4) (hz : U64 w4 b o (List.replicate k 0)) :
    Upd (Rg b o (o + (m + k + 1))) w1 w4 ∧ U64 w4 b o (List.replicate k 0 ++ (rs ++ [c2])) ∧ (List.replicate k 0 ++ (rs ++ [c2])).length = m + k + 1 ∧ Digs B64 (List.replicate k 0 ++ (rs ++ [c2])) ∧ val B64 (List.replicate k 0 ++ (rs ++ [c2])) = X * 2 ^ s := by
  obtain ⟨z0, hz0⟩ := (hL.upd U2) m (by omega)
  refine ⟨?_, ?_, by simp [hl]; omega, (Digs.replicate B64_pos _).append (hD.snoc hc2), ?_⟩
  · refine Upd.trans (Upd.setCell (U2.mono (fun _ _ _ ⟨e, g1, g2⟩ => ⟨e, by omega, by omega⟩)) (fun _ => ⟨rfl, by omega, by omega⟩) _) (U4.mono (fun _ _ _ ⟨e, g1, g2⟩ => ⟨e, g1, by omega⟩))
  · refine hz.append ?_
    rw [List.length_replicate]
    refine U64.updR ?_ U4 (by omega)
    refine (hR.far _ (by omega)).snoc ?_
    rw [hl, show o + k + m = o + (m + k) by omega]
    rw [show o + k + m = o + (m + k) by omega] at hz0
    exact hz0.set _
  · rw [val_append, val_replicate, List.length_replicate, val_snoc, hl, hs, Nat.pow_add, Nat.pow_mul]
    have e : (2 : Nat) ^ 64 = B64 := rfl
    rw [e, Nat.zero_add, Nat.mul_comm (B64 ^ m), ← hv]
    rw [← Nat.mul_assoc, ← Nat.mul_assoc, Nat.mul_comm X]
set_option maxRecDepth 1000000 in
set_option maxHeartbeats 1600000 in
theorem lsh_pos (z x : Loc) (nz X s m k r : Nat) (w : World) (hz : z.Ok w) (hx : NatV w x X) (hm : (digs X).length = m) (hm0 : 0 < m) (hmB : m + k + 1 ≤ 1099511627776) (hs : s = 64 * k + r) (hr : r < 64) (hs0 : s ≠ 0) (rx : Rel z x) :
    Calls Tryz.prog 122 #[.slice z.A nz z.c, .slice x.A m x.c, .int .u64 (s : Int)] w fun e w' => NatRes w z (m + k + 1) (X * 2 ^ s) e w' := by
  have exA := hx.addr (by omega)
  obtain ⟨xA, xc, xb, xo⟩ := x
  simp only at exA
  subst exA
  have hxc : m ≤ xc := by have := hx.le; simp only at this; omega
  have q1 : ((s : Int) == 0) = false := beq_eq_false_iff_ne.2 (by omega)
  have q0 : ((m : Int) == 0) = false := beq_eq_false_iff_ne.2 (by omega)
  have q2 : (s : Int) / 64 = (k : Int) := by omega
  have q3 : Int.tdiv (s : Int) 64 = (k : Int) := by rw [Int.tdiv_eq_ediv_of_nonneg (by omega)]; exact q2
  have q7 : Int.tmod (s : Int) 64 = (r : Int) := by rw [Int.tmod_eq_emod_of_nonneg (by omega)]; omega
  have q8 : (s : Int) % 64 = (r : Int) := by omega
  have q9 : (m : Int) + (k : Int) - (m : Int) = (k : Int) := by omega
  have b1 : m < 1099511627776 + 1 := by omega
  have b2 : k < 1099511627776 + 1 := by omega
  have HX := Lib.hid (And.intro hx (And.intro hm (And.intro hm0 (And.intro hmB (And.intro hs (And.intro hr (And.intro hxc (And.intro rx hz))))))))
  clear hx hm hm0 hmB hs hr hs0 hxc rx hz
  go_enter Tryz.func122, Tryz.ntmps122
  go_wp2_with fail
  refine (make_pos z nz (m + k + 1) _ _ HX.out.2.2.2.2.2.2.2.2 (by omega) (by omega) HX.out.2.2.2.1).mono ?_
  rintro e w1 ⟨b, o, c, rfl, hF, hO, hc, hU⟩
  have hx1 : U64 w1 xb xo (digs X) := HX.out.1.at_.upd hU (fun _ _ h => h)
  have rx := HX.out.2.2.2.2.2.2.2.1
  have hdn : DnOk b (o + k) xb xo m := by
    rcases hF with ⟨h1, h2⟩ | ⟨h1, h2, h3⟩
    · have e1 : z.b = b := by rw [← h2]
      have e2 : z.o = o := by rw [← h2]
      have e3 : z.c = c := by rw [← h2]
      rcases rx with h | h
      · rw [h] at e1 e2
        simp only at e1 e2
        unfold DnOk; omega
      · have := HX.out.2.2.2.2.2.2.1; have := HX.out.2.2.1; unfold Apart at h; unfold DnOk; simp only at h; omega
    · have := hx1.lt (by rw [HX.out.2.1]; exact HX.out.2.2.1)
      have h4 := (HX.out.1.at_).lt (by rw [HX.out.2.1]; exact HX.out.2.2.1)
      simp only at h2 h4
      unfold DnOk; omega
  have hL : Live w1 b (o + k) (m + 1) := hO.live.sub k (m + 1) (by simp only; omega)
  have hL0 : Live w1 b o k := hO.live.le (by simp only; omega)
  have HM := Lib.hid (And.intro hF (And.intro hc (And.intro hO hU)))
  have HY := Lib.hid (And.intro hx1 (And.intro hdn (And.intro hL hL0)))
  have i1 : k < c := by omega
  have i2 : (k : Int) ≤ (m : Int) + (k : Int) := by omega
  have i3 : ((m : Int) + (k : Int)).toNat - k = m := by omega
  have i4 : (m : Int) + (k : Int) ≤ (c : Int) := by omega
  have i5 : (m : Int) + (k : Int) < (m : Int) + (k : Int) + 1 := by omega
  have i6 : ((m : Int) + (k : Int)).toNat = m + k := by omega
  have i7 : (0 : Int) ≤ (m : Int) + (k : Int) := by omega
  have i8 : (k : Int) ≤ (c : Int) := by omega
  have i9 : (0 : Int) ≤ (k : Int) := by omega
  have hc63 := hO.1
  have hm := HX.out.2.1
  clear hF hO hU hx1 rx hdn hL hL0
  by_cases hr0 : r = 0
  · subst hr0
    have q11 : (((0 : Nat) : Int) == 0) = true := rfl
    obtain ⟨i0', i1', i2', _, _⟩ := iWord
    go_wp2_with (first | (with_reducible refine wpList_copy64 rfl (.tmp 46) (.tmp 47) 78 78 rfl 102 uNat sWord (some ⟨b, o + k, none⟩) (some ⟨xb, xo, none⟩) m (c - k) m xc b (o + k) xb xo rfl rfl (digs X) (by rw [hm]; exact (Nat.min_self m).symm) (fun _ => ⟨rfl, rfl⟩) HY.out.1.r (by rw [hm]; exact HY.out.2.2.1.le (by omega)) ?_; intro w2 hU2 hR2; rw [hm] at hU2; obtain ⟨z0, cz0, fz0, kz0⟩ := (HY.out.2.2.1.upd hU2).at_ (k := m) (by omega); rw [show o + k + m = o + (m + k) from by omega] at cz0 fz0) | (with_reducible refine wpList_clear64 rfl (.tmp 68) 78 rfl 102 i0' uNat i1' i2' _ k _ b o rfl (fun _ => rfl) (((HY.out.2.2.2.upd hU2).set _ _ _)) ?_; intro w4 hU4 hz4))
    obtain ⟨g1, g2, g3, g4, g5⟩ := lsh_fin (X := X) (r := 0) (c2 := 0) HY.out.2.2.1 hU2 hR2 hm (digs_digs X) (by rw [val_digs]; simp) B64_pos HX.out.2.2.2.2.1 hU4 hz4
    have HN := Lib.hid (norm_len b o c (m + k + 1) _ w4 g3 hc hc63 g2 g4)
    rw [g5] at HN
    have HF := Lib.hid (NatRes.vec HM.out.1 HM.out.2.1 HM.out.2.2.1 HM.out.2.2.2 g1 g2 g3 g4 g5 rfl)
    clear g1 g2 g3 g4 g5 hU2 hR2 hU4 hz4
    refine HN.out.mono ?_
    rintro e w5 ⟨rfl, hw5⟩
    cases hw5.symm
    go_wp2_with fail
    go_ret
    exact HF.out
  · have q11 : ((r : Int) == 0) = false := beq_eq_false_iff_ne.2 (by omega)
    have HV := Lib.hid (lshVU_any b (o + k) (c - k) xb xo xc m r (digs X) w1 (by have := HX.out.2.2.2.1; omega) HX.out.2.2.2.2.2.1 hm (HY.out.2.2.1.le (by omega)) HY.out.1 (digs_digs X) HY.out.2.1)
    go_wp2_with fail
    refine HV.out.mono ?_
    rintro e w2 ⟨c2, rs, rfl, hU2, hR2, hl2, hD2, hv2, hc2⟩
    rw [val_digs] at hv2
    have hcB : c2 < B64 := Nat.lt_of_lt_of_le hc2 (by rw [show B64 = 2 ^ 64 from rfl]; exact Nat.pow_le_pow_right (by omega) (by have := HX.out.2.2.2.2.2.1; omega))
    obtain ⟨z0, cz0, fz0, kz0⟩ := (HY.out.2.2.1.upd hU2).at_ (k := m) (by omega)
    rw [show o + k + m = o + (m + k) from by omega] at cz0 fz0
    obtain ⟨i0', i1', i2', _, _⟩ := iWord
    have HV2 := Lib.hid (And.intro hU2 (And.intro hR2 (And.intro hl2 (And.intro hD2 (And.intro hv2 hcB)))))
    clear hU2 hR2 hl2 hD2 hv2 hcB hc2 HV kz0
    go_wp2_with (with_reducible refine wpList_clear64 rfl (.tmp 68) 78 rfl 102 i0' uNat i1' i2' _ k _ b o rfl (fun _ => rfl) (((HY.out.2.2.2.upd HV2.out.1).set _ _ _)) ?_; intro w4 hU4 hz4)
    obtain ⟨g1, g2, g3, g4, g5⟩ := lsh_fin (X := X) HY.out.2.2.1 HV2.out.1 HV2.out.2.1 HV2.out.2.2.1 HV2.out.2.2.2.1 HV2.out.2.2.2.2.1 HV2.out.2.2.2.2.2 HX.out.2.2.2.2.1 hU4 hz4
    have HN := Lib.hid (norm_len b o c (m + k + 1) _ w4 g3 hc hc63 g2 g4)
    rw [g5] at HN
    have HF := Lib.hid (NatRes.vec HM.out.1 HM.out.2.1 HM.out.2.2.1 HM.out.2.2.2 g1 g2 g3 g4 g5 rfl)
    clear g1 g2 g3 g4 g5 hU4 hz4
    refine HN.out.mono ?_
    rintro e w5 ⟨rfl, hw5⟩
    cases hw5.symm
    go_wp2_with fail
    go_ret
    exact HF.out
end Go.Proofs.YtefeijofhocnpaaGreatDoor
namespace Go.Proofs.YtefeijofhocnpaaGreatDoor
def IsRoot (x r : Nat) : Prop := r * r ≤ x ∧ x < (r + 1) * (r + 1)
theorem sq_le {a b : Nat} (h : a ≤ b) : a * a ≤ b * b := Nat.mul_le_mul h h
theorem le_of_sq {a b : Nat} (h : a * a < (b + 1) * (b + 1)) : a ≤ b := by
  rcases Nat.lt_or_ge b a with h1 | h1
  · have := sq_le (a := b + 1) (b := a) h1; omega
  · exact h1
theorem IsRoot.uniq {x r s : Nat} (h : IsRoot x r) (k : IsRoot x s) : r = s := by
  have h1 := le_of_sq (a := r) (b := s) (Nat.lt_of_le_of_lt h.1 k.2)
  have h2 := le_of_sq (a := s) (b := r) (Nat.lt_of_le_of_lt k.1 h.2)
  omega
theorem IsRoot.le {x r : Nat} (h : IsRoot x r) : r ≤ x := by
  rcases Nat.eq_zero_or_pos r with h0 | h0
  · omega
  · have := Nat.mul_le_mul_left r h0
    rw [Nat.mul_one] at this
    exact Nat.le_trans this h.1
theorem newton_ge {x z r : Nat} (hz : 0 < z) (hr : r * r ≤ x) : r ≤ (z + x / z) / 2 := by
  have h1 : x < (x / z + 1) * z := by
    have := Nat.lt_div_mul_add (a := x) hz
    rw [Nat.add_mul, Nat.one_mul]; exact this
  generalize x / z = k at *
  rcases Nat.lt_or_ge (z + k) (2 * r) with h | h
  · exfalso
    have h2 : (z + k + 1) * (z + k + 1) ≤ 2 * r * (2 * r) := Nat.mul_le_mul (by omega) (by omega)
    have h3 : 2 * r * (2 * r) = 4 * (r * r) := by grind
    have h4 : 4 * ((k + 1) * z) ≤ (z + k + 1) * (z + k + 1) := by
      obtain h | h := Nat.le_total z (k + 1)
      · obtain ⟨d, hd⟩ : ∃ d, k + 1 = z + d := ⟨k + 1 - z, by omega⟩
        have e1 : z + k + 1 = z + (z + d) := by omega
        rw [hd, e1]
        have : (z + (z + d)) * (z + (z + d)) = 4 * ((z + d) * z) + d * d := by grind
        omega
      · obtain ⟨d, hd⟩ : ∃ d, z = k + 1 + d := ⟨z - (k + 1), by omega⟩
        have e1 : z + k + 1 = z + (k + 1) := by omega
        rw [e1]
        generalize k + 1 = K at *
        subst hd
        have : (K + d + K) * (K + d + K) = 4 * (K * (K + d)) + d * d := by grind
        omega
    omega
  · omega
theorem newton_stop {x z : Nat} (hz : 0 < z) (h : z ≤ (z + x / z) / 2) : z * z ≤ x := by
  have h1 : z ≤ x / z := by omega
  have := Nat.mul_le_mul_right z h1
  exact Nat.le_trans this (Nat.div_mul_le_self _ _)
theorem newton_end {x z : Nat} (hz : 0 < z) (hge : ∀ r, r * r ≤ x → r ≤ z) (h : z ≤ (z + x / z) / 2) : IsRoot x z := by
  refine ⟨newton_stop hz h, ?_⟩
  rcases Nat.lt_or_ge x ((z + 1) * (z + 1)) with h1 | h1
  · exact h1
  · have := hge _ h1; omega
theorem newton_start {x b : Nat} (h : x < 2 ^ b) : ∀ r, r * r ≤ x → r ≤ 2 ^ ((b + 1) / 2) := fun r hr => by
  have h1 : 2 ^ b ≤ 2 ^ ((b + 1) / 2) * 2 ^ ((b + 1) / 2) := by
    rw [← Nat.pow_add]
    exact Nat.pow_le_pow_right (by omega) (by omega)
  refine le_of_sq (Nat.lt_of_le_of_lt hr (Nat.lt_of_lt_of_le h (Nat.le_trans h1 (sq_le (Nat.le_succ _)))))
def BitI (a out i : Nat) : Prop := out * out ≤ a ∧ a < (out + 2 ^ i) * (out + 2 ^ i)
theorem BitI.start {a b : Nat} (h : a < 2 ^ b) : BitI a 0 ((b + 1) / 2 + 1) := by
  refine ⟨by omega, ?_⟩
  have h1 : 2 ^ b ≤ 2 ^ ((b + 1) / 2 + 1) * 2 ^ ((b + 1) / 2 + 1) := by
    rw [← Nat.pow_add]
    exact Nat.pow_le_pow_right (by omega) (by omega)
  rw [Nat.zero_add]; omega
theorem BitI.set {a out i : Nat} (h : BitI a out (i + 1)) (hc : (out + 2 ^ i) * (out + 2 ^ i) ≤ a) : BitI a (out + 2 ^ i) i := by
  refine ⟨hc, ?_⟩
  have := h.2
  rwa [Nat.pow_succ, show out + 2 ^ i * 2 = out + 2 ^ i + 2 ^ i by omega] at this
theorem BitI.skip {a out i : Nat} (h : BitI a out (i + 1)) (hc : a < (out + 2 ^ i) * (out + 2 ^ i)) : BitI a out i := ⟨h.1, hc⟩
theorem BitI.end_ {a out : Nat} (h : BitI a out 0) : IsRoot a out := h
theorem IsRoot.pos {x r : Nat} (h : IsRoot x r) (hx : 1 ≤ x) : 1 ≤ r := by
  rcases Nat.eq_zero_or_pos r with h0 | h0
  · subst h0; have := h.2; omega
  · exact h0
end Go.Proofs.YtefeijofhocnpaaGreatDoor
namespace Go.Proofs.YtefeijofhocnpaaGreatDoor
open Go.RowKit
def NatOne (w : World) : Prop := ∃ lo : Loc, CellT 78 w 1 0 (.slice lo.A 1 lo.c) ∧ NatR w lo 1
structure SqI (w0 w : World) (x z1 z2 : Loc) (X Z1 Z2 sb : Nat) (J : SI) : Prop where
  up : Upd NoF w0 w
  v1 : NatV w z1 Z1
  v2 : NatV w z2 Z2
  ap : Apart z1 z2
  n1 : z1.c = 0 ∨ w0.heap.size ≤ z1.b
  n2 : z2.c = 0 ∨ w0.heap.size ≤ z2.b
  st : StkV w sb 0 J
  sb0 : w0.heap.size ≤ sb
  k : ∀ n b i, J.K sb n b i → w0.heap.size ≤ b
  o1 : Off J sb 0 z1
  o2 : Off J sb 0 z2
theorem sq_new {w0 : World} {l x : Loc} (hx : x.Ok w0) (h : l.c = 0 ∨ w0.heap.size ≤ l.b) : Apart l x := by
  rcases h with h | h
  · exact Or.inl h
  · exact (Apart.new hx h).symm
theorem loc_norm {w : World} {r : Loc} {N : Nat} (h : NatV w r N) : ∃ r' : Loc, r'.A = r.A ∧ r'.c = r.c ∧ (r'.c = 0 → r'.o = 0) ∧ NatV w r' N ∧ (r' = r ∨ r'.c = 0) := by
  by_cases h0 : r.c = 0
  · have hN : N = 0 := digs_len_eq_zero.1 (by have := h.le; omega)
    subst hN
    exact ⟨⟨r.A, 0, 0, 0⟩, rfl, h0.symm, fun _ => rfl, NatV.zero ⟨Nat.zero_le _, fun h => absurd h (Nat.lt_irrefl 0)⟩, Or.inr rfl⟩
  · exact ⟨r, rfl, rfl, fun h => absurd h h0, h, Or.inl rfl⟩
theorem SqI.old {w0 w : World} {x z1 z2 : Loc} {X Z1 Z2 sb : Nat} {J : SI} (h : SqI w0 w x z1 z2 X Z1 Z2 sb J) {l : Loc} {N : Nat} (hl : NatV w0 l N) : NatV w l N := hl.upd0 h.up
theorem SqI.off {w0 w : World} {x z1 z2 : Loc} {X Z1 Z2 sb : Nat} {J : SI} (h : SqI w0 w x z1 z2 X Z1 Z2 sb J) {l : Loc} (hl : l.Ok w0) : Off J sb 0 l := fun i hi k => by
  have h1 := h.k _ _ _ k
  have h2 := (hl.free (by omega)).lt
  omega
theorem SqI.swap {w0 w : World} {x z1 z2 : Loc} {X Z1 Z2 sb : Nat} {J : SI} (h : SqI w0 w x z1 z2 X Z1 Z2 sb J) : SqI w0 w x z2 z1 X Z2 Z1 sb J :=
  ⟨h.up, h.v2, h.v1, h.ap.symm, h.n2, h.n1, h.st, h.sb0, h.k, h.o2, h.o1⟩
theorem SqI.put {w0 w w' : World} {x z1 z2 r : Loc} {X Z1 Z2 sb N need : Nat} {J : SI} (h : SqI w0 w x z1 z2 X Z1 Z2 sb J) (hr : r = z2 ∨ w.heap.size ≤ r.b) (u : Upd (ZF z2 need) w w') (hv : NatV w' r N) : SqI w0 w' x z1 r X Z1 N sb J := by
  have hz1 : ∀ i, i < z1.c → ¬ ZF z2 need z1.b (z1.o + i) := fun i hi => h.ap.symm.zf hi
  have hs := h.up.size
  refine ⟨h.up.then u (fun _ _ _ k => k) ?_, h.v1.upd u (fun i hi k => hz1 i (Nat.lt_of_lt_of_le hi h.v1.le) k), hv, ?_, h.n1, ?_, h.st.upd u (fun b i k => h.o2.zf b i k), h.sb0, h.k, h.o1, ?_⟩
  · rintro b i hb ⟨k1, k2, k3, k4⟩
    rcases h.n2 with h2 | h2 <;> omega
  · rcases hr with rfl | hr
    · exact h.ap
    · exact Apart.new h.v1.ok hr
  · rcases hr with rfl | hr
    · exact h.n2
    · exact Or.inr (by omega)
  · rcases hr with rfl | hr
    · exact h.o2
    · exact Off.new h.st hr
theorem SqI.res {w0 w w' : World} {x z1 z2 : Loc} {X Z1 Z2 sb N need : Nat} {J : SI} {e : Ending} (h : SqI w0 w x z1 z2 X Z1 Z2 sb J) (hr : NatRes w z2 need N e w') :
    ∃ r : Loc, e = .returned (.slice r.A (digs N).length r.c) ∧ SqI w0 w' x z1 r X Z1 N sb J := by
  obtain ⟨r, h1, h2, h3, h4, h5⟩ := hr
  exact ⟨r, h1, h.put h2 h4 h5⟩
theorem SqI.div {w0 w w' : World} {x z1 z2 : Loc} {X Z1 Z2 sb Q M k k2 : Nat} {J : SI} {e : Ending} (h : SqI w0 w x z1 z2 X Z1 Z2 sb J) (hr : DivResS w z2 nilL k k2 Q M sb 0 J e w') :
    ∃ (r : Loc) (v : Value) (J' : SI), e = .returned (.tuple #[.slice r.A (digs Q).length r.c, v]) ∧ SqI w0 w' x z1 r X Z1 Q sb J' ∧ (r.c = 0 → r.o = 0) := by
  obtain ⟨r, r2, J', h1, h2, h3, h4, h5, h6, h7, h8, h9, h10, h11⟩ := hr
  have hs := h.up.size
  have hz1 : ∀ i, i < z1.c → ¬ ((ZF z2 k z1.b (z1.o + i) ∨ ZF nilL k2 z1.b (z1.o + i)) ∨ J.K sb 0 z1.b (z1.o + i)) := fun i hi => by
    rintro ((k1 | ⟨_, _, _, k4⟩) | k1)
    · exact h.ap.symm.zf hi k1
    · exact absurd k4 (Nat.not_lt_of_le (by omega))
    · exact h.o1 i hi k1
  obtain ⟨r', g1, g2, g3, g4, g5⟩ := loc_norm h6
  refine ⟨r', _, J', by rw [h1, ← g1, ← g2], ⟨h.up.then h5 (fun _ _ _ k => k) ?_, h.v1.upd h5 (fun i hi k => hz1 i (Nat.lt_of_lt_of_le hi h.v1.le) k), g4, ?_, h.n1, ?_, h8, h.sb0, ?_, h.o1.le h.v1.ok h9, ?_⟩, g3⟩
  · rintro b i hb ((⟨k1, k2, k3, k4⟩ | ⟨_, k2, _, k4⟩) | k1)
    · rcases h.n2 with h2 | h2 <;> omega
    · exact absurd k4 (Nat.not_lt_of_le k2)
    · have := h.k _ _ _ k1; omega
  · rcases g5 with rfl | g5
    · rcases h2 with rfl | h2 | h2
      · exact h.ap
      · exact Apart.new h.v1.ok h2
      · exact Or.inr (Or.inl h2)
    · exact Or.inr (Or.inl g5)
  · rcases g5 with rfl | g5
    · rcases h2 with rfl | h2 | h2
      · exact h.n2
      · exact Or.inr (by omega)
      · exact Or.inl h2
    · exact Or.inl g5
  · intro n b i k1
    rcases Nat.lt_or_ge b w.heap.size with hb | hb
    · exact h.k _ _ _ (h9 _ _ _ hb k1)
    · omega
  · rcases g5 with rfl | g5
    · exact h10
    · intro i hi; omega
theorem ap_up {z x : Loc} {n : Nat} (h : Apart z x) (hn : n ≤ x.c) (h0 : z.c = 0 → z.o = 0) : UpOk z.b z.o x.b x.o n := by
  rcases Nat.eq_zero_or_pos z.c with h1 | h1
  · right; left; rw [h0 h1]; exact Nat.zero_le _
  · exact (Rel.up (Or.inr h) hn h1)
theorem SqI.upd0 {w0 w w' : World} {x z1 z2 : Loc} {X Z1 Z2 sb : Nat} {J : SI} (h : SqI w0 w x z1 z2 X Z1 Z2 sb J) (u : Upd NoF w w') : SqI w0 w' x z1 z2 X Z1 Z2 sb J :=
  ⟨h.up.trans u, h.v1.upd0 u, h.v2.upd0 u, h.ap, h.n1, h.n2, h.st.upd0 u, h.sb0, h.k, h.o1, h.o2⟩
theorem root_one {x r s : Nat} (h : IsRoot x r) (k : IsRoot x s) : r = s := by
  obtain ⟨h1, h2⟩ := h
  obtain ⟨k1, k2⟩ := k
  rcases Nat.lt_trichotomy r s with h | h | h
  · have := Nat.mul_le_mul (show r + 1 ≤ s from h) (show r + 1 ≤ s from h); omega
  · exact h
  · have := Nat.mul_le_mul (show s + 1 ≤ r from h) (show s + 1 ≤ r from h); omega
def NatNew (w : World) (N : Nat) (e : Ending) (w' : World) : Prop :=
  ∃ r : Loc, e = .returned (.slice r.A (digs N).length r.c) ∧ (r.c = 0 ∨ w.heap.size ≤ r.b) ∧ Upd NoF w w' ∧ NatV w' r N
theorem NatRes.isNew {w w' : World} {z : Loc} {need N : Nat} {e : Ending} (h : NatRes w z need N e w') (hz : z.c = 0) : NatNew w N e w' := by
  obtain ⟨r, h1, h2, h3, h4, h5⟩ := h
  refine ⟨r, h1, h2.imp (fun h => by rw [h]; exact hz) id, h4.mono (fun b i _ k => ?_), h5⟩
  obtain ⟨_, k2, _, k4⟩ := k
  omega
set_option maxRecDepth 1000000 in
set_option maxHeartbeats 1600000 in
theorem sqrt_small (x : Loc) (X : Nat) (w : World) (hx : NatV w x X) (hO : NatOne w) (hX : X ≤ 1) :
    Calls Tryz.prog 96 #[.slice none 0 0, .pointer none, .slice x.A (digs X).length x.c] w (NatNew w X) := by
  obtain ⟨lo, co, ho⟩ := hO
  have cO := co.cell
  have hl : (digs X).length ≤ 1 := Nat.le_trans (digs_len_mono hX) (by rw [digs_small (by decide) (by decide)]; exact Nat.le_refl _)
  have h1l : (digs 1).length = 1 := by rw [digs_small (by decide) (by decide)]; rfl
  have HC := cmp_any x lo X 1 w hx ho (by omega)
  rw [h1l] at HC
  have hc0 : cmpN X 1 ≤ 0 := by unfold cmpN; split <;> (try split) <;> omega
  obtain ⟨cv, hcv⟩ : ∃ cv, cmpN X 1 = cv := ⟨_, rfl⟩
  rw [hcv] at HC hc0
  have HC := Lib.hid HC
  have HS := Lib.hid (fun w' (u : Upd NoF w w') => set_any nilL x 0 X w' (Loc.Ok.nil _ _ _) (hx.upd0 u) (by omega))
  have q3 : decide (cv ≤ 0) = true := decide_eq_true hc0
  clear hx ho co hl h1l hcv hX
  go_enter_defers Tryz.func96, Tryz.ntmps96
  go_wp2_with fail
  refine HC.out.mono ?_
  rintro e w1 ⟨rfl, hw⟩
  have hu := hw.upd
  go_wp2_with fail
  refine (HS.out w1 hu).mono ?_
  intro e w2 hr
  obtain ⟨r, rfl, h2, h3, h4⟩ := hr.isNew rfl
  have HF := Lib.hid (And.intro h2 (And.intro h3 h4))
  clear h2 h3 h4 hr
  have hs := hu.size
  go_wp2_with fail
  refine ⟨_, results_tmp rfl _ _ _, ?_⟩
  obtain ⟨h2, h3, h4⟩ := HF.out
  exact ⟨r, rfl, h2.imp id (fun h => by omega), hu.trans h3, h4⟩
theorem NatNew.freed {w0 w w' : World} {r : Loc} {N sb : Nat} {J : SI} (u : Upd NoF w0 w) (hn : r.c = 0 ∨ w0.heap.size ≤ r.b) (hv : NatV w r N) (ho : Off J sb 0 r) (hk : ∀ n b i, J.K sb n b i → w0.heap.size ≤ b) (k : Upd (J.K sb 0) w w') : NatNew w0 N (.returned (.slice r.A (digs N).length r.c)) w' :=
  ⟨r, rfl, hn, u.then k (fun _ _ _ k => k) (fun b i hb k => by have := hk _ _ _ k; have := u.size; omega), hv.upd k (fun i hi k => ho i (Nat.lt_of_lt_of_le hi hv.le) k)⟩
set_option maxRecDepth 1000000 in
set_option maxHeartbeats 1600000 in
theorem sqrt_large (T : Int) (x : Loc) (X n R : Nat) (w0 : World) (hx : NatV w0 x X) (hO : NatOne w0) (hX : 2 ≤ X) (hn : (digs X).length = n + 1) (hnB : n ≤ 1000) (hT : DThr w0 T) (hT2 : ((n / 2 + 2 : Nat) : Int) < T) (hR : IsRoot X R) :
    Calls Tryz.prog 96 #[.slice none 0 0, .pointer none, .slice x.A (n + 1 : Nat) x.c] w0 (NatNew w0 R) := by
  obtain ⟨lo, co, ho⟩ := hO
  have cO := co.cell
  have h1l : (digs 1).length = 1 := by rw [digs_small (by decide) (by decide)]; rfl
  have HC := cmp_any x lo X 1 w0 hx ho (by omega)
  rw [h1l, hn] at HC
  have hc0 : ¬ cmpN X 1 ≤ 0 := by unfold cmpN; split <;> (try split) <;> omega
  obtain ⟨cv, hcv⟩ : ∃ cv, cmpN X 1 = cv := ⟨_, rfl⟩
  rw [hcv] at HC hc0
  have HC := Lib.hid HC
  have q3 : decide (cv ≤ 0) = false := decide_eq_false hc0
  obtain ⟨t, ht⟩ : ∃ t, (digs X)[n]? = some t := ⟨_, List.getElem?_eq_getElem (by omega)⟩
  have HA := Lib.hid (fun w' (u : Upd NoF w0 w') => alias_any nilL x 0 (n + 1) w' (Loc.Ok.nil _ _ _) (hx.upd0 u).ok)
  have HL := Lib.hid (fun w' (u : Upd NoF w0 w') => bitLen_any x X n t w' (hx.upd0 u) hn (by omega) ht)
  have HX := Lib.hid (And.intro hx (And.intro hX (And.intro hn (And.intro hnB (And.intro hT (And.intro hT2 (And.intro hR ht)))))))
  clear hx ho co h1l hcv hX hn hT hT2 hR ht
  go_enter_defers Tryz.func96, Tryz.ntmps96
  go_wp2_with fail
  refine HC.out.mono ?_
  rintro e w1 ⟨rfl, hw⟩
  have hu := hw.upd
  go_wp2_with fail
  refine (HA.out w1 hu).mono ?_
  rw [show aliasB nilL x = false from Apart.alias (Or.inl rfl)]
  rintro e w2 ⟨rfl, hw2⟩
  have hu2 := hu.trans hw2.upd
  clear hw hw2 hu
  go_wp2_with fail
  refine (getStack_any w2).mono ?_
  rintro e w3 ⟨sb, rfl, hsb, hu3, hS⟩
  have H3 := Lib.hid (And.intro (hu2.trans hu3) (And.intro (show w0.heap.size ≤ sb by have := hu2.size; omega) hS))
  clear hsb hu2 hu3 hS
  go_wp2_with fail
  refine (setUint64_any nilL 0 1 w3 (Loc.Ok.nil _ _ _) (by decide)).mono ?_
  intro e w4 hr
  obtain ⟨r1, rfl, h2, h3, h4⟩ := hr.isNew rfl
  rw [show (digs 1).length = 1 by rw [digs_small (by decide) (by decide)]; rfl]
  have H4 := Lib.hid (And.intro (H3.out.1.trans h3) (And.intro (show r1.c = 0 ∨ w0.heap.size ≤ r1.b from h2.imp id (fun h => by have := H3.out.1.size; omega)) (And.intro h4 (And.intro (H3.out.2.2.upd0 h3)
    (show Off .none sb 0 r1 from h2.elim (fun h i hi => by omega) (fun h => Off.new H3.out.2.2 h))))))
  clear h2 h3 h4 hr
  go_wp2_with fail
  refine (HL.out w4 H4.out.1).mono ?_
  rintro e w5 ⟨l, rfl, h1, hl1, hl2, hl3⟩
  obtain rfl : w4 = w5 := h1.symm
  have hb : n ≤ 1000 := HX.out.2.2.2.1
  obtain ⟨s, hs⟩ : ∃ s, (64 * n + l + 1) / 2 = s := ⟨_, rfl⟩
  have k1 : IntKind.i64.wrap (((64 * n + l : Nat) : Int) + 1) = ((64 * n + l + 1 : Nat) : Int) := by rw [IntKind.wrap_i64]; omega
  have k2 : IntKind.u64.wrap ((64 * n + l + 1 : Nat) : Int) = ((64 * n + l + 1 : Nat) : Int) := by rw [IntKind.wrap_u64]; omega
  have k3 : ((64 * n + l + 1 : Nat) : Int) / 2 = (s : Int) := by omega
  have HLS := Lib.hid (And.intro hs (And.intro hl1 (And.intro hl2 hl3)))
  clear hs hl1 hl2 hl3
  go_wp2_with fail
  have e2 : IntKind.u64.wrap ((IntKind.u64.wrap (wrap64 (64 * (n : Int) + (l : Int) + 1))).tdiv 2) = (s : Int) := by
    have h := HLS.out.1
    have h2 := HLS.out.2.2.1
    have e3 : wrap64 (64 * (n : Int) + (l : Int) + 1) = 64 * (n : Int) + (l : Int) + 1 := by unfold wrap64; omega
    have e4 : IntKind.u64.wrap (64 * (n : Int) + (l : Int) + 1) = 64 * (n : Int) + (l : Int) + 1 := by rw [IntKind.wrap_u64]; omega
    rw [e3, e4, Int.tdiv_eq_ediv_of_nonneg (by omega), IntKind.wrap_u64]
    omega
  rw [e2]
  clear k1 k2 k3 e2
  have hs0 : s ≠ 0 ∧ s ≤ 32 * (n + 1) := by
    obtain ⟨h, h1, h2, h3⟩ := HLS.out
    refine ⟨?_, by omega⟩
    rcases Nat.eq_zero_or_pos n with h0 | h0
    · subst h0
      have hd : (digs X) = [X] := digs_small (by have := lt_of_digs_len X; rw [HX.out.2.2.1] at this; simpa using this) (by have := HX.out.2.1; omega)
      have ht := HX.out.2.2.2.2.2.2.2
      rw [hd] at ht
      have : X = t := by simpa using ht
      have := h3 (by have := HX.out.2.1; omega)
      omega
    · omega
  refine (lsh_pos r1 r1 1 1 s 1 (s / 64) (s % 64) w4 H4.out.2.2.1.ok H4.out.2.2.1 (by rw [digs_small (by decide) (by decide)]; rfl) (by decide) (by omega) (by omega) (by omega) hs0.1 (Or.inl rfl)).mono ?_
  intro e w5 hr
  have H5 : SqI w0 w4 x nilL r1 X 0 1 sb .none := ⟨H4.out.1, NatV.zero (Loc.Ok.nil _ _ _), H4.out.2.2.1, Or.inl rfl, Or.inl rfl, H4.out.2.1, H4.out.2.2.2.1, H3.out.2.1, fun n b i k => by have : b = sb := k; rw [this]; exact H3.out.2.1, fun i hi => absurd hi (Nat.not_lt_zero _), H4.out.2.2.2.2⟩
  obtain ⟨z1, rfl, H6⟩ := H5.res hr
  rw [Nat.one_mul] at H6 ⊢
  have H6 := Lib.hid H6.swap
  have HT := Lib.hid (show (0 < 2 ^ s ∧ ∀ r, r * r ≤ X → r ≤ 2 ^ s) from ⟨Nat.two_pow_pos _, by
    obtain ⟨h, h1, h2, h3⟩ := HLS.out
    have hlt : X < 2 ^ (64 * n + l) := by
      have hd := val_take_drop (b := B64) (digs X) n (by have := HX.out.2.2.1; omega)
      have hD := digs_digs X
      have h4 := val_lt _ (hD.take n)
      rw [List.length_take, HX.out.2.2.1, Nat.min_eq_left (Nat.le_succ _)] at h4
      have h5 : (digs X).drop n = [t] := by
        obtain ⟨g1, g2⟩ := List.getElem?_eq_some_iff.1 HX.out.2.2.2.2.2.2.2
        rw [List.drop_eq_getElem_cons g1, g2, List.drop_eq_nil_of_le (by have := HX.out.2.2.1; omega)]
      rw [val_digs, h5, show val B64 [t] = t by simp [val]] at hd
      rw [Nat.pow_add, Nat.pow_mul]
      have h6 : X < B64 ^ n * (t + 1) := by rw [Nat.mul_add, Nat.mul_one]; omega
      exact Nat.lt_of_lt_of_le h6 (Nat.mul_le_mul (Nat.le_refl _) h1)
    rw [← h]
    exact newton_start hlt⟩)
  have HB := Lib.hid (show (digs (2 ^ s)).length ≤ n / 2 + 2 from digs_len_of_lt (by
    rw [show B64 = 2 ^ 64 from rfl, ← Nat.pow_mul]
    exact Nat.pow_lt_pow_right (by decide) (by omega)))
  have HX := Lib.hid (And.intro HX.out.1 (And.intro HX.out.2.1 (And.intro HX.out.2.2.1 (And.intro HX.out.2.2.2.2.1 (And.intro HX.out.2.2.2.2.2.1 HX.out.2.2.2.2.2.2.1)))))
  clear hs0 H3 H4 H5 hr HLS HL HC HA cO hc0
  generalize IntKind.u64.wrap (wrap64 (64 * (n : Int) + (l : Int) + 1)) = j1
  generalize wrap64 (64 * (n : Int) + (l : Int) + 1) = j2
  generalize 64 * (n : Int) + (l : Int) = j3
  go_wp2_with fail
  go_loopg [7, 8, 9] (2 ^ s) (fun p s7 s8 s9 wr => ∃ (z1 z2 : Loc) (Z2 : Nat) (J : SI) (i : Int), s7 = .slice z1.A (digs p).length z1.c ∧ s8 = .slice z2.A (digs Z2).length z2.c ∧ s9 = .int .i64 i ∧ p ≤ 2 ^ s ∧ Hid (SqI w0 wr x z1 z2 X p Z2 sb J) ∧ Hid (0 < p ∧ ∀ r, r * r ≤ X → r ≤ p))
  case atStart => exact ⟨z1, nilL, 0, .none, 0, rfl, by rw [digs_zero]; rfl, rfl, Nat.le_refl _, H6, HT⟩
  case round =>
    obtain ⟨z1, z2, Z2, J, i, rfl, rfl, rfl, hp, HI, HP⟩ := hrel
    have hl1 : (digs gk).length ≤ n / 2 + 2 := Nat.le_trans (digs_len_mono hp) HB.out
    obtain ⟨hx, hX2, hn, hT, hT2, hR⟩ := HX.out
    have hG : 65 * G (digs gk).length ≤ 1099511627776 := by
      have : G (digs gk).length ≤ 600 * 600 := Nat.mul_le_mul (by omega) (by omega)
      omega
    have HD := Lib.hid (div_stk T z2 nilL x z1 (digs Z2).length 0 X gk sb 0 J wr HI.out.v2.ok (Loc.Ok.nil _ _ _) (HI.out.old hx) HI.out.v1 (by have := HP.out.1; omega) (Or.inr (sq_new hx.ok HI.out.n2)) (Or.inr (Or.inl rfl)) (Or.inr (Or.inl rfl))
      HI.out.st HI.out.o2 (fun i hi => absurd hi (Nat.not_lt_zero _)) (HI.out.off hx.ok) HI.out.o1 (hT.upd HI.out.up (fun _ h => h)) (fun _ h => absurd h (by omega)) (by omega) (by omega))
    rw [hn] at HD
    clear hx hT hT2 hR hG H6
    go_wp2_with fail
    refine HD.out.mono ?_
    intro e w6 ⟨k, k2, hr⟩
    obtain ⟨r, v, J', rfl, H7, h0⟩ := HI.out.div hr
    have hQl : (digs (X / gk)).length ≤ n + 1 := by rw [← hn]; exact digs_len_mono (Nat.div_le_self _ _)
    have HA := Lib.hid (add_any r r z1 (digs (X / gk)).length (X / gk) gk w6 H7.v2.ok H7.v2 H7.v1 (by omega) (by omega) (UpOk.self _ _ _) (ap_up H7.ap.symm H7.v1.le h0))
    have H7 := Lib.hid H7
    clear hr h0 HD HI
    go_wp2_with fail
    refine HA.out.mono ?_
    intro e w7 hr
    obtain ⟨r7, rfl, H8⟩ := H7.out.res hr
    have hsl : (digs (X / gk + gk)).length ≤ n + 3 := digs_len_of_lt (by
      have h1 := lt_of_digs_len (X / gk)
      have h2 := lt_of_digs_len gk
      have h3 := Nat.pow_le_pow_right (n := B64) (by decide) (show (digs (X / gk)).length ≤ n + 2 by omega)
      have h4 := Nat.pow_le_pow_right (n := B64) (by decide) (show (digs gk).length ≤ n + 2 by omega)
      have h5 : B64 ^ (n + 3) = B64 ^ (n + 2) * B64 := Nat.pow_succ _ _
      have h6 : B64 ^ (n + 2) * 2 ≤ B64 ^ (n + 2) * B64 := Nat.mul_le_mul (Nat.le_refl _) (by decide)
      omega)
    have hs0 : 0 < (digs (X / gk + gk)).length := Nat.pos_of_ne_zero (fun h => by have h1 : gk = 0 := Nat.eq_zero_of_add_eq_zero_left (digs_len_eq_zero.1 h); have := HP.out.1; omega)
    have HR := Lib.hid (rsh_pos r7 r7 (digs (X / gk + gk)).length (X / gk + gk) 1 (digs (X / gk + gk)).length 0 1 w7 H8.v2.ok H8.v2 rfl hs0 (by omega) rfl (by decide) (by decide) (Or.inl rfl))
    have H8 := Lib.hid H8
    clear hr HA H7 hs0
    go_wp2_with fail
    refine HR.out.mono ?_
    intro e w8 hr
    obtain ⟨r8, rfl, H9⟩ := H8.out.res hr
    rw [show (X / gk + gk) / 2 ^ 1 = (gk + X / gk) / 2 by rw [Nat.pow_one, Nat.add_comm]] at H9 ⊢
    obtain ⟨N, hN⟩ : ∃ N, (gk + X / gk) / 2 = N := ⟨_, rfl⟩
    rw [hN] at H9 ⊢
    have HC := Lib.hid (cmp_any r8 z1 N gk w8 H9.v2 H9.v1 (by
      have := digs_len_mono (m := N) (n := X / gk + gk) (by omega)
      omega))
    have H9 := Lib.hid H9
    have HN := Lib.hid hN
    clear hr HR H8 hN hsl hQl
    by_cases hge : gk ≤ N
    · have q5 : decide (cmpN N gk ≥ 0) = true := decide_eq_true (by unfold cmpN; split <;> (try split) <;> omega)
      obtain ⟨cv2, hcv2⟩ : ∃ cv2, cmpN N gk = cv2 := ⟨_, rfl⟩
      rw [hcv2] at HC q5
      have hroot : IsRoot X gk := newton_end HP.out.1 HP.out.2 (by rw [HN.out]; exact hge)
      clear hcv2 hge
      go_wp2_with fail
      refine HC.out.mono ?_
      rintro e w9 ⟨rfl, hw9⟩
      have hu9 := hw9.upd
      clear hw9
      have HE : Hid (SqI w0 w9 x z1 r8 X gk N sb J' ∧ gk = R) := Lib.hid (And.intro (H9.out.upd0 hu9) (root_one hroot HX.out.2.2.2.2.2))
      clear hu9 hroot H9
      go_wp2_with fail
      · refine leaves_cons (f := 105) (args := #[.pointer (some ⟨sb, 0, none⟩)]) (by simp) (by simp [go_sem]) ?_
        refine (free_d sb 0 J' .returning w9 HE.out.1.st).mono ?_
        rintro e u' w10 ⟨rfl, rfl, hS, hU⟩
        refine ⟨_, results_tmp rfl _ _ _, ?_⟩
        rw [← HE.out.2]
        exact NatNew.freed HE.out.1.up HE.out.1.n1 HE.out.1.v1 HE.out.1.o1 HE.out.1.k hU
      · refine (set_any nilL z1 0 gk w9 (Loc.Ok.nil _ _ _) HE.out.1.v1 (by omega)).mono ?_
        intro e w10 hr
        obtain ⟨r10, rfl, g1, g2, g3⟩ := hr.isNew rfl
        have HE2 := Lib.hid (And.intro (HE.out.1.upd0 g2) (And.intro (show r10.c = 0 ∨ w9.heap.size ≤ r10.b from g1) g3))
        clear g1 g2 g3 hr
        go_wp2_with fail
        refine leaves_cons (f := 105) (args := #[.pointer (some ⟨sb, 0, none⟩)]) (by simp) (by simp [go_sem]) ?_
        refine (free_d sb 0 J' .returning w10 HE2.out.1.st).mono ?_
        rintro e u' w11 ⟨rfl, rfl, hS, hU⟩
        refine ⟨_, results_tmp rfl _ _ _, ?_⟩
        rw [← HE.out.2]
        refine NatNew.freed HE2.out.1.up (HE2.out.2.1.imp id (fun h => by have := HE.out.1.up.size; omega)) HE2.out.2.2 ?_ HE2.out.1.k hU
        exact HE2.out.2.1.elim (fun h i hi => by omega) (fun h => Off.new HE.out.1.st h)
    · have q5 : decide (cmpN N gk ≥ 0) = false := decide_eq_false (by unfold cmpN; split <;> (try split) <;> omega)
      obtain ⟨cv2, hcv2⟩ : ∃ cv2, cmpN N gk = cv2 := ⟨_, rfl⟩
      rw [hcv2] at HC q5
      clear hcv2
      go_wp2_with fail
      refine HC.out.mono ?_
      rintro e w9 ⟨rfl, hw9⟩
      have hu9 := hw9.upd
      have HE : Hid (SqI w0 w9 x z1 r8 X gk N sb J' ∧ (0 < N ∧ ∀ r, r * r ≤ X → r ≤ N)) := Lib.hid (And.intro (H9.out.upd0 hu9) (And.intro
        (by rw [← HN.out]; exact newton_ge HP.out.1 (show 1 * 1 ≤ X by omega)) (fun r hr => by rw [← HN.out]; exact newton_ge HP.out.1 hr)))
      have hlt : N < gk := Nat.lt_of_not_le hge
      clear hw9 hu9 H9 HP
      go_wp2_with fail
      go_roundg N
      case measure => omega
      case rel => exact ⟨r8, z1, gk, J', _, rfl, rfl, rfl, by omega, Lib.hid HE.out.1.swap, Lib.hid HE.out.2⟩
end Go.Proofs.YtefeijofhocnpaaGreatDoor
namespace Go.Proofs.YtefeijofhocnpaaGreatDoor
open Go.RowKit
def SqrtAt (X R : Nat) (w : World) (x : Loc) : Prop := Calls Tryz.prog 96 #[.slice none 0 0, .pointer none, .slice x.A (digs X).length x.c] w (NatNew w R)
theorem sqrtAt_any (T : Int) (x : Loc) (X R : Nat) (w : World) (hx : NatV w x X) (hO : NatOne w) (hn : (digs X).length ≤ 1000) (hT : DThr w T) (hT2 : (((digs X).length / 2 + 2 : Nat) : Int) < T) (hR : IsRoot X R) : SqrtAt X R w x := by
  rcases Nat.lt_or_ge X 2 with h | h
  · have : R = X := hR.uniq (by
      rcases Nat.lt_or_ge X 1 with h1 | h1
      · obtain rfl : X = 0 := by omega
        exact ⟨by decide, by decide⟩
      · obtain rfl : X = 1 := by omega
        exact ⟨by decide, by decide⟩)
    subst this
    exact sqrt_small x R w hx hO (by omega)
  · obtain ⟨n, hn1⟩ : ∃ n, (digs X).length = n + 1 := ⟨(digs X).length - 1, by have := mt (digs_len_eq_zero (n := X)).1 (by omega); omega⟩
    unfold SqrtAt
    rw [hn1]
    exact sqrt_large T x X n R w hx hO h hn1 (by omega) hT (by omega) hR
set_option maxRecDepth 1000000 in
set_option maxHeartbeats 1600000 in
theorem ISqrt_any (zb xb R : Nat) (x : Loc) (Z X : Int) (w : World) (hz : IntV w zb nilL Z) (hx : IntV w xb x X) (hne : zb ≠ xb) (hX : 0 ≤ X) (hS : ∀ w', Upd (Blk zb) w w' → SqrtAt X.natAbs R w' x) :
    Calls Tryz.prog 65 #[.pointer (some ⟨zb, 0, none⟩), .pointer (some ⟨xb, 0, none⟩)] w fun e w' => e = .returned (.pointer (some ⟨zb, 0, none⟩)) ∧ IntOut w zb nilL (R : Int) w' := by
  have hxn : decide (X < 0) = false := decide_eq_false (by omega)
  have c1 := hz.neg.cell
  have c2 := hz.neg.frozen
  have c5 := hx.neg.cell
  rw [hxn] at c5
  have k1 : CellT 80 (w.setCell ⟨zb, 0, none⟩ (.bool false)) zb 0 (.bool false) := hz.neg.set _
  have k2 : CellT 80 (w.setCell ⟨zb, 0, none⟩ (.bool false)) zb 1 (.slice nilL.A (digs Z.natAbs).length nilL.c) := hz.abs.far _ (by omega)
  have k3 : CellT 80 (w.setCell ⟨zb, 0, none⟩ (.bool false)) xb 1 (.slice x.A (digs X.natAbs).length x.c) := hx.abs.far _ (by omega)
  have hZ : (digs Z.natAbs).length = 0 := by have := hz.nat.le; simp only at this; omega
  have u1 : Upd (Blk zb) w (w.setCell ⟨zb, 0, none⟩ (.bool false)) := (Upd.refl (Blk zb) w).setCell (fun _ => rfl) _
  have HS := Lib.hid (fun w' (u : Upd NoF (w.setCell ⟨zb, 0, none⟩ (.bool false)) w') => hS w' (u1.trans (u.mono (fun _ _ _ k => k.elim))))
  obtain ⟨w1, hw1⟩ : ∃ w1, w.setCell ⟨zb, 0, none⟩ (.bool false) = w1 := ⟨_, rfl⟩
  have HK := Lib.hid (And.intro k1 (And.intro k2 (And.intro k3 (And.intro u1 hx))))
  rw [hw1] at HS HK
  rw [hw1] at k1 k2 k3
  rw [hZ] at k2
  have d1 := k2.cell
  have d2 := k2.frozen
  have d3 := k3.cell
  clear hz hx hX hS hxn k1 k2 k3 u1
  go_enter Tryz.func65, Tryz.ntmps65
  go_upto_region 4 with fail
  clear hw1
  go_wp2_with fail
  refine wp_region_pre_open 1 9 4 (Array.replicate 9 true ++ Array.replicate 4 false) (by kernel_rfl) (by kernel_rfl) rfl ?_
  simp only [List.take_succ_cons, List.take_zero, List.drop_succ_cons, List.drop_zero]
  repeat (refine wpPure_step ?_ (fun _ _ _ h => h) (by rfl) (by intro _; go_simp; with_reducible rfl) ?_; (try simp only [Act.put, List.setIfInBounds_toArray, List.set_cons_zero, List.set_cons_succ]))
  refine wpPure_nil ?_
  repeat still_step
  refine wpStill_nil ?_
  refine wpAny_ready (rs := [9]) (by kernel_rfl) (by simp) ?_
  refine AllReady.cons rfl (fun K hK => ?_) AllReady.nil
  go_simp
  refine (HS.out _ ((Upd.refl NoF w1).drew)).mono ?_
  rintro e w2 ⟨r, rfl, h1, h2, h3⟩
  have u2 : Upd NoF w1 w2 := (Upd.refl NoF w1).drew.trans h2
  have g1 := HK.out.2.1.upd u2 (fun h => h)
  have g0 := HK.out.1.upd u2 (fun h => h)
  have e1 := g1.cell
  have e2 := g1.frozen
  have HM := Lib.hid (show IntOut w zb nilL (R : Int) (w2.setCell ⟨zb, 1, none⟩ (.slice r.A (digs R).length r.c)) from by
    have hsz := HK.out.2.2.2.1.size
    have hv : decide ((R : Int) < 0) = false := decide_eq_false (by omega)
    refine ⟨r, h1.elim (fun h => Or.inr (Or.inr h)) (fun h => Or.inr (Or.inl (by have h4 : w1.drew.heap.size = w1.heap.size := rfl; omega))), ?_, ⟨?_, ?_, ?_⟩⟩
    · exact (((HK.out.2.2.2.1.trans (u2.mono (fun _ _ _ k => k.elim))).setCell (fun _ => rfl) _)).mono (fun _ _ _ k => Or.inl k)
    · rw [hv]; exact g0.far _ (by omega)
    · exact g1.set _
    · exact h3.upd ((Upd.refl (Blk zb) w2).setCell (fun _ => rfl) _) (fun i hi k => (g1.neW (h3.at_ i hi) (by decide) k.symm)))
  clear h1 h2 h3 u2 g0 g1 d1 d2 d3
  go_wp2_with fail
  refine wpAny_take (i := 10) (v := ?_) rfl (by kernel_rfl) (by kernel_rfl) (by kernel_rfl) (fun _ _ _ h => h) (Or.inl ⟨by rfl, ?_⟩) ?_
  rotate_left
  · (intro w'; go_simp; try with_reducible rfl)
  simp only [Act.put, List.setIfInBounds_toArray, List.set_cons_zero, List.set_cons_succ]
  refine wpAny_take (i := 11) (v := ?_) rfl (by kernel_rfl) (by kernel_rfl) (by kernel_rfl) (fun _ _ _ h => h) (Or.inl ⟨by rfl, ?_⟩) ?_
  rotate_left
  · (intro w'; go_simp; try with_reducible rfl)
  simp only [Act.put, List.setIfInBounds_toArray, List.set_cons_zero, List.set_cons_succ]
  refine wpAny_ready (rs := [12]) (by kernel_rfl) (by simp) ?_
  refine AllReady.cons rfl (fun K hK => ?_) AllReady.nil
  go_simp
  go_wp2_with fail
  refine wpAny_done (by kernel_rfl) ?_ _
  go_wp2_with fail
  go_ret
  exact ⟨rfl, HM.out⟩
set_option maxRecDepth 1000000 in
theorem ISqrt_panic (zb xb : Nat) (x : Loc) (X : Int) (w : World) (hx : IntV w xb x X) (hX : X < 0) :
    Calls Tryz.prog 65 #[.pointer (some ⟨zb, 0, none⟩), .pointer (some ⟨xb, 0, none⟩)] w fun e w' => ∃ u pv, e = .panicked [{ v := .iface u pv, recovered := false }] ∧ w' = w := by
  have c5 := hx.neg.cell
  rw [decide_eq_true hX] at c5
  clear hx hX
  go_enter Tryz.func65, Tryz.ntmps65
  go_wp2
  exact ⟨rfl, _, _, rfl, rfl⟩
end Go.Proofs.YtefeijofhocnpaaGreatDoor
namespace Go.Proofs.YtefeijofhocnpaaGreatDoor
open Go.RowKit
set_option maxRecDepth 100000 in
theorem caught (p : Addr) (b : Value) (u : TypeId) (pv : Value) (older : List PanicEntry) (w : World) (hc : w.cell? p = some b) (hz : w.frozen? p = false) :
    CallsD Tryz.prog 84 #[.pointer (some p)] (.panicking ({ v := .iface u pv, recovered := false } :: older)) w fun e u' w' =>
      e = .returned (.tuple #[]) ∧ u' = .panicking ({ v := .iface u pv, recovered := true } :: older) ∧ w' = w.setCell p (.bool true) := by
  refine callsD_of_wpS Tryz.func84 rfl fun c₀ cs hu => ?_
  apply wpS_region
  simp [wpOpsS, go_sem, recoverD, hu, Tryz.ntmps84, hc, hz, bodyPostS, results, Tryz.results84]
set_option maxRecDepth 100000 in
theorem idle (p : Addr) (b : Value) (w : World) (hc : w.cell? p = some b) (hz : w.frozen? p = false) :
    CallsD Tryz.prog 84 #[.pointer (some p)] .returning w fun e u' w' => e = .returned (.tuple #[]) ∧ u' = .returning ∧ w' = w.setCell p (.bool false) := by
  refine callsD_of_wpS Tryz.func84 rfl fun c₀ cs hu => ?_
  apply wpS_region
  simp [wpOpsS, go_sem, recoverD, hu, Tryz.ntmps84, hc, hz, bodyPostS, results, Tryz.results84]
  cases c₀
  simp_all
theorem RdU.one {w : World} {g i : Nat} {v x : Value} {A : Option Addr} {xs : List Nat} (h : RdU w A xs) (c0 : w.cell? ⟨g, i, none⟩ = some v) (n1 : ∀ k, v ≠ .int .u64 k) : RdU (w.setCell ⟨g, i, none⟩ x) A xs := fun h0 => by
  obtain ⟨ad, rfl, hcell⟩ := h h0
  refine ⟨ad, rfl, fun j hj => ?_⟩
  have h1 := hcell j hj
  have h8 : (⟨g, i, none⟩ : Addr) ≠ ad.add j := fun e => by rw [← e, c0] at h1; exact n1 _ (Option.some.inj h1)
  rw [World.cell?_setCell_other _ _ _ _ h8]
  exact h1
def Gd (g : Nat) (w w' : World) : Prop := Upd (Blk g) w w' ∧ ∀ A xs, RdU w A xs → RdU w' A xs
theorem Gd.set {g : Nat} {w w' : World} {b x : Value} (h : Gd g w w') (c : w'.cell? ⟨g, 0, none⟩ = some b) (n : ∀ k, b ≠ .int .u64 k) : Gd g w (w'.setCell ⟨g, 0, none⟩ x) :=
  ⟨h.1.setCell (fun _ => rfl) _, fun A xs k => (h.2 A xs k).one c n⟩
theorem Gd.refl (g : Nat) (w : World) : Gd g w w := ⟨Upd.refl _ _, fun _ _ h => h⟩
@[reducible] def gW (w : World) : World := w.alloc (.cells #[.bool false] 4)
set_option maxRecDepth 100000 in
theorem guarded_ret (f : FuncId) (cap : Array Value) (w : World) (F : Nat → Nat → Prop) (Q : World → Prop) (hF : ¬ F w.heap.size 0) (hcf : ∀ w, (callFunc f cap).run Tryz.prog w = .ok (.enter f cap) w)
    (h : Calls Tryz.prog f cap (gW w) fun e w' => e = .returned (.tuple #[]) ∧ Upd F (gW w) w' ∧ Q w') :
    Calls Tryz.prog 56 #[.func (Fn.func f) #[] cap] w fun e w' => e = .returned (.bool false) ∧ ∃ w1, Q w1 ∧ Upd F (gW w) w1 ∧ Gd w.heap.size w1 w' := by
  have hmf : ∀ (fn : Fn) (first cap : Array Value) (w : World), (Instr.makeFunc fn first cap).run Tryz.prog w = .ok (.func fn first cap) w := fun _ _ _ _ => rfl
  go_enter_defers Tryz.func56, Tryz.ntmps56
  go_wp2_with fail
  refine h.mono ?_
  rintro e w1 ⟨rfl, hU, hQ⟩
  have cb : CellT 4 w1 w.heap.size 0 (.bool false) := CellT.upd ⟨_, heap_alloc_new w _, by simp⟩ hU hF
  have c1 := cb.cell
  have c2 := cb.frozen
  have d1 := (cb.set (.bool false)).cell
  have d2 := (cb.set (.bool false)).frozen
  have d3 := ((cb.set (.bool false)).set (.bool false)).cell
  have HQ := Lib.hid (And.intro hQ hU)
  clear hQ hU cb h
  go_wp2_with fail
  refine leaves_cons (f := 84) (args := #[.pointer (some ⟨w.heap.size, 0, none⟩)]) (by simp) (by simp [go_sem]) ?_
  refine (idle ⟨w.heap.size, 0, none⟩ _ _ d1 d2).mono ?_
  rintro e u' w2 ⟨rfl, rfl, rfl⟩
  refine ⟨.bool false, ?_, rfl, w1, HQ.out.1, HQ.out.2, ((Gd.refl _ _).set c1 (fun _ h => by cases h)).set d1 (fun _ h => by cases h)⟩
  simp [results, Tryz.results56, go_sem, d3]
set_option maxRecDepth 100000 in
theorem guarded_panic (f : FuncId) (cap : Array Value) (w : World) (F : Nat → Nat → Prop) (hF : ¬ F w.heap.size 0) (hcf : ∀ w, (callFunc f cap).run Tryz.prog w = .ok (.enter f cap) w)
    (h : Calls Tryz.prog f cap (gW w) fun e w' => ∃ u pv, e = .panicked [{ v := .iface u pv, recovered := false }] ∧ Upd F (gW w) w') :
    Calls Tryz.prog 56 #[.func (Fn.func f) #[] cap] w fun e w' => e = .returned (.bool true) ∧ ∃ w1, Upd F (gW w) w1 ∧ Gd w.heap.size w1 w' := by
  have hmf : ∀ (fn : Fn) (first cap : Array Value) (w : World), (Instr.makeFunc fn first cap).run Tryz.prog w = .ok (.func fn first cap) w := fun _ _ _ _ => rfl
  go_enter_defers Tryz.func56, Tryz.ntmps56
  go_wp2_with fail
  refine h.mono ?_
  rintro e w1 ⟨u, pv, rfl, hU⟩
  have cb : CellT 4 w1 w.heap.size 0 (.bool false) := CellT.upd ⟨_, heap_alloc_new w _, by simp⟩ hU hF
  have c1 := cb.cell
  have c2 := cb.frozen
  have d3 := (cb.set (.bool true)).cell
  have HQ := Lib.hid hU
  clear hU cb h
  go_wp2_with fail
  refine leaves_cons (f := 84) (args := #[.pointer (some ⟨w.heap.size, 0, none⟩)]) (by simp) (by simp [go_sem]) ?_
  refine (caught ⟨w.heap.size, 0, none⟩ _ u pv [] _ c1 c2).mono ?_
  rintro e u' w2 ⟨rfl, rfl, rfl⟩
  refine ⟨.bool true, ?_, rfl, w1, HQ.out, (Gd.refl _ _).set c1 (fun _ h => by cases h)⟩
  simp [results, Tryz.results56, go_sem, d3]
end Go.Proofs.YtefeijofhocnpaaGreatDoor
namespace Go.Proofs.YtefeijofhocnpaaGreatDoor
open Go.RowKit
set_option maxRecDepth 1000000 in
theorem answer_any (zb : Nat) (l : Loc) (V : Int) (w : World) (hI : IntV w zb l V) (hlen : (digs V.natAbs).length ≤ 1099511627776) :
    Calls Tryz.prog 95 #[.pointer (some ⟨zb, 0, none⟩)] w fun e w' => ∃ v, e = .returned (.tuple #[v, .int .i64 0]) ∧ NumI w' v V ∧ Upd NoF w w' := by
  have HT := Lib.hid (fun w' (u : Upd NoF w w') => told_num zb l V w' (hI.upd0 u) hlen)
  clear hI hlen
  go_enter Tryz.func95, Tryz.ntmps95
  go_wp2_with fail
  have h1 := heap_alloc_new w (.cells #[.bool false, .slice none 0 0] 33)
  have u1 : Upd NoF w (w.alloc (.cells #[.bool false, .slice none 0 0] 33)) := (Upd.refl NoF w).alloc _
  obtain ⟨g, hg⟩ : ∃ g, w.heap.size = g := ⟨_, rfl⟩
  obtain ⟨w1, hw1⟩ : ∃ w1, w.alloc (.cells #[.bool false, .slice none 0 0] 33) = w1 := ⟨_, rfl⟩
  rw [hg, hw1] at h1 ⊢
  rw [hw1] at u1
  refine (HT.out w1 u1).mono ?_
  rintro e w2 ⟨v, rfl, ⟨A, c, rfl, n1, n3⟩, u2⟩
  have k1 : CellT 33 w2 g 0 (.bool false) := CellT.upd ⟨_, h1, by simp⟩ u2 (fun h => h)
  have k2 : CellT 33 w2 g 1 (.slice none 0 0) := CellT.upd ⟨_, h1, by simp⟩ u2 (fun h => h)
  have c0 := k1.cell
  have f0 := k1.frozen
  have c1 := k2.cell
  have f1 := k2.frozen
  obtain ⟨s1, s2, s3⟩ := stored_pair (w := w) (x1 := .bool (decide (V < 0))) (x2 := .slice A (digs V.natAbs).length c) k1 k2 (u1.trans u2) (by omega)
  have s4 : RdU ((w2.setCell ⟨g, 0, none⟩ (.bool (decide (V < 0)))).setCell ⟨g, 1, none⟩ (.slice A (digs V.natAbs).length c)) A (digs V.natAbs) := n3.store k1 k2 (fun _ _ h => by cases h) (fun _ _ h => by cases h)
  have HE := Lib.hid (And.intro s1 (And.intro n1 s4))
  clear s1 n1 n3 s4 k1 k2 u2 u1 h1 hw1 hg
  go_wp2_with fail
  refine bodyPost_ret (v := .tuple #[.agg #[.bool (decide (V < 0)), .slice A (digs V.natAbs).length c], .int .i64 0]) (by simp [results, Tryz.results95, go_sem, s2, s3]) rfl ?_
  exact ⟨_, rfl, ⟨A, c, rfl, HE.out.2.1, HE.out.2.2⟩, HE.out.1⟩
def GivesInt (f : FuncId) (cap : Array Value) (V : Int) (w : World) : Prop := Calls Tryz.prog f cap w fun e w' => ∃ (zb : Nat) (l : Loc), e = .returned (.pointer (some ⟨zb, 0, none⟩)) ∧ IntV w' zb l V ∧ Upd NoF w w'
def Panics (f : FuncId) (cap : Array Value) (w : World) : Prop := Calls Tryz.prog f cap w fun e w' => ∃ u pv, e = .panicked [{ v := .iface u pv, recovered := false }] ∧ Upd NoF w w'
def Outs (ob cb : Nat) : Nat → Nat → Prop := fun b _ => b = ob ∨ b = cb
set_option maxRecDepth 1000000 in
theorem ans1_any (f : FuncId) (cap : Array Value) (fb ob cb : Nat) (V : Int) (w : World) (hcf : ∀ w, (callFunc f cap).run Tryz.prog w = .ok (.enter f cap) w) (hoc : ob ≠ cb) (hf : CellT 94 w fb 0 (.func (Fn.func f) #[] cap))
    (h0 : CellT 33 w ob 0 (.bool false)) (h1 : CellT 33 w ob 1 (.slice none 0 0)) (hc : CellT 3 w cb 0 (.int .i64 0)) (hlen : (digs V.natAbs).length ≤ 1099511627776) (h : GivesInt f cap V w) :
    Calls Tryz.prog 94 #[.pointer (some ⟨fb, 0, none⟩), .pointer (some ⟨ob, 0, none⟩), .pointer (some ⟨cb, 0, none⟩)] w fun e w' => e = .returned (.tuple #[]) ∧ Upd (Outs ob cb) w w' ∧
      ∃ (A : Option Addr) (c : Nat), CellT 33 w' ob 0 (.bool (decide (V < 0))) ∧ CellT 33 w' ob 1 (.slice A (digs V.natAbs).length c) ∧ CellT 3 w' cb 0 (.int .i64 0) ∧ (digs V.natAbs).length ≤ c ∧ RdU w' A (digs V.natAbs) := by
  have cf := hf.cell
  have ne1 : ¬ ob = cb := hoc
  have ne2 : ¬ cb = ob := fun h => hoc h.symm
  have HI := Lib.hid (And.intro h (And.intro h0 (And.intro h1 (And.intro hc hlen))))
  clear hf h0 h1 hc hlen h
  go_enter Tryz.func94, Tryz.ntmps94
  go_wp2_with fail
  refine HI.out.1.mono ?_
  rintro e w1 ⟨zb, l, rfl, h1, u1⟩
  have H1 := Lib.hid (And.intro h1 u1)
  clear h1 u1
  go_wp2_with fail
  refine (answer_any zb l V w1 H1.out.1 HI.out.2.2.2.2).mono ?_
  rintro e w2 ⟨v, rfl, ⟨A, c, rfl, n1, n3⟩, u2⟩
  have u2 := H1.out.2.trans u2
  have k1 := HI.out.2.1.upd u2 (fun h => h)
  have k2 := HI.out.2.2.1.upd u2 (fun h => h)
  have k3 := HI.out.2.2.2.1.upd u2 (fun h => h)
  have c0 := k1.cell
  have f0 := k1.frozen
  have c1 := k2.cell
  have f1 := k2.frozen
  have c2 := k3.cell
  have f2 := k3.frozen
  have HK := Lib.hid (And.intro k1 (And.intro k2 (And.intro k3 (And.intro n1 (And.intro n3 u2)))))
  clear k1 k2 k3 n1 n3 u2
  go_wp2_with fail
  refine ⟨rfl, _, results_none rfl _ _ _, rfl, ?_, A, c, ?_, ?_, ?_, HK.out.2.2.2.1, ?_⟩
  · exact (((HK.out.2.2.2.2.2.weak (G := Outs ob cb) (fun _ _ h => h.elim)).setCell (fun _ => Or.inl rfl) _).setCell (fun _ => Or.inl rfl) _).setCell (fun _ => Or.inr rfl) _
  · exact ((HK.out.1.set _).far _ (by omega)).far _ (by omega)
  · exact ((HK.out.2.1.far _ (by omega)).set _).far _ (by omega)
  · exact ((HK.out.2.2.1.far _ (by omega)).far _ (by omega)).set _
  · exact RdU.one (HK.out.2.2.2.2.1.store HK.out.1 HK.out.2.1 (fun _ _ h => by cases h) (fun _ _ h => by cases h)) ((HK.out.2.2.1.far _ (by omega)).far _ (by omega)).cell (fun _ h => by cases h)
set_option maxRecDepth 1000000 in
theorem ans1_panic (f : FuncId) (cap : Array Value) (fb ob cb : Nat) (w : World) (hcf : ∀ w, (callFunc f cap).run Tryz.prog w = .ok (.enter f cap) w) (hf : CellT 94 w fb 0 (.func (Fn.func f) #[] cap)) (h : Panics f cap w) :
    Calls Tryz.prog 94 #[.pointer (some ⟨fb, 0, none⟩), .pointer (some ⟨ob, 0, none⟩), .pointer (some ⟨cb, 0, none⟩)] w fun e w' => ∃ u pv, e = .panicked [{ v := .iface u pv, recovered := false }] ∧ Upd NoF w w' := by
  have cf := hf.cell
  have HI := Lib.hid h
  clear hf h
  go_enter Tryz.func94, Tryz.ntmps94
  go_wp2_with fail
  refine HI.out.mono ?_
  rintro e w1 ⟨u, pv, rfl, u1⟩
  go_wp2
  exact ⟨rfl, _, _, rfl, u1⟩
theorem enters_94 (cap : Array Value) (w : World) : (callFunc 94 cap).run Tryz.prog w = .ok (.enter 94 cap) w := by
  simp [callFunc, go_sem, Tryz.func94]
  rfl
structure BoxF (w w4 : World) (g : Nat) (fv : Value) : Prop where
  up : Upd NoF w w4
  size : w4.heap.size = g + 4
  f : CellT 94 w4 g 0 fv
  r0 : CellT 33 w4 (g + 1) 0 (.bool false)
  r1 : CellT 33 w4 (g + 1) 1 (.slice none 0 0)
  o0 : CellT 33 w4 (g + 2) 0 (.bool false)
  o1 : CellT 33 w4 (g + 2) 1 (.slice none 0 0)
  c : CellT 3 w4 (g + 3) 0 (.int .i64 0)
theorem BoxF.upd {w w4 : World} {g : Nat} {fv : Value} (h : BoxF w w4 g fv) (w5 : World) (u : Upd NoF w4 w5) (hs : w5.heap.size = g + 4) : BoxF w w5 g fv :=
  ⟨h.up.trans u, hs, h.f.upd u (fun h => h), h.r0.upd u (fun h => h), h.r1.upd u (fun h => h), h.o0.upd u (fun h => h), h.o1.upd u (fun h => h), h.c.upd u (fun h => h)⟩
theorem boxF (w : World) (fv : Value) : BoxF w ((((w.alloc (.cells #[fv] 94)).alloc (.cells #[.bool false, .slice none 0 0] 33)).alloc (.cells #[.bool false, .slice none 0 0] 33)).alloc (.cells #[.int .i64 0] 3)) w.heap.size fv := by
  obtain ⟨w1, hw1⟩ : ∃ w1, w.alloc (.cells #[fv] 94) = w1 := ⟨_, rfl⟩
  have h1 := heap_alloc_new w (.cells #[fv] 94)
  have s1 : w1.heap.size = w.heap.size + 1 := by rw [← hw1]; simp
  have u1 : Upd NoF w w1 := by rw [← hw1]; exact (Upd.refl NoF w).alloc _
  rw [hw1] at h1 ⊢
  obtain ⟨w2, hw2⟩ : ∃ w2, w1.alloc (.cells #[.bool false, .slice none 0 0] 33) = w2 := ⟨_, rfl⟩
  have h2 := heap_alloc_new w1 (.cells #[.bool false, .slice none 0 0] 33)
  have s2 : w2.heap.size = w.heap.size + 2 := by rw [← hw2]; simp [s1]
  have u2 : Upd NoF w1 w2 := by rw [← hw2]; exact (Upd.refl NoF w1).alloc _
  rw [hw2, s1] at h2
  rw [hw2]
  obtain ⟨w3, hw3⟩ : ∃ w3, w2.alloc (.cells #[.bool false, .slice none 0 0] 33) = w3 := ⟨_, rfl⟩
  have h3 := heap_alloc_new w2 (.cells #[.bool false, .slice none 0 0] 33)
  have s3 : w3.heap.size = w.heap.size + 3 := by rw [← hw3]; simp [s2]
  have u3 : Upd NoF w2 w3 := by rw [← hw3]; exact (Upd.refl NoF w2).alloc _
  rw [hw3, s2] at h3
  rw [hw3]
  have h4 := heap_alloc_new w3 (.cells #[.int .i64 0] 3)
  have u4 : Upd NoF w3 (w3.alloc (.cells #[.int .i64 0] 3)) := (Upd.refl NoF w3).alloc _
  rw [s3] at h4
  exact ⟨((u1.trans u2).trans u3).trans u4, by simp [s3], CellT.upd ⟨_, h1, by simp⟩ ((u2.trans u3).trans u4) (fun h => h), CellT.upd ⟨_, h2, by simp⟩ (u3.trans u4) (fun h => h), CellT.upd ⟨_, h2, by simp⟩ (u3.trans u4) (fun h => h),
    CellT.upd ⟨_, h3, by simp⟩ u4 (fun h => h), CellT.upd ⟨_, h3, by simp⟩ u4 (fun h => h), ⟨_, h4, by simp⟩⟩
set_option maxRecDepth 1000000 in
theorem answered_any (f : FuncId) (cap : Array Value) (V : Int) (w : World) (hcf : ∀ w, (callFunc f cap).run Tryz.prog w = .ok (.enter f cap) w) (hlen : (digs V.natAbs).length ≤ 1099511627776) (h : ∀ w', Upd NoF w w' → GivesInt f cap V w') :
    Calls Tryz.prog 63 #[.func (Fn.func f) #[] cap] w fun e w' => ∃ v, e = .returned (.tuple #[v, .int .i64 0]) ∧ NumI w' v V ∧ Upd NoF w w' := by
  have hmf : ∀ (fn : Fn) (first cap : Array Value) (w : World), (Instr.makeFunc fn first cap).run Tryz.prog w = .ok (.func fn first cap) w := fun _ _ _ _ => rfl
  have HH := Lib.hid (And.intro hcf (And.intro hlen h))
  clear hcf hlen h
  go_enter Tryz.func63, Tryz.ntmps63
  go_wp2_with fail
  have HB := Lib.hid (boxF w (.func (Fn.func f) #[] cap))
  obtain ⟨g, hg⟩ : ∃ g, w.heap.size = g := ⟨_, rfl⟩
  obtain ⟨w4, hw4⟩ : ∃ w4, ((((w.alloc (.cells #[.func (Fn.func f) #[] cap] 94)).alloc (.cells #[.bool false, .slice none 0 0] 33)).alloc (.cells #[.bool false, .slice none 0 0] 33)).alloc (.cells #[.int .i64 0] 3)) = w4 := ⟨_, rfl⟩
  rw [hg, hw4] at HB
  rw [hg, hw4]
  have hgs : w4.heap.size = g + 4 := HB.out.size
  have uG : Upd NoF w4 (gW w4) := (Upd.refl NoF w4).alloc _
  have HA := ans1_any f cap g (g + 2) (g + 3) V (gW w4) HH.out.1 (by omega) (HB.out.f.upd uG (fun h => h)) (HB.out.o0.upd uG (fun h => h)) (HB.out.o1.upd uG (fun h => h)) (HB.out.c.upd uG (fun h => h)) HH.out.2.1 (HH.out.2.2 _ (HB.out.up.trans uG))
  have HG := Lib.hid (guarded_ret 94 #[.pointer (some ⟨g, 0, none⟩), .pointer (some ⟨g + 2, 0, none⟩), .pointer (some ⟨g + 3, 0, none⟩)] w4 (Outs (g + 2) (g + 3)) _ (by rw [hgs]; rintro (h | h) <;> omega) (enters_94 _) HA)
  clear HA hw4
  refine HG.out.mono ?_
  rintro e w6 ⟨rfl, w5, ⟨A, c, q1, q2, q3, q4, q5⟩, u5, u6, u6r⟩
  rw [hgs] at u6
  have k1 := q1.upd u6 (fun h => by have : g + 2 = g + 4 := h; omega)
  have k2 := q2.upd u6 (fun h => by have : g + 2 = g + 4 := h; omega)
  have k3 := q3.upd u6 (fun h => by have : g + 3 = g + 4 := h; omega)
  have U6 : Upd NoF w w6 := HB.out.up.then ((uG.weak (G := fun b _ => g ≤ b) (fun _ _ h => h.elim)).trans ((u5.weak (G := fun b _ => g ≤ b) (fun b i h => by rcases h with rfl | rfl <;> omega)).trans (u6.weak (G := fun b _ => g ≤ b) (fun b i h => by have : b = g + 4 := h; omega)))) (fun _ _ _ h => h.elim) (fun b i hb h => by omega)
  have r6 := u6r A _ q5
  have k5 := (HB.out.r0.upd uG (fun h => h)).upd u5 (by rintro (h | h) <;> omega)
  have k6 := (HB.out.r1.upd uG (fun h => h)).upd u5 (by rintro (h | h) <;> omega)
  have k5 := k5.upd u6 (fun h => by have : g + 1 = g + 4 := h; omega)
  have k6 := k6.upd u6 (fun h => by have : g + 1 = g + 4 := h; omega)
  have c1 := k1.cell
  have c2 := k2.cell
  have c3 := k3.cell
  have d1 := k5.cell
  have d2 := k5.frozen
  have d3 := k6.cell
  have d4 := k6.frozen
  obtain ⟨s1, s2, s3⟩ := stored_pair (w := w) (x1 := .bool (decide (V < 0))) (x2 := .slice A (digs V.natAbs).length c) k5 k6 U6 (by omega)
  have s4 : RdU ((w6.setCell ⟨g + 1, 0, none⟩ (.bool (decide (V < 0)))).setCell ⟨g + 1, 1, none⟩ (.slice A (digs V.natAbs).length c)) A (digs V.natAbs) := r6.store k5 k6 (fun _ _ h => by cases h) (fun _ _ h => by cases h)
  have HE := Lib.hid (And.intro s1 (And.intro q4 s4))
  clear q1 q2 q3 q4 q5 u5 u6 u6r k1 k2 k3 k5 k6 U6 r6 s1 s4 uG
  go_wp2_with fail
  go_region
  all_goals
    go_wp2_with fail
    refine bodyPost_ret (v := .tuple #[.agg #[.bool (decide (V < 0)), .slice A (digs V.natAbs).length c], .int .i64 0]) (by simp [results, Tryz.results63, go_sem, s2, s3]) rfl ?_
    exact ⟨_, rfl, ⟨A, c, rfl, HE.out.2.1, HE.out.2.2.upd ((Upd.refl NoF _).drew)⟩, HE.out.1.drew⟩
set_option maxRecDepth 1000000 in
theorem answered_panic (f : FuncId) (cap : Array Value) (w : World) (hcf : ∀ w, (callFunc f cap).run Tryz.prog w = .ok (.enter f cap) w) (h : ∀ w', Upd NoF w w' → Panics f cap w') :
    Calls Tryz.prog 63 #[.func (Fn.func f) #[] cap] w fun e w' => e = .returned (.tuple #[.agg #[.bool false, .slice none 0 0], .int .i64 2]) ∧ Upd NoF w w' := by
  have hmf : ∀ (fn : Fn) (first cap : Array Value) (w : World), (Instr.makeFunc fn first cap).run Tryz.prog w = .ok (.func fn first cap) w := fun _ _ _ _ => rfl
  have HH := Lib.hid (And.intro hcf h)
  clear hcf h
  go_enter Tryz.func63, Tryz.ntmps63
  go_wp2_with fail
  have HB := Lib.hid (boxF w (.func (Fn.func f) #[] cap))
  obtain ⟨g, hg⟩ : ∃ g, w.heap.size = g := ⟨_, rfl⟩
  obtain ⟨w4, hw4⟩ : ∃ w4, ((((w.alloc (.cells #[.func (Fn.func f) #[] cap] 94)).alloc (.cells #[.bool false, .slice none 0 0] 33)).alloc (.cells #[.bool false, .slice none 0 0] 33)).alloc (.cells #[.int .i64 0] 3)) = w4 := ⟨_, rfl⟩
  rw [hg, hw4] at HB
  rw [hg, hw4]
  have hgs : w4.heap.size = g + 4 := HB.out.size
  have uG : Upd NoF w4 (gW w4) := (Upd.refl NoF w4).alloc _
  have HA := ans1_panic f cap g (g + 2) (g + 3) (gW w4) HH.out.1 (HB.out.f.upd uG (fun h => h)) (HH.out.2 _ (HB.out.up.trans uG))
  have HG := Lib.hid (guarded_panic 94 #[.pointer (some ⟨g, 0, none⟩), .pointer (some ⟨g + 2, 0, none⟩), .pointer (some ⟨g + 3, 0, none⟩)] w4 NoF (fun h => h) (enters_94 _) HA)
  clear HA hw4
  refine HG.out.mono ?_
  rintro e w6 ⟨rfl, w5, u5, u6, u6r⟩
  rw [hgs] at u6
  have U5 : Upd NoF w4 w5 := uG.trans u5
  have U6 : Upd NoF w w6 := (HB.out.up.trans U5).then u6 (fun _ _ _ h => h) (fun b i hb h => by have : b = g + 4 := h; omega)
  have k5 := (HB.out.r0.upd U5 (fun h => h)).upd u6 (fun h => by have : g + 1 = g + 4 := h; omega)
  have k6 := (HB.out.r1.upd U5 (fun h => h)).upd u6 (fun h => by have : g + 1 = g + 4 := h; omega)
  have d1 := k5.cell
  have d2 := k5.frozen
  have d3 := k6.cell
  have d4 := k6.frozen
  obtain ⟨s1, s2, s3⟩ := stored_pair (w := w) (x1 := .bool false) (x2 := .slice none 0 0) k5 k6 U6 (by omega)
  have HE := Lib.hid s1
  clear u5 u6 u6r U5 U6 k5 k6 s1 uG
  go_wp2_with fail
  refine bodyPost_ret (v := .tuple #[.agg #[.bool false, .slice none 0 0], .int .i64 2]) (by simp [results, Tryz.results63, go_sem, s2, s3]) rfl ?_
  exact ⟨rfl, HE.out⟩
end Go.Proofs.YtefeijofhocnpaaGreatDoor
namespace Go.Proofs.YtefeijofhocnpaaGreatDoor
open Go.RowKit
theorem NatOne.upd {w w' : World} (h : NatOne w) (u : Upd NoF w w') : NatOne w' := by
  obtain ⟨lo, h1, h2⟩ := h
  exact ⟨lo, h1.upd u (fun h => h), h2.upd u (fun _ _ h => h)⟩
theorem enters_64 (cap : Array Value) (w : World) : (callFunc 64 cap).run Tryz.prog w = .ok (.enter 64 cap) w := by
  simp [callFunc, go_sem, Tryz.func64]
  rfl
set_option maxRecDepth 1000000 in
theorem sq1_any (T : Int) (xb : Nat) (s : Bool) (A : Option Addr) (n c R : Nat) (V : Int) (w : World) (h0 : CellT 33 w xb 0 (.bool s)) (h1 : CellT 33 w xb 1 (.slice A n c)) (hN : NumR w (.agg #[.bool s, .slice A n c]) n V) (hV : 0 ≤ V) (hR : IsRoot V.natAbs R)
    (hO : NatOne w) (hT : DThr w T) (hn : n ≤ 1000) (hT2 : ((n / 2 + 2 : Nat) : Int) < T) : GivesInt 64 #[.pointer (some ⟨xb, 0, none⟩)] (R : Int) w := by
  have hlen := hN.len
  have c0 : (w.alloc (.cells #[.bool false, .slice none 0 0] 80)).cell? ⟨xb, 0, none⟩ = some (.bool s) := (h0.upd ((Upd.refl NoF w).alloc _) (fun h => h)).cell
  have c1 : (w.alloc (.cells #[.bool false, .slice none 0 0] 80)).cell? ⟨xb, 1, none⟩ = some (.slice A n c) := (h1.upd ((Upd.refl NoF w).alloc _) (fun h => h)).cell
  have H := Lib.hid (And.intro hN (And.intro hV (And.intro hR (And.intro hO (And.intro hT hlen)))))
  clear h0 h1 hN hV hR hO hT
  unfold GivesInt
  go_enter Tryz.func64, Tryz.ntmps64
  go_wp2_with fail
  have h2 := (Ints.nil w).new
  obtain ⟨g, hg⟩ : ∃ g, w.heap.size = g := ⟨_, rfl⟩
  obtain ⟨w1, hw1⟩ : ∃ w1, w.alloc (.cells #[.bool false, .slice none 0 0] 80) = w1 := ⟨_, rfl⟩
  have hs : w1.heap.size = g + 1 := by rw [← hw1, ← hg]; simp
  rw [hg, hw1] at h2 ⊢
  refine (of_num _ n V w1 (H.out.1.upd h2.up) (by omega)).mono ?_
  rintro e w2 ⟨ib, lx, rfl, k1, k2, k3, k4⟩
  have I2 := h2.cons k4 k3 k1 (by rcases Nat.eq_zero_or_pos lx.c with h | h; · exact Or.inl h
                                  · exact Or.inr (k2 h))
  have HI := Lib.hid I2
  have HS := Lib.hid (ISqrt_any g ib R lx 0 V w2 (I2.at_ 1 _ _ _ rfl) (I2.at_ 0 _ _ _ rfl) (by omega) H.out.2.1 (fun w' u => by
    have uN : Upd NoF w w' := I2.up.then u (fun _ _ _ h => h) (fun b i hb h => by have : b = g := h; omega)
    have hx := (I2.at_ 0 _ _ _ rfl).nat.upd u (fun i hi (h : lx.b = g) => (I2.at_ 1 _ _ _ rfl).neg.neW ((I2.at_ 0 _ _ _ rfl).nat.at_ i hi) (by decide) h.symm)
    exact sqrtAt_any T lx _ R w' hx (H.out.2.2.2.1.upd uN) (by have := H.out.2.2.2.2.2; omega) (H.out.2.2.2.2.1.upd uN (fun _ h => h)) (by have := H.out.2.2.2.2.2; omega) H.out.2.2.1))
  clear h2 k1 k2 k3 k4 hs hw1 I2
  go_wp2_with fail
  refine HS.out.mono ?_
  rintro e w3 ⟨rfl, ho⟩
  obtain ⟨r, h3⟩ := HI.out.out (i := 1) rfl ho
  have H3 := Lib.hid (And.intro (h3.at_ 1 _ _ _ rfl) h3.up)
  clear h3 ho
  go_wp2_with fail
  go_ret
  exact ⟨g, r, rfl, H3.out⟩
set_option maxRecDepth 1000000 in
theorem sq1_panic (xb : Nat) (s : Bool) (A : Option Addr) (n c : Nat) (V : Int) (w : World) (h0 : CellT 33 w xb 0 (.bool s)) (h1 : CellT 33 w xb 1 (.slice A n c)) (hN : NumR w (.agg #[.bool s, .slice A n c]) n V) (hV : V < 0) (hn : n ≤ 1000) :
    Panics 64 #[.pointer (some ⟨xb, 0, none⟩)] w := by
  have c0 : (w.alloc (.cells #[.bool false, .slice none 0 0] 80)).cell? ⟨xb, 0, none⟩ = some (.bool s) := (h0.upd ((Upd.refl NoF w).alloc _) (fun h => h)).cell
  have c1 : (w.alloc (.cells #[.bool false, .slice none 0 0] 80)).cell? ⟨xb, 1, none⟩ = some (.slice A n c) := (h1.upd ((Upd.refl NoF w).alloc _) (fun h => h)).cell
  have H := Lib.hid (And.intro hN hV)
  clear h0 h1 hN hV
  unfold Panics
  go_enter Tryz.func64, Tryz.ntmps64
  go_wp2_with fail
  obtain ⟨g, hg⟩ : ∃ g, w.heap.size = g := ⟨_, rfl⟩
  have u1 : Upd NoF w (w.alloc (.cells #[.bool false, .slice none 0 0] 80)) := (Upd.refl NoF w).alloc _
  obtain ⟨w1, hw1⟩ : ∃ w1, w.alloc (.cells #[.bool false, .slice none 0 0] 80) = w1 := ⟨_, rfl⟩
  rw [hw1] at u1
  rw [hg, hw1]
  refine (of_num _ n V w1 (H.out.1.upd u1) (by omega)).mono ?_
  rintro e w2 ⟨ib, lx, rfl, k1, k2, k3, k4⟩
  have HU := Lib.hid (u1.trans k4)
  have HS := Lib.hid (ISqrt_panic g ib lx V w2 k3 H.out.2)
  clear k1 k2 k3 k4 u1 hw1
  go_wp2_with fail
  refine HS.out.mono ?_
  rintro e w3 ⟨u, pv, rfl, rfl⟩
  go_wp2
  exact ⟨rfl, _, _, rfl, HU.out⟩
set_option maxRecDepth 1000000 in
theorem implSqrt_any (T : Int) (v : Value) (n R : Nat) (V : Int) (w : World) (hN : NumR w v n V) (hV : 0 ≤ V) (hR : IsRoot V.natAbs R) (hO : NatOne w) (hT : DThr w T) (hn : n ≤ 1000) (hT2 : ((n / 2 + 2 : Nat) : Int) < T) :
    Calls Tryz.prog 33 #[v] w fun e w' => ∃ v', e = .returned (.tuple #[v', .int .i64 0]) ∧ NumI w' v' (R : Int) ∧ Upd NoF w w' := by
  have hmf : ∀ (fn : Fn) (first cap : Array Value) (w : World), (Instr.makeFunc fn first cap).run Tryz.prog w = .ok (.func fn first cap) w := fun _ _ _ _ => rfl
  have hRl : (digs ((R : Nat) : Int).natAbs).length ≤ 1099511627776 := by
    have := digs_len_mono (show R ≤ V.natAbs from hR.le)
    have := hN.len
    rw [Int.natAbs_natCast]; omega
  obtain ⟨s, A, c, xs, rfl, hN2⟩ := id hN
  have H := Lib.hid (fun w' xb h0 h1 (u : Upd NoF w w') => sq1_any T xb s A n c R V w' h0 h1 (hN.upd u) hV hR (hO.upd u) (hT.upd u (fun _ h => h)) hn hT2)
  clear hN hN2 hO hT hT2 hV hR
  go_enter Tryz.func33, Tryz.ntmps33
  go_wp2_with fail
  have h1 := heap_alloc_new w (.cells #[.bool s, .slice A n c] 33)
  obtain ⟨g, hg⟩ : ∃ g, w.heap.size = g := ⟨_, rfl⟩
  obtain ⟨w1, hw1⟩ : ∃ w1, w.alloc (.cells #[.bool s, .slice A n c] 33) = w1 := ⟨_, rfl⟩
  have u1 : Upd NoF w w1 := by rw [← hw1]; exact (Upd.refl NoF w).alloc _
  have s1 : w1.heap.size = g + 1 := by rw [← hw1, ← hg]; simp
  have h2 := heap_alloc_new w1 (.cells #[.bool false, .slice none 0 0] 33)
  rw [hg, hw1] at h1
  obtain ⟨w2, hw2⟩ : ∃ w2, w1.alloc (.cells #[.bool false, .slice none 0 0] 33) = w2 := ⟨_, rfl⟩
  have u2 : Upd NoF w1 w2 := by rw [← hw2]; exact (Upd.refl NoF w1).alloc _
  rw [hw2, s1] at h2
  rw [hg, hw1, hw2]
  have b0 : CellT 33 w2 g 0 (.bool s) := CellT.upd ⟨_, h1, by simp⟩ u2 (fun h => h)
  have b1 : CellT 33 w2 g 1 (.slice A n c) := CellT.upd ⟨_, h1, by simp⟩ u2 (fun h => h)
  have e0 : CellT 33 w2 (g + 1) 0 (.bool false) := ⟨_, h2, by simp⟩
  have e1 : CellT 33 w2 (g + 1) 1 (.slice none 0 0) := ⟨_, h2, by simp⟩
  have HA := Lib.hid (answered_any 64 #[.pointer (some ⟨g, 0, none⟩)] (R : Int) w2 (enters_64 _) hRl (fun w' u => H.out w' g (b0.upd u (fun h => h)) (b1.upd u (fun h => h)) ((u1.trans u2).trans u)))
  have HU := Lib.hid (And.intro (u1.trans u2) (And.intro e0 e1))
  clear h1 h2 hw1 hw2 u1 u2 b0 b1 e0 e1 s1
  refine HA.out.mono ?_
  rintro e w3 ⟨v', rfl, ⟨A', c', rfl, n1, n3⟩, u3⟩
  have k1 := HU.out.2.1.upd u3 (fun h => h)
  have k2 := HU.out.2.2.upd u3 (fun h => h)
  have d0 := k1.cell
  have f0 := k1.frozen
  have d1 := k2.cell
  have f1 := k2.frozen
  obtain ⟨s1, s2, s3⟩ := stored_pair (w := w) (x1 := .bool (decide (((R : Nat) : Int) < 0))) (x2 := .slice A' (digs ((R : Nat) : Int).natAbs).length c') k1 k2 (HU.out.1.trans u3) (by omega)
  have s4 : RdU ((w3.setCell ⟨g + 1, 0, none⟩ (.bool (decide (((R : Nat) : Int) < 0)))).setCell ⟨g + 1, 1, none⟩ (.slice A' (digs ((R : Nat) : Int).natAbs).length c')) A' (digs ((R : Nat) : Int).natAbs) := n3.store k1 k2 (fun _ _ h => by cases h) (fun _ _ h => by cases h)
  have HE := Lib.hid (And.intro s1 (And.intro n1 s4))
  obtain ⟨V', hV'⟩ : ∃ V' : Int, ((R : Nat) : Int) = V' := ⟨_, rfl⟩
  rw [hV'] at HE s2 s3 ⊢
  have HV := Lib.hid hV'
  clear s1 n1 n3 s4 k1 k2 u3 hV' hRl
  go_wp2_with fail
  refine bodyPost_ret (v := .tuple #[.agg #[.bool (decide (V' < 0)), .slice A' (digs V'.natAbs).length c'], .int .i64 0]) (by simp [results, Tryz.results33, go_sem, s2, s3]) rfl ?_
  rw [HV.out]
  exact ⟨_, rfl, ⟨A', c', rfl, HE.out.2.1, HE.out.2.2⟩, HE.out.1⟩
set_option maxRecDepth 1000000 in
theorem implSqrt_neg (v : Value) (n : Nat) (V : Int) (w : World) (hN : NumR w v n V) (hV : V < 0) (hn : n ≤ 1000) :
    Calls Tryz.prog 33 #[v] w fun e w' => ∃ s A c, e = .returned (.tuple #[.agg #[.bool s, .slice A 0 c], .int .i64 2]) ∧ Upd NoF w w' := by
  have hmf : ∀ (fn : Fn) (first cap : Array Value) (w : World), (Instr.makeFunc fn first cap).run Tryz.prog w = .ok (.func fn first cap) w := fun _ _ _ _ => rfl
  obtain ⟨s, A, c, xs, rfl, hN2⟩ := id hN
  have H := Lib.hid (fun w' xb h0 h1 (u : Upd NoF w w') => sq1_panic xb s A n c V w' h0 h1 (hN.upd u) hV hn)
  clear hN hN2 hV
  go_enter Tryz.func33, Tryz.ntmps33
  go_wp2_with fail
  have h1 := heap_alloc_new w (.cells #[.bool s, .slice A n c] 33)
  obtain ⟨g, hg⟩ : ∃ g, w.heap.size = g := ⟨_, rfl⟩
  obtain ⟨w1, hw1⟩ : ∃ w1, w.alloc (.cells #[.bool s, .slice A n c] 33) = w1 := ⟨_, rfl⟩
  have u1 : Upd NoF w w1 := by rw [← hw1]; exact (Upd.refl NoF w).alloc _
  have s1 : w1.heap.size = g + 1 := by rw [← hw1, ← hg]; simp
  have h2 := heap_alloc_new w1 (.cells #[.bool false, .slice none 0 0] 33)
  rw [hg, hw1] at h1
  obtain ⟨w2, hw2⟩ : ∃ w2, w1.alloc (.cells #[.bool false, .slice none 0 0] 33) = w2 := ⟨_, rfl⟩
  have u2 : Upd NoF w1 w2 := by rw [← hw2]; exact (Upd.refl NoF w1).alloc _
  rw [hw2, s1] at h2
  rw [hg, hw1, hw2]
  have b0 : CellT 33 w2 g 0 (.bool s) := CellT.upd ⟨_, h1, by simp⟩ u2 (fun h => h)
  have b1 : CellT 33 w2 g 1 (.slice A n c) := CellT.upd ⟨_, h1, by simp⟩ u2 (fun h => h)
  have e0 : CellT 33 w2 (g + 1) 0 (.bool false) := ⟨_, h2, by simp⟩
  have e1 : CellT 33 w2 (g + 1) 1 (.slice none 0 0) := ⟨_, h2, by simp⟩
  have HA := Lib.hid (answered_panic 64 #[.pointer (some ⟨g, 0, none⟩)] w2 (enters_64 _) (fun w' u => H.out w' g (b0.upd u (fun h => h)) (b1.upd u (fun h => h)) ((u1.trans u2).trans u)))
  have HU := Lib.hid (And.intro (u1.trans u2) (And.intro e0 e1))
  clear h1 h2 hw1 hw2 u1 u2 b0 b1 e0 e1 s1
  refine HA.out.mono ?_
  rintro e w3 ⟨rfl, u3⟩
  have k1 := HU.out.2.1.upd u3 (fun h => h)
  have k2 := HU.out.2.2.upd u3 (fun h => h)
  have d0 := k1.cell
  have f0 := k1.frozen
  have d1 := k2.cell
  have f1 := k2.frozen
  obtain ⟨s1, s2, s3⟩ := stored_pair (w := w) (x1 := .bool false) (x2 := .slice none 0 0) k1 k2 (HU.out.1.trans u3) (by omega)
  have HE := Lib.hid s1
  clear s1 k1 k2 u3
  go_wp2_with fail
  refine bodyPost_ret (v := .tuple #[.agg #[.bool false, .slice none 0 0], .int .i64 2]) (by simp [results, Tryz.results33, go_sem, s2, s3]) rfl ?_
  exact ⟨_, _, _, rfl, HE.out⟩
end Go.Proofs.YtefeijofhocnpaaGreatDoor
