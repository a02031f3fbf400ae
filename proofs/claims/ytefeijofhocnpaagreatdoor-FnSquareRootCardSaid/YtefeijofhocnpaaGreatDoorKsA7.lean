/- For the claim of laws.FnSquareRoot: MulK, MulK0, IntMul, IntMulK. -/
import Derived.Test.YtefeijofhocnpaaGreatDoorKsA6
import Derived.StillTailTactics
import Derived.BigRegion
set_option linter.unusedVariables false
set_option linter.unusedSimpArgs false
namespace Go.Proofs.YtefeijofhocnpaaGreatDoor
open Go.RowKit
theorem mul_pre {T : Int} {w w1 : World} {x y z z' : Loc} {xs ys : List Nat} {b o c m n sb ns : Nat} {J : SI} (vx : VecV w x xs) (vy : VecV w y ys) (hax : Apart z' x) (hay : Apart z' y) (hzz : z' = z ∨ z'.c = 0)
    (hF : From w z' (Loc.mk1 b o c) (m + n)) (u1 : Upd NoF w w1) (hO : (Loc.mk1 b o c).Ok w1) (hT : Thr w T) (hS : StkV w sb ns J) (oz : Off J sb ns z) (ox : Off J sb ns x) (oy : Off J sb ns y) (hc : m + n ≤ c) :
    MidS w1.drew x y (Loc.mk1 b o c) m n sb ns J ∧ VecV w1.drew x xs ∧ VecV w1.drew y ys ∧ (Loc.mk1 b o c).Ok w1.drew ∧ Thr w1.drew T ∧ StkV w1.drew sb ns J := by
  have u1' : Upd NoF w w1.drew := u1.drew
  have oz' : Off J sb ns z' := by
    rcases hzz with rfl | h
    · exact oz
    · intro i hi; omega
  refine ⟨⟨hc, ?_, ?_, ox, oy, ?_, ?_, ?_, ?_⟩, vx.upd0 u1', vy.upd0 u1', hO.upd ((Upd.refl NoF w1).drew), hT.upd u1' (fun _ h => h), hS.upd0 u1'⟩
  · rcases hF with ⟨h1, h2⟩ | ⟨h1, h2, h3⟩
    · rw [h2]; exact hax
    · by_cases h0 : x.c = 0
      · exact Or.inr (Or.inl h0)
      · have := vx.ok.lt (by omega)
        simp only at h2
        exact Or.inr (Or.inr (Or.inl (by simp only; omega)))
  · rcases hF with ⟨h1, h2⟩ | ⟨h1, h2, h3⟩
    · rw [h2]; exact hay
    · by_cases h0 : y.c = 0
      · exact Or.inr (Or.inl h0)
      · have := vy.ok.lt (by omega)
        simp only at h2
        exact Or.inr (Or.inr (Or.inl (by simp only; omega)))
  · rcases hF with ⟨h1, h2⟩ | ⟨h1, h2, h3⟩
    · rw [h2]; exact oz'
    · exact Off.new hS h2
  · exact fun h => (vx.upd0 u1').ok.lt h
  · exact fun h => (vy.upd0 u1').ok.lt h
  · exact fun h => (hO.upd ((Upd.refl NoF w1).drew)).lt h
theorem loop_addTo {T : Int} {w1 w : World} {x y z1 t : Loc} {xs ys zs ps : List Nat} {m n k sb ns n' N : Nat} {J J' : SI} (S : MidS w1 x y z1 m n sb ns J) (L : LoopI T w1 w x y z1 t xs ys zs m n k sb ns n' J J') (ht : TJ w1 t sb ns J)
    (lx : xs.length = m) (ly : ys.length = n) (hk : k < m) (hm : m + n ≤ 1099511627776) (hp : ps.length ≤ min (k + n) m - k + n) (hR : U64 w t.b t.o ps) (hD : Digs B64 ps) (hv : val B64 ps = N) (hc : ps.length ≤ t.c)
    (hN : N = val B64 ((xs.drop k).take (min (k + n) m - k)) * val B64 ys) :
    Calls Tryz.prog 121 #[.slice (some ⟨z1.b, z1.o + k, none⟩) (m + n - k) (z1.c - k), .slice t.A (digs N).length t.c] w fun e w' =>
      ∃ zs', e = .returned (.tuple #[]) ∧ LoopI T w1 w' x y z1 t xs ys zs' m n (k + n) sb ns n' J J' := by
  have hz := S.hk
  have hlen : (digs N).length ≤ ps.length := by rw [← hv]; exact digs_len_le hD
  have hu : U64 w t.b t.o (digs N) := by rw [← hv, digs_eq_take hD]; exact hR.take _
  have hap := ht.apart S.oz S.bz
  refine (addTo_any z1.b (z1.o + k) (m + n - k) (z1.c - k) (digs N).length t.c t.b t.o t.A (zs.drop k) (digs N) w (by rw [List.length_drop, L.mid.lz]) rfl (by omega) (by omega) (by omega) (by omega) (by omega) (fun h => (L.tok.2 (by omega)).1)
    (L.mid.uz.drop k) hu (L.mid.dz.drop k) (digs_digs N) (by unfold Apart at hap; unfold UpOk; omega)).mono ?_
  rintro e w' ⟨c, rs, rfl, h1, h2, h3, h4, h5⟩
  rw [val_digs] at h5
  exact ⟨_, rfl, L.add S lx ly hk h1 h2 h3 h4 hN h5⟩
set_option maxRecDepth 1000000 in
set_option maxHeartbeats 1600000 in
theorem mul_gt (T : Int) (m n : Nat) (hn : 2 ≤ n) (hnm : n < m) (hTn : ¬ (n : Int) < T) (HK : KaraSpec T n) (IH : ∀ m' n', m' + n' < m + n → MulSpec T m' n') : MulSpec T m n := by
  intro z x y nz sb ns J xs ys w hz hx hy lx ly rx ry hT hS oz ox oy hG
  have hm : m + n ≤ 1099511627776 := by have := G_le (m + n); omega
  have q2 : decide (m < n) = false := decide_eq_false (by omega)
  have q4 : ((m : Int) == 0) = false := beq_eq_false_iff_ne.2 (by omega)
  have q5 : ((n : Int) == 0) = false := beq_eq_false_iff_ne.2 (by omega)
  have q6 : ((n : Int) == 1) = false := beq_eq_false_iff_ne.2 (by omega)
  have exA := hx.addr (by omega)
  have eyA := hy.addr (by omega)
  obtain ⟨xA, xc, xb, xo⟩ := x
  obtain ⟨yA, yc, yb, yo⟩ := y
  simp only at exA eyA
  subst exA
  subst eyA
  have HA := Lib.hid (alias_any z ⟨some ⟨xb, xo, none⟩, xc, xb, xo⟩ nz m w hz hx.ok)
  have HA2 := Lib.hid (fun q => alias_any z ⟨some ⟨yb, yo, none⟩, yc, yb, yo⟩ nz n (w.drewN q) (hz.upd ((Upd.refl NoF w).drewN q)) (hy.ok.upd ((Upd.refl NoF w).drewN q)))
  have HX := Lib.hid (And.intro hx (And.intro hy (And.intro lx ly)))
  have HI := Lib.hid (And.intro HK IH)
  clear lx ly hx hy HK IH
  have HS := Lib.hid (And.intro hS (And.intro oz (And.intro ox (And.intro oy hT))))
  have HG := Lib.hid hG
  clear hS oz ox oy hG
  go_enter_defers Tryz.func92, Tryz.ntmps92
  go_upto_region 9 with fail
  go_cut [51] from 13 to 120 (fun s51 wx => s51 = .bool (aliasB z ⟨some ⟨xb, xo, none⟩, xc, xb, xo⟩ || aliasB z ⟨some ⟨yb, yo, none⟩, yc, yb, yo⟩) ∧ ∃ q : Nat, wx = w.drewN q)
  case first =>
    by_cases hal : aliasB z ⟨some ⟨xb, xo, none⟩, xc, xb, xo⟩ = true
    · have HF := Lib.hid hal
      rw [hal] at HA
      clear hal
      go_wp2_with fail
      refine HA.out.mono ?_
      rintro e w1 ⟨rfl, q, rfl⟩
      go_wp2_with fail
      go_meet
      case rel => exact ⟨by rw [HF.out]; rfl, q, rfl⟩
    · have hal0 : aliasB z ⟨some ⟨xb, xo, none⟩, xc, xb, xo⟩ = false := by simpa using hal
      rw [hal0] at HA
      have HF := Lib.hid hal0
      clear hal hal0
      go_wp2_with fail
      refine HA.out.mono ?_
      rintro e w1 ⟨rfl, q, rfl⟩
      go_wp2_with fail
      refine (HA2.out q).mono ?_
      rintro e w1 ⟨rfl, q', rfl⟩
      go_wp2_with fail
      go_meet
      case rel => exact ⟨by rw [HF.out]; rfl, q + q', rfl⟩
  case rest =>
    obtain ⟨rfl, q, rfl⟩ := hcut
    clear HA HA2
    go_upto_if 51 with fail
    go_cut [0] from 13 to 120 (fun s0 wx => (∃ nz' : Nat, s0 = .slice (free2 z ⟨some ⟨xb, xo, none⟩, xc, xb, xo⟩ ⟨some ⟨yb, yo, none⟩, yc, yb, yo⟩).A nz' (free2 z ⟨some ⟨xb, xo, none⟩, xc, xb, xo⟩ ⟨some ⟨yb, yo, none⟩, yc, yb, yo⟩).c) ∧ wx = w.drewN q)
    case first =>
      by_cases hal : (aliasB z ⟨some ⟨xb, xo, none⟩, xc, xb, xo⟩ || aliasB z ⟨some ⟨yb, yo, none⟩, yc, yb, yo⟩) = true
      · have HF := Lib.hid hal
        rw [hal]
        clear hal
        go_wp2_with fail
        go_meet
        case rel => exact ⟨⟨0, by unfold free2; rw [HF.out]; rfl⟩, rfl⟩
      · have hal0 : (aliasB z ⟨some ⟨xb, xo, none⟩, xc, xb, xo⟩ || aliasB z ⟨some ⟨yb, yo, none⟩, yc, yb, yo⟩) = false := by simpa using hal
        have HF := Lib.hid hal0
        rw [hal0]
        clear hal hal0
        go_wp2_with fail
        go_meet
        case rel => exact ⟨⟨nz, by unfold free2; rw [HF.out]; rfl⟩, rfl⟩
    case rest =>
      obtain ⟨⟨nz', rfl⟩, rfl⟩ := hcut
      obtain ⟨z', ez⟩ : ∃ z', free2 z ⟨some ⟨xb, xo, none⟩, xc, xb, xo⟩ ⟨some ⟨yb, yo, none⟩, yc, yb, yo⟩ = z' := ⟨_, rfl⟩
      have hz' : z'.Ok (w.drewN q) := by rw [← ez]; exact (free2_Ok hz).upd ((Upd.refl NoF w).drewN q)
      have hzz : z' = z ∨ z'.c = 0 := by rw [← ez]; exact free2_zero z ⟨some ⟨xb, xo, none⟩, xc, xb, xo⟩ ⟨some ⟨yb, yo, none⟩, yc, yb, yo⟩
      have hax : Apart z' ⟨some ⟨xb, xo, none⟩, xc, xb, xo⟩ := by rw [← ez]; exact free2_x rx
      have hay : Apart z' ⟨some ⟨yb, yo, none⟩, yc, yb, yo⟩ := by rw [← ez]; exact free2_y ry
      have hre : Apart z ⟨some ⟨xb, xo, none⟩, xc, xb, xo⟩ ∧ Apart z ⟨some ⟨yb, yo, none⟩, yc, yb, yo⟩ ∧ m + n ≤ z.c → z' = z ∧ m + n ≤ z.c := fun h => ⟨by rw [← ez]; exact free2_self h.1 h.2.1, h.2.2⟩
      rw [ez]
      have hu0 : Upd NoF w (w.drewN q) := (Upd.refl NoF w).drewN q
      have HZ := Lib.hid (And.intro hzz (And.intro hax (And.intro hay hre)))
      clear ez hzz hax hay hre rx ry hz
      go_wp2_with fail
      refine (make_pos z' nz' (m + n) _ _ hz' (by omega) (by omega) hm).mono ?_
      rintro e w1 ⟨b, o, c, rfl, hF, hO, hc, hU⟩
      have u1 : Upd NoF w w1 := hu0.trans hU
      have c9 := (hT.upd u1 (fun _ h => h)).cell
      have hF' : From w z' (Loc.mk1 b o c) (m + n) := hF
      have HF := Lib.hid (And.intro hF' (And.intro u1 hO))
      have hc63 := hO.1
      have p1 : (2 : Int) * (n : Int) ≤ (c : Int) := by omega
      have p2 : (n : Int) ≤ (xc : Int) := by have : xs.length ≤ xc := HX.out.1.le; have := HX.out.2.2.1; omega
      clear hF hF' hO hU u1 hu0 hz'
      have HP := Lib.hid (mul_pre (T := T) (J := J) HX.out.1 HX.out.2.1 HZ.out.2.1 HZ.out.2.2.1 HZ.out.1 HF.out.1 HF.out.2.1 HF.out.2.2 hT HS.out.1 HS.out.2.1 HS.out.2.2.1 HS.out.2.2.2.1 hc)
      clear hT
      have e1 : IntKind.i64.wrap ((2 : Int) * (n : Int)) = (2 : Int) * (n : Int) := by rw [IntKind.wrap_i64]; omega
      have e2 : (0 : Int) ≤ (2 : Int) * (n : Int) := by omega
      have e3 : ((2 : Int) * (n : Int)).toNat = 2 * n := by omega
      go_wp2_with fail
      go_still_tail 9, (by kernel_rfl)
      go_wp2_with fail
      refine (HI.out.1 (Loc.mk1 b o c) ⟨some ⟨xb, xo, none⟩, xc, xb, xo⟩ ⟨some ⟨yb, yo, none⟩, yc, yb, yo⟩ sb ns J (xs.take n) ys _ HP.out.2.2.2.1 (by simp only; omega) (HP.out.2.1.take n) HP.out.2.2.1 (by rw [List.length_take, HX.out.2.2.1]; omega) HX.out.2.2.2 (by omega)
        HP.out.1.ax HP.out.1.ay HP.out.2.2.2.2.1 HP.out.2.2.2.2.2 HP.out.1.oz HP.out.1.ox HP.out.1.oy (by have := HG.out; have := G_mono (a := 2 * n) (b := m + n) (by omega); omega)).mono ?_
      rintro e w2 ⟨rs, J2, rfl, hl, hR, hD, hv, u2, hS2, hJ2⟩
      have HK2 := Lib.hid (And.intro hl (And.intro hR (And.intro hD (And.intro hv (And.intro u2 (And.intro hS2 hJ2))))))
      have hL2 : Live w2 b (o + 2 * n) (m - n) := by
        have : Live w2 b o c := (HP.out.2.2.2.1.upd u2).live
        exact this.sub (2 * n) (m - n) (by omega)
      obtain ⟨i0, i1, i2, i3, i4⟩ := iWord
      have q7 : decide (n < m) = true := decide_eq_true hnm
      have q8 : 2 * n < c := by omega
      have q9 : (2 : Int) * (n : Int) ≤ (m : Int) + (n : Int) := by omega
      have q10 : m + n - 2 * n = m - n := by omega
      clear hl hR hD hv u2 hS2 hJ2 e1 p1 p2 c9
      go_wp2_with (with_reducible refine wpList_clear64 rfl (.tmp 86) 78 rfl 102 i0 uNat i1 i2 _ (m - n) _ b (o + 2 * n) rfl (fun _ => rfl) hL2 ?_; intro w3 hu3 hz3)
      have M := mid_start HP.out.1 (Nat.le_of_lt hnm) (by omega) HP.out.2.1 HP.out.2.2.1 HP.out.2.2.2.1 HP.out.2.2.2.2.1 HP.out.2.2.2.2.2 HK2.out.1 HK2.out.2.1 HK2.out.2.2.1 HK2.out.2.2.2.2.1 HK2.out.2.2.2.2.2.1 HK2.out.2.2.2.2.2.2 hu3 hz3
      have hv3 : val B64 (rs ++ List.replicate (m - n) 0) = val B64 (xs.take n) * val B64 ys := by rw [val_append, val_replicate, HK2.out.2.2.2.1]; simp
      have HM := Lib.hid (And.intro M hv3)
      clear M hv3 HK2 hu3 hz3 hL2
      refine (save_any sb ns J2 w3 HM.out.1.stk).mono ?_
      rintro e w4 ⟨rfl, hw4⟩
      cases hw4.symm
      have hN : Calls Tryz.prog 120 #[.pointer (some ⟨sb, 0, none⟩), .int .i64 ((2 : Int) * (n : Int))] w3 fun e w' => StkNat w3 sb ns (2 * n) J2 e w' := by
        rw [show (2 : Int) * (n : Int) = ((2 * n : Nat) : Int) from by omega]
        exact stk_nat_any sb ns (2 * n) J2 w3 HM.out.1.stk (by omega) (by have := HG.out; have := G_step (a := 2 * n) (b := m + n) (by omega); omega)
      have HN := Lib.hid hN
      clear hN hw4
      go_wp2_with fail
      refine HN.out.mono ?_
      clear HN
      rintro e w4 ⟨t, J3, n', rfl, ht1, ht2, ht3, ht4, hS4, hn1, hn2, hJ4, u4⟩
      have HL0 := Lib.hid (mid_nat (q := n) HP.out.1 HM.out.1 HM.out.2 (Nat.le_of_lt hnm) ht2 ht3 ht4 hS4 hn1 hJ4 u4 rfl)
      have HT := Lib.hid (And.intro HL0.out.2 ht1)
      clear hS4 hn1 hJ4 u4 ht1 ht2 ht3 ht4 HM
      go_wp2_with fail
      go_loopw [11, 12] (fun tv iv wr => ∃ (k nt : Nat) (J' : SI) (zs : List Nat), n ≤ k ∧ k < m + n ∧ iv = .int .i64 (k : Int) ∧ tv = .slice t.A nt t.c ∧ Hid (LoopI T w1.drew wr ⟨some ⟨xb, xo, none⟩, xc, xb, xo⟩ ⟨some ⟨yb, yo, none⟩, yc, yb, yo⟩ (Loc.mk1 b o c) t xs ys zs m n k sb ns n' J J'))
        (fun _ i _ => m + n - (intOf i).toNat)
      case atStart => exact ⟨n, 2 * n, J3, _, Nat.le_refl _, by omega, rfl, rfl, HL0.out.1⟩
      case round =>
        obtain ⟨k, nt, J', zs, hk1, hk2, rfl, rfl, HL⟩ := hrel
        by_cases hlt : k < m
        · obtain ⟨p, hp⟩ : ∃ p, min (k + n) m = p := ⟨_, rfl⟩
          have ep : min ((k : Int) + (n : Int)) (m : Int) = (p : Int) := by omega
          have hp1 : k ≤ p := by omega
          have hp2 : p ≤ m := by omega
          have hp3 : p ≤ k + n := by omega
          have hxc : xs.length ≤ xc := HX.out.1.le
          have hxl := HX.out.2.2.1
          have hp4 : (p : Int) ≤ (xc : Int) := by omega
          have hkx : k < xc := by omega
          have hp5 : (k : Int) ≤ (p : Int) := by omega
          have hkc : k < c := by omega
          have hkm : (k : Int) ≤ (m : Int) + (n : Int) := by omega
          have ek : IntKind.i64.wrap ((k : Int) + (n : Int)) = ((k + n : Nat) : Int) := by rw [IntKind.wrap_i64]; omega
          have hA := HL.out.ask HP.out.1 HT.out.1 hkx (some ⟨xb, xo + k, none⟩)
          have HI2 := Lib.hid (HI.out.2 (p - k) n (by omega) t ⟨some ⟨xb, xo + k, none⟩, xc - k, xb, xo + k⟩ ⟨some ⟨yb, yo, none⟩, yc, yb, yo⟩ nt sb n' J' ((xs.drop k).take (p - k)) ys wr HL.out.tok ((HL.out.mid.vx.cut hkx).take _) HL.out.mid.vy
            (by rw [List.length_take, List.length_drop, hxl]; omega) HX.out.2.2.2 (Or.inr hA.1) (Or.inr hA.2.1) HL.out.mid.thr HL.out.mid.stk HL.out.toff hA.2.2.1 hA.2.2.2
            (by have := HG.out; have := G_step (a := 2 * n) (b := m + n) (by omega); have : G (p - k + n) ≤ G (2 * n) := by { unfold G; exact Nat.mul_le_mul (by omega) (by omega) }; omega))
          have HA := Lib.hid hA
          have HE := Lib.hid hp
          have hM : m + n - k = m + n - k := rfl
          clear hA hp hxl hxc hp3 hM
          go_wp2_with fail
          refine HI2.out.mono ?_
          clear HI2
          rintro e w5 ⟨r, ps, J4, rfl, hr1, hr2, hl5, hl6, hR5, hD5, hv5, hO5, u5, hS5, hJ5, ho5⟩
          have er : r = t := hr2 ⟨HA.out.1, HA.out.2.1, by have := HT.out.2; omega⟩
          subst r
          have hap := HE.out
          have HL5 := Lib.hid (HL.out.prod HP.out.1 HT.out.1 u5 hS5 hJ5 ho5)
          have HQ := Lib.hid (loop_addTo HP.out.1 HL5.out HT.out.1 HX.out.2.2.1 HX.out.2.2.2 hlt hm (by rw [hap]; exact hl5) hR5 hD5 hv5 hl6 (by rw [hap]))
          clear hr1 hr2 hl5 hl6 hR5 hD5 hv5 hO5 u5 hS5 hJ5 ho5 HA hap HL
          go_wp2_with fail
          refine HQ.out.mono ?_
          clear HQ
          rintro e w6 ⟨zs', rfl, hL6⟩
          have HL6 := Lib.hid hL6
          clear hL6 ep hp5 HL5
          go_wp2_with fail
          go_roundw
          case rel => exact ⟨k + n, _, J4, zs', by omega, by omega, rfl, rfl, HL6⟩
          case measure => simp [intOf]; omega
        · have hmin : min k m = m := by omega
          have hvv : val B64 zs = val B64 xs * val B64 ys := by rw [HL.out.v, hmin, List.take_of_length_le (by rw [HX.out.2.2.1]; exact Nat.le_refl _)]
          have HV := Lib.hid hvv
          have hR := HL.out.mid.uz
          have hD := HL.out.mid.dz
          clear hmin hvv HL0
          go_wp2_with fail
          refine (norm_len b o c (m + n) zs wr HL.out.mid.lz hc hc63 hR hD).mono ?_
          rintro e w7 ⟨rfl, hw7⟩
          cases hw7.symm
          rw [HV.out]
          clear hR hD
          go_wp2_with fail
          refine leaves_cons (f := 118) (args := #[.pointer (some ⟨sb, 0, none⟩), .int .i64 (ns : Int)]) (by simp) (by simp [go_sem]) ?_
          refine (restore_d sb n' ns J' .returning wr HL.out.mid.stk HL.out.mid.nn).mono ?_
          rintro e u' w7 ⟨rfl, rfl, hS7, hU7⟩
          refine ⟨_, results_tmp rfl _ _ _, ?_⟩
          exact mid_end HP.out.1 HL.out.mid HV.out (by omega) HF.out.1 HZ.out.1 HZ.out.2.2.2 HF.out.2.1.drew hS7 hU7
set_option maxRecDepth 1000000 in
set_option maxHeartbeats 1600000 in
theorem mul_eq (T : Int) (m n : Nat) (hn : 2 ≤ n) (hnm : n = m) (hTn : ¬ (n : Int) < T) (HK : KaraSpec T n) : MulSpec T m n := by
  intro z x y nz sb ns J xs ys w hz hx hy lx ly rx ry hT hS oz ox oy hG
  have IH : True := trivial
  have hm : m + n ≤ 1099511627776 := by have := G_le (m + n); omega
  have q2 : decide (m < n) = false := decide_eq_false (by omega)
  have q4 : ((m : Int) == 0) = false := beq_eq_false_iff_ne.2 (by omega)
  have q5 : ((n : Int) == 0) = false := beq_eq_false_iff_ne.2 (by omega)
  have q6 : ((n : Int) == 1) = false := beq_eq_false_iff_ne.2 (by omega)
  have exA := hx.addr (by omega)
  have eyA := hy.addr (by omega)
  obtain ⟨xA, xc, xb, xo⟩ := x
  obtain ⟨yA, yc, yb, yo⟩ := y
  simp only at exA eyA
  subst exA
  subst eyA
  have HA := Lib.hid (alias_any z ⟨some ⟨xb, xo, none⟩, xc, xb, xo⟩ nz m w hz hx.ok)
  have HA2 := Lib.hid (fun q => alias_any z ⟨some ⟨yb, yo, none⟩, yc, yb, yo⟩ nz n (w.drewN q) (hz.upd ((Upd.refl NoF w).drewN q)) (hy.ok.upd ((Upd.refl NoF w).drewN q)))
  have HX := Lib.hid (And.intro hx (And.intro hy (And.intro lx ly)))
  have HI := Lib.hid (And.intro HK IH)
  clear lx ly hx hy HK IH
  have HS := Lib.hid (And.intro hS (And.intro oz (And.intro ox (And.intro oy hT))))
  have HG := Lib.hid hG
  have q7 : decide (n < m) = false := decide_eq_false (by omega)
  have HE := Lib.hid hnm
  have hle : n ≤ m := Nat.le_of_eq hnm
  clear hS oz ox oy hG hnm
  go_enter_defers Tryz.func92, Tryz.ntmps92
  go_upto_region 9 with fail
  go_cut [51] from 13 to 120 (fun s51 wx => s51 = .bool (aliasB z ⟨some ⟨xb, xo, none⟩, xc, xb, xo⟩ || aliasB z ⟨some ⟨yb, yo, none⟩, yc, yb, yo⟩) ∧ ∃ q : Nat, wx = w.drewN q)
  case first =>
    by_cases hal : aliasB z ⟨some ⟨xb, xo, none⟩, xc, xb, xo⟩ = true
    · have HF := Lib.hid hal
      rw [hal] at HA
      clear hal
      go_wp2_with fail
      refine HA.out.mono ?_
      rintro e w1 ⟨rfl, q, rfl⟩
      go_wp2_with fail
      go_meet
      case rel => exact ⟨by rw [HF.out]; rfl, q, rfl⟩
    · have hal0 : aliasB z ⟨some ⟨xb, xo, none⟩, xc, xb, xo⟩ = false := by simpa using hal
      rw [hal0] at HA
      have HF := Lib.hid hal0
      clear hal hal0
      go_wp2_with fail
      refine HA.out.mono ?_
      rintro e w1 ⟨rfl, q, rfl⟩
      go_wp2_with fail
      refine (HA2.out q).mono ?_
      rintro e w1 ⟨rfl, q', rfl⟩
      go_wp2_with fail
      go_meet
      case rel => exact ⟨by rw [HF.out]; rfl, q + q', rfl⟩
  case rest =>
    obtain ⟨rfl, q, rfl⟩ := hcut
    clear HA HA2
    go_upto_if 51 with fail
    go_cut [0] from 13 to 120 (fun s0 wx => (∃ nz' : Nat, s0 = .slice (free2 z ⟨some ⟨xb, xo, none⟩, xc, xb, xo⟩ ⟨some ⟨yb, yo, none⟩, yc, yb, yo⟩).A nz' (free2 z ⟨some ⟨xb, xo, none⟩, xc, xb, xo⟩ ⟨some ⟨yb, yo, none⟩, yc, yb, yo⟩).c) ∧ wx = w.drewN q)
    case first =>
      by_cases hal : (aliasB z ⟨some ⟨xb, xo, none⟩, xc, xb, xo⟩ || aliasB z ⟨some ⟨yb, yo, none⟩, yc, yb, yo⟩) = true
      · have HF := Lib.hid hal
        rw [hal]
        clear hal
        go_wp2_with fail
        go_meet
        case rel => exact ⟨⟨0, by unfold free2; rw [HF.out]; rfl⟩, rfl⟩
      · have hal0 : (aliasB z ⟨some ⟨xb, xo, none⟩, xc, xb, xo⟩ || aliasB z ⟨some ⟨yb, yo, none⟩, yc, yb, yo⟩) = false := by simpa using hal
        have HF := Lib.hid hal0
        rw [hal0]
        clear hal hal0
        go_wp2_with fail
        go_meet
        case rel => exact ⟨⟨nz, by unfold free2; rw [HF.out]; rfl⟩, rfl⟩
    case rest =>
      obtain ⟨⟨nz', rfl⟩, rfl⟩ := hcut
      obtain ⟨z', ez⟩ : ∃ z', free2 z ⟨some ⟨xb, xo, none⟩, xc, xb, xo⟩ ⟨some ⟨yb, yo, none⟩, yc, yb, yo⟩ = z' := ⟨_, rfl⟩
      have hz' : z'.Ok (w.drewN q) := by rw [← ez]; exact (free2_Ok hz).upd ((Upd.refl NoF w).drewN q)
      have hzz : z' = z ∨ z'.c = 0 := by rw [← ez]; exact free2_zero z ⟨some ⟨xb, xo, none⟩, xc, xb, xo⟩ ⟨some ⟨yb, yo, none⟩, yc, yb, yo⟩
      have hax : Apart z' ⟨some ⟨xb, xo, none⟩, xc, xb, xo⟩ := by rw [← ez]; exact free2_x rx
      have hay : Apart z' ⟨some ⟨yb, yo, none⟩, yc, yb, yo⟩ := by rw [← ez]; exact free2_y ry
      have hre : Apart z ⟨some ⟨xb, xo, none⟩, xc, xb, xo⟩ ∧ Apart z ⟨some ⟨yb, yo, none⟩, yc, yb, yo⟩ ∧ m + n ≤ z.c → z' = z ∧ m + n ≤ z.c := fun h => ⟨by rw [← ez]; exact free2_self h.1 h.2.1, h.2.2⟩
      rw [ez]
      have hu0 : Upd NoF w (w.drewN q) := (Upd.refl NoF w).drewN q
      have HZ := Lib.hid (And.intro hzz (And.intro hax (And.intro hay hre)))
      clear ez hzz hax hay hre rx ry hz
      go_wp2_with fail
      refine (make_pos z' nz' (m + n) _ _ hz' (by omega) (by omega) hm).mono ?_
      rintro e w1 ⟨b, o, c, rfl, hF, hO, hc, hU⟩
      have u1 : Upd NoF w w1 := hu0.trans hU
      have c9 := (hT.upd u1 (fun _ h => h)).cell
      have hF' : From w z' (Loc.mk1 b o c) (m + n) := hF
      have HF := Lib.hid (And.intro hF' (And.intro u1 hO))
      have hc63 := hO.1
      have p1 : (2 : Int) * (n : Int) ≤ (c : Int) := by omega
      have p2 : (n : Int) ≤ (xc : Int) := by have : xs.length ≤ xc := HX.out.1.le; have := HX.out.2.2.1; omega
      clear hF hF' hO hU u1 hu0 hz'
      have HP := Lib.hid (mul_pre (T := T) (J := J) HX.out.1 HX.out.2.1 HZ.out.2.1 HZ.out.2.2.1 HZ.out.1 HF.out.1 HF.out.2.1 HF.out.2.2 hT HS.out.1 HS.out.2.1 HS.out.2.2.1 HS.out.2.2.2.1 hc)
      clear hT
      have e1 : IntKind.i64.wrap ((2 : Int) * (n : Int)) = (2 : Int) * (n : Int) := by rw [IntKind.wrap_i64]; omega
      have e2 : (0 : Int) ≤ (2 : Int) * (n : Int) := by omega
      have e3 : ((2 : Int) * (n : Int)).toNat = 2 * n := by omega
      go_wp2_with fail
      go_still_tail 9, (by kernel_rfl)
      go_wp2_with fail
      refine (HI.out.1 (Loc.mk1 b o c) ⟨some ⟨xb, xo, none⟩, xc, xb, xo⟩ ⟨some ⟨yb, yo, none⟩, yc, yb, yo⟩ sb ns J (xs.take n) ys _ HP.out.2.2.2.1 (by simp only; omega) (HP.out.2.1.take n) HP.out.2.2.1 (by rw [List.length_take, HX.out.2.2.1]; omega) HX.out.2.2.2 (by omega)
        HP.out.1.ax HP.out.1.ay HP.out.2.2.2.2.1 HP.out.2.2.2.2.2 HP.out.1.oz HP.out.1.ox HP.out.1.oy (by have := HG.out; have := G_mono (a := 2 * n) (b := m + n) (by omega); omega)).mono ?_
      rintro e w2 ⟨rs, J2, rfl, hl, hR, hD, hv, u2, hS2, hJ2⟩
      have HK2 := Lib.hid (And.intro hl (And.intro hR (And.intro hD (And.intro hv (And.intro u2 (And.intro hS2 hJ2))))))
      have hrs : rs ++ List.replicate (m - n) 0 = rs := by rw [show m - n = 0 from by have := HE.out; omega]; exact List.append_nil _
      have M := mid_start HP.out.1 hle (by omega) HP.out.2.1 HP.out.2.2.1 HP.out.2.2.2.1 HP.out.2.2.2.2.1 HP.out.2.2.2.2.2 HK2.out.1 HK2.out.2.1 HK2.out.2.2.1 HK2.out.2.2.2.2.1 HK2.out.2.2.2.2.2.1 HK2.out.2.2.2.2.2.2 (Upd.refl _ w2) (by rw [show m - n = 0 from by have := HE.out; omega]; exact U64.nil _ _ _)
      rw [hrs] at M
      have hvv : val B64 rs = val B64 xs * val B64 ys := by rw [HK2.out.2.2.2.1, List.take_of_length_le (by rw [HX.out.2.2.1, HE.out]; exact Nat.le_refl _)]
      have HM := Lib.hid (And.intro M hvv)
      clear hl hR hD hv u2 hS2 hJ2 hrs M hvv
      have hR := HM.out.1.uz
      have hD := HM.out.1.dz
      go_wp2_with fail
      refine (norm_len b o c (m + n) rs w2 HM.out.1.lz hc hc63 hR hD).mono ?_
      rintro e w7 ⟨rfl, hw7⟩
      cases hw7.symm
      rw [HM.out.2]
      clear hR hD
      go_wp2_with fail
      refine ⟨_, results_tmp rfl _ _ _, ?_⟩
      exact mid_end HP.out.1 HM.out.1 HM.out.2 (by omega) HF.out.1 HZ.out.1 HZ.out.2.2.2 HF.out.2.1.drew HM.out.1.stk (Upd.refl _ _)
end Go.Proofs.YtefeijofhocnpaaGreatDoor
namespace Go.Proofs.YtefeijofhocnpaaGreatDoor
open Go.RowKit
theorem mul_pre0 {T : Int} {w w1 w2 : World} {x y z' : Loc} {xs ys : List Nat} {b o c m n sb : Nat} (vx : VecV w x xs) (vy : VecV w y ys) (hax : Apart z' x) (hay : Apart z' y)
    (hF : From w z' (Loc.mk1 b o c) (m + n)) (u1 : Upd NoF w w1) (hO : (Loc.mk1 b o c).Ok w1) (hT : Thr w T) (u2 : Upd NoF w1 w2) (hsb : sb = w1.heap.size) (hS : StkV w2 sb 0 .none) (hc : m + n ≤ c) :
    MidS w2.drew x y (Loc.mk1 b o c) m n sb 0 .none ∧ VecV w2.drew x xs ∧ VecV w2.drew y ys ∧ (Loc.mk1 b o c).Ok w2.drew ∧ Thr w2.drew T ∧ StkV w2.drew sb 0 .none := by
  have u12 : Upd NoF w1 w2.drew := u2.drew
  have u1' : Upd NoF w w2.drew := u1.trans u12
  have off : ∀ {l : Loc}, l.Ok w1 → Off .none sb 0 l := fun hl i hi hk => by
    have := hl.lt (by omega)
    have hk' : _ = sb := hk
    omega
  have vx1 := vx.upd0 u1
  have vy1 := vy.upd0 u1
  refine ⟨⟨hc, ?_, ?_, off vx1.ok, off vy1.ok, off hO, fun h => (vx.upd0 u1').ok.lt h, fun h => (vy.upd0 u1').ok.lt h, fun h => (hO.upd u12).lt h⟩, vx.upd0 u1', vy.upd0 u1', hO.upd u12, hT.upd u1' (fun _ h => h), hS.upd0 (Upd.refl NoF w2).drew⟩
  · rcases hF with ⟨h1, h2⟩ | ⟨h1, h2, h3⟩
    · rw [h2]; exact hax
    · by_cases h0 : x.c = 0
      · exact Or.inr (Or.inl h0)
      · have := vx.ok.lt (by omega)
        simp only at h2
        exact Or.inr (Or.inr (Or.inl (by simp only; omega)))
  · rcases hF with ⟨h1, h2⟩ | ⟨h1, h2, h3⟩
    · rw [h2]; exact hay
    · by_cases h0 : y.c = 0
      · exact Or.inr (Or.inl h0)
      · have := vy.ok.lt (by omega)
        simp only at h2
        exact Or.inr (Or.inr (Or.inl (by simp only; omega)))
def MulSpec0 (T : Int) (m n : Nat) : Prop := ∀ (z x y : Loc) (nz : Nat) (xs ys : List Nat) (w : World), z.Ok w → VecV w x xs → VecV w y ys → xs.length = m → ys.length = n → Rel z x → Rel z y → Thr w T → G (m + n) ≤ 1099511627776 →
  Calls Tryz.prog 92 #[.slice z.A nz z.c, .pointer none, .slice x.A m x.c, .slice y.A n y.c] w fun e w' => MulRes w z (Apart z x ∧ Apart z y ∧ m + n ≤ z.c) (m + n) (val B64 xs * val B64 ys) NoF e w'
set_option maxRecDepth 1000000 in
set_option maxHeartbeats 1600000 in
theorem mul_gt0 (T : Int) (m n : Nat) (hn : 2 ≤ n) (hnm : n < m) (hTn : ¬ (n : Int) < T) (HK : KaraSpec T n) (IH : ∀ m' n', m' + n' < m + n → MulSpec T m' n') : MulSpec0 T m n := by
  intro z x y nz xs ys w hz hx hy lx ly rx ry hT hG
  have hm : m + n ≤ 1099511627776 := by have := G_le (m + n); omega
  have q2 : decide (m < n) = false := decide_eq_false (by omega)
  have q4 : ((m : Int) == 0) = false := beq_eq_false_iff_ne.2 (by omega)
  have q5 : ((n : Int) == 0) = false := beq_eq_false_iff_ne.2 (by omega)
  have q6 : ((n : Int) == 1) = false := beq_eq_false_iff_ne.2 (by omega)
  have exA := hx.addr (by omega)
  have eyA := hy.addr (by omega)
  obtain ⟨xA, xc, xb, xo⟩ := x
  obtain ⟨yA, yc, yb, yo⟩ := y
  simp only at exA eyA
  subst exA
  subst eyA
  have HA := Lib.hid (alias_any z ⟨some ⟨xb, xo, none⟩, xc, xb, xo⟩ nz m w hz hx.ok)
  have HA2 := Lib.hid (fun q => alias_any z ⟨some ⟨yb, yo, none⟩, yc, yb, yo⟩ nz n (w.drewN q) (hz.upd ((Upd.refl NoF w).drewN q)) (hy.ok.upd ((Upd.refl NoF w).drewN q)))
  have HX := Lib.hid (And.intro hx (And.intro hy (And.intro lx ly)))
  have HI := Lib.hid (And.intro HK IH)
  clear lx ly hx hy HK IH
  have HG := Lib.hid (show 0 + G (m + n) ≤ 1099511627776 by omega)
  clear hG
  go_enter_defers Tryz.func92, Tryz.ntmps92
  go_upto_region 9 with fail
  go_cut [51] from 13 to 120 (fun s51 wx => s51 = .bool (aliasB z ⟨some ⟨xb, xo, none⟩, xc, xb, xo⟩ || aliasB z ⟨some ⟨yb, yo, none⟩, yc, yb, yo⟩) ∧ ∃ q : Nat, wx = w.drewN q)
  case first =>
    by_cases hal : aliasB z ⟨some ⟨xb, xo, none⟩, xc, xb, xo⟩ = true
    · have HF := Lib.hid hal
      rw [hal] at HA
      clear hal
      go_wp2_with fail
      refine HA.out.mono ?_
      rintro e w1 ⟨rfl, q, rfl⟩
      go_wp2_with fail
      go_meet
      case rel => exact ⟨by rw [HF.out]; rfl, q, rfl⟩
    · have hal0 : aliasB z ⟨some ⟨xb, xo, none⟩, xc, xb, xo⟩ = false := by simpa using hal
      rw [hal0] at HA
      have HF := Lib.hid hal0
      clear hal hal0
      go_wp2_with fail
      refine HA.out.mono ?_
      rintro e w1 ⟨rfl, q, rfl⟩
      go_wp2_with fail
      refine (HA2.out q).mono ?_
      rintro e w1 ⟨rfl, q', rfl⟩
      go_wp2_with fail
      go_meet
      case rel => exact ⟨by rw [HF.out]; rfl, q + q', rfl⟩
  case rest =>
    obtain ⟨rfl, q, rfl⟩ := hcut
    clear HA HA2
    go_upto_if 51 with fail
    go_cut [0] from 13 to 120 (fun s0 wx => (∃ nz' : Nat, s0 = .slice (free2 z ⟨some ⟨xb, xo, none⟩, xc, xb, xo⟩ ⟨some ⟨yb, yo, none⟩, yc, yb, yo⟩).A nz' (free2 z ⟨some ⟨xb, xo, none⟩, xc, xb, xo⟩ ⟨some ⟨yb, yo, none⟩, yc, yb, yo⟩).c) ∧ wx = w.drewN q)
    case first =>
      by_cases hal : (aliasB z ⟨some ⟨xb, xo, none⟩, xc, xb, xo⟩ || aliasB z ⟨some ⟨yb, yo, none⟩, yc, yb, yo⟩) = true
      · have HF := Lib.hid hal
        rw [hal]
        clear hal
        go_wp2_with fail
        go_meet
        case rel => exact ⟨⟨0, by unfold free2; rw [HF.out]; rfl⟩, rfl⟩
      · have hal0 : (aliasB z ⟨some ⟨xb, xo, none⟩, xc, xb, xo⟩ || aliasB z ⟨some ⟨yb, yo, none⟩, yc, yb, yo⟩) = false := by simpa using hal
        have HF := Lib.hid hal0
        rw [hal0]
        clear hal hal0
        go_wp2_with fail
        go_meet
        case rel => exact ⟨⟨nz, by unfold free2; rw [HF.out]; rfl⟩, rfl⟩
    case rest =>
      obtain ⟨⟨nz', rfl⟩, rfl⟩ := hcut
      obtain ⟨z', ez⟩ : ∃ z', free2 z ⟨some ⟨xb, xo, none⟩, xc, xb, xo⟩ ⟨some ⟨yb, yo, none⟩, yc, yb, yo⟩ = z' := ⟨_, rfl⟩
      have hz' : z'.Ok (w.drewN q) := by rw [← ez]; exact (free2_Ok hz).upd ((Upd.refl NoF w).drewN q)
      have hzz : z' = z ∨ z'.c = 0 := by rw [← ez]; exact free2_zero z ⟨some ⟨xb, xo, none⟩, xc, xb, xo⟩ ⟨some ⟨yb, yo, none⟩, yc, yb, yo⟩
      have hax : Apart z' ⟨some ⟨xb, xo, none⟩, xc, xb, xo⟩ := by rw [← ez]; exact free2_x rx
      have hay : Apart z' ⟨some ⟨yb, yo, none⟩, yc, yb, yo⟩ := by rw [← ez]; exact free2_y ry
      have hre : Apart z ⟨some ⟨xb, xo, none⟩, xc, xb, xo⟩ ∧ Apart z ⟨some ⟨yb, yo, none⟩, yc, yb, yo⟩ ∧ m + n ≤ z.c → z' = z ∧ m + n ≤ z.c := fun h => ⟨by rw [← ez]; exact free2_self h.1 h.2.1, h.2.2⟩
      rw [ez]
      have hu0 : Upd NoF w (w.drewN q) := (Upd.refl NoF w).drewN q
      have HZ := Lib.hid (And.intro hzz (And.intro hax (And.intro hay hre)))
      clear ez hzz hax hay hre rx ry hz
      go_wp2_with fail
      refine (make_pos z' nz' (m + n) _ _ hz' (by omega) (by omega) hm).mono ?_
      rintro e w1 ⟨b, o, c, rfl, hF, hO, hc, hU⟩
      have u1 : Upd NoF w w1 := hu0.trans hU
      have c9 := (hT.upd u1 (fun _ h => h)).cell
      have hF' : From w z' (Loc.mk1 b o c) (m + n) := hF
      have HF := Lib.hid (And.intro hF' (And.intro u1 hO))
      have hc63 := hO.1
      have p1 : (2 : Int) * (n : Int) ≤ (c : Int) := by omega
      have p2 : (n : Int) ≤ (xc : Int) := by have : xs.length ≤ xc := HX.out.1.le; have := HX.out.2.2.1; omega
      clear hF hF' hO hU u1 hu0 hz'
      go_wp2_with fail
      refine (getStack_any w1).mono ?_
      rintro e wS ⟨sb, rfl, hsb, uS, hS⟩
      have HP := Lib.hid (mul_pre0 (T := T) HX.out.1 HX.out.2.1 HZ.out.2.1 HZ.out.2.2.1 HF.out.1 HF.out.2.1 HF.out.2.2 hT uS hsb hS hc)
      have HB := Lib.hid (And.intro (show w.heap.size ≤ sb by have := HF.out.2.1.size; omega) (HF.out.2.1.trans uS.drew))
      clear hT hsb uS hS
      have e1 : IntKind.i64.wrap ((2 : Int) * (n : Int)) = (2 : Int) * (n : Int) := by rw [IntKind.wrap_i64]; omega
      have e2 : (0 : Int) ≤ (2 : Int) * (n : Int) := by omega
      have e3 : ((2 : Int) * (n : Int)).toNat = 2 * n := by omega
      go_wp2_with fail
      go_still_tail 9, (by kernel_rfl)
      go_wp2_with fail
      refine (HI.out.1 (Loc.mk1 b o c) ⟨some ⟨xb, xo, none⟩, xc, xb, xo⟩ ⟨some ⟨yb, yo, none⟩, yc, yb, yo⟩ sb 0 .none (xs.take n) ys _ HP.out.2.2.2.1 (by simp only; omega) (HP.out.2.1.take n) HP.out.2.2.1 (by rw [List.length_take, HX.out.2.2.1]; omega) HX.out.2.2.2 (by omega)
        HP.out.1.ax HP.out.1.ay HP.out.2.2.2.2.1 HP.out.2.2.2.2.2 HP.out.1.oz HP.out.1.ox HP.out.1.oy (by have := HG.out; have := G_mono (a := 2 * n) (b := m + n) (by omega); omega)).mono ?_
      rintro e w2 ⟨rs, J2, rfl, hl, hR, hD, hv, u2, hS2, hJ2⟩
      have HK2 := Lib.hid (And.intro hl (And.intro hR (And.intro hD (And.intro hv (And.intro u2 (And.intro hS2 hJ2))))))
      have hL2 : Live w2 b (o + 2 * n) (m - n) := by
        have : Live w2 b o c := (HP.out.2.2.2.1.upd u2).live
        exact this.sub (2 * n) (m - n) (by omega)
      obtain ⟨i0, i1, i2, i3, i4⟩ := iWord
      have q7 : decide (n < m) = true := decide_eq_true hnm
      have q8 : 2 * n < c := by omega
      have q9 : (2 : Int) * (n : Int) ≤ (m : Int) + (n : Int) := by omega
      have q10 : m + n - 2 * n = m - n := by omega
      clear hl hR hD hv u2 hS2 hJ2 e1 p1 p2 c9
      go_wp2_with (with_reducible refine wpList_clear64 rfl (.tmp 86) 78 rfl 102 i0 uNat i1 i2 _ (m - n) _ b (o + 2 * n) rfl (fun _ => rfl) hL2 ?_; intro w3 hu3 hz3)
      have M := mid_start HP.out.1 (Nat.le_of_lt hnm) (by omega) HP.out.2.1 HP.out.2.2.1 HP.out.2.2.2.1 HP.out.2.2.2.2.1 HP.out.2.2.2.2.2 HK2.out.1 HK2.out.2.1 HK2.out.2.2.1 HK2.out.2.2.2.2.1 HK2.out.2.2.2.2.2.1 HK2.out.2.2.2.2.2.2 hu3 hz3
      have hv3 : val B64 (rs ++ List.replicate (m - n) 0) = val B64 (xs.take n) * val B64 ys := by rw [val_append, val_replicate, HK2.out.2.2.2.1]; simp
      have HM := Lib.hid (And.intro M hv3)
      clear M hv3 HK2 hu3 hz3 hL2
      refine (save_any sb 0 J2 w3 HM.out.1.stk).mono ?_
      rintro e w4 ⟨rfl, hw4⟩
      cases hw4.symm
      have hN : Calls Tryz.prog 120 #[.pointer (some ⟨sb, 0, none⟩), .int .i64 ((2 : Int) * (n : Int))] w3 fun e w' => StkNat w3 sb 0 (2 * n) J2 e w' := by
        rw [show (2 : Int) * (n : Int) = ((2 * n : Nat) : Int) from by omega]
        exact stk_nat_any sb 0 (2 * n) J2 w3 HM.out.1.stk (by omega) (by have := HG.out; have := G_step (a := 2 * n) (b := m + n) (by omega); omega)
      have HN := Lib.hid hN
      clear hN hw4
      go_wp2_with fail
      refine HN.out.mono ?_
      clear HN
      rintro e w4 ⟨t, J3, n', rfl, ht1, ht2, ht3, ht4, hS4, hn1, hn2, hJ4, u4⟩
      have HL0 := Lib.hid (mid_nat (q := n) HP.out.1 HM.out.1 HM.out.2 (Nat.le_of_lt hnm) ht2 ht3 ht4 hS4 hn1 hJ4 u4 rfl)
      have HT := Lib.hid (And.intro HL0.out.2 ht1)
      clear hS4 hn1 hJ4 u4 ht1 ht2 ht3 ht4 HM
      go_wp2_with fail
      go_loopw [11, 12] (fun tv iv wr => ∃ (k nt : Nat) (J' : SI) (zs : List Nat), n ≤ k ∧ k < m + n ∧ iv = .int .i64 (k : Int) ∧ tv = .slice t.A nt t.c ∧ Hid (LoopI T wS.drew wr ⟨some ⟨xb, xo, none⟩, xc, xb, xo⟩ ⟨some ⟨yb, yo, none⟩, yc, yb, yo⟩ (Loc.mk1 b o c) t xs ys zs m n k sb 0 n' .none J'))
        (fun _ i _ => m + n - (intOf i).toNat)
      case atStart => exact ⟨n, 2 * n, J3, _, Nat.le_refl _, by omega, rfl, rfl, HL0.out.1⟩
      case round =>
        obtain ⟨k, nt, J', zs, hk1, hk2, rfl, rfl, HL⟩ := hrel
        by_cases hlt : k < m
        · obtain ⟨p, hp⟩ : ∃ p, min (k + n) m = p := ⟨_, rfl⟩
          have ep : min ((k : Int) + (n : Int)) (m : Int) = (p : Int) := by omega
          have hp1 : k ≤ p := by omega
          have hp2 : p ≤ m := by omega
          have hp3 : p ≤ k + n := by omega
          have hxc : xs.length ≤ xc := HX.out.1.le
          have hxl := HX.out.2.2.1
          have hp4 : (p : Int) ≤ (xc : Int) := by omega
          have hkx : k < xc := by omega
          have hp5 : (k : Int) ≤ (p : Int) := by omega
          have hkc : k < c := by omega
          have hkm : (k : Int) ≤ (m : Int) + (n : Int) := by omega
          have ek : IntKind.i64.wrap ((k : Int) + (n : Int)) = ((k + n : Nat) : Int) := by rw [IntKind.wrap_i64]; omega
          have hA := HL.out.ask HP.out.1 HT.out.1 hkx (some ⟨xb, xo + k, none⟩)
          have HI2 := Lib.hid (HI.out.2 (p - k) n (by omega) t ⟨some ⟨xb, xo + k, none⟩, xc - k, xb, xo + k⟩ ⟨some ⟨yb, yo, none⟩, yc, yb, yo⟩ nt sb n' J' ((xs.drop k).take (p - k)) ys wr HL.out.tok ((HL.out.mid.vx.cut hkx).take _) HL.out.mid.vy
            (by rw [List.length_take, List.length_drop, hxl]; omega) HX.out.2.2.2 (Or.inr hA.1) (Or.inr hA.2.1) HL.out.mid.thr HL.out.mid.stk HL.out.toff hA.2.2.1 hA.2.2.2
            (by have := HG.out; have := G_step (a := 2 * n) (b := m + n) (by omega); have : G (p - k + n) ≤ G (2 * n) := by { unfold G; exact Nat.mul_le_mul (by omega) (by omega) }; omega))
          have HA := Lib.hid hA
          have HE := Lib.hid hp
          have hM : m + n - k = m + n - k := rfl
          clear hA hp hxl hxc hp3 hM
          go_wp2_with fail
          refine HI2.out.mono ?_
          clear HI2
          rintro e w5 ⟨r, ps, J4, rfl, hr1, hr2, hl5, hl6, hR5, hD5, hv5, hO5, u5, hS5, hJ5, ho5⟩
          have er : r = t := hr2 ⟨HA.out.1, HA.out.2.1, by have := HT.out.2; omega⟩
          subst r
          have hap := HE.out
          have HL5 := Lib.hid (HL.out.prod HP.out.1 HT.out.1 u5 hS5 hJ5 ho5)
          have HQ := Lib.hid (loop_addTo HP.out.1 HL5.out HT.out.1 HX.out.2.2.1 HX.out.2.2.2 hlt hm (by rw [hap]; exact hl5) hR5 hD5 hv5 hl6 (by rw [hap]))
          clear hr1 hr2 hl5 hl6 hR5 hD5 hv5 hO5 u5 hS5 hJ5 ho5 HA hap HL
          go_wp2_with fail
          refine HQ.out.mono ?_
          clear HQ
          rintro e w6 ⟨zs', rfl, hL6⟩
          have HL6 := Lib.hid hL6
          clear hL6 ep hp5 HL5
          go_wp2_with fail
          go_roundw
          case rel => exact ⟨k + n, _, J4, zs', by omega, by omega, rfl, rfl, HL6⟩
          case measure => simp [intOf]; omega
        · have hmin : min k m = m := by omega
          have hvv : val B64 zs = val B64 xs * val B64 ys := by rw [HL.out.v, hmin, List.take_of_length_le (by rw [HX.out.2.2.1]; exact Nat.le_refl _)]
          have HV := Lib.hid hvv
          have hR := HL.out.mid.uz
          have hD := HL.out.mid.dz
          clear hmin hvv HL0
          go_wp2_with fail
          refine (norm_len b o c (m + n) zs wr HL.out.mid.lz hc hc63 hR hD).mono ?_
          rintro e w7 ⟨rfl, hw7⟩
          cases hw7.symm
          rw [HV.out]
          clear hR hD
          go_wp2_with fail
          refine leaves_cons (f := 118) (args := #[.pointer (some ⟨sb, 0, none⟩), .int .i64 ((0 : Nat) : Int)]) (by simp) (by simp [go_sem]) ?_
          refine (restore_d sb n' 0 J' .returning wr HL.out.mid.stk (Nat.zero_le _)).mono ?_
          rintro e u' w7 ⟨rfl, rfl, hS7, hU7⟩
          refine leaves_cons (f := 105) (args := #[.pointer (some ⟨sb, 0, none⟩)]) (by simp [settle]) (by simp [go_sem]) ?_
          refine (free_d sb 0 J' _ w7 hS7).mono ?_
          rintro e u' w8 ⟨rfl, rfl, hS8, hU8⟩
          refine ⟨_, results_tmp rfl _ _ _, ?_⟩
          exact mid_end0 HP.out.1 HL.out.mid HV.out (by omega) HF.out.1 HZ.out.1 HZ.out.2.2.2 HB.out.2 HB.out.1 ((hU7.weak (fun b i h => h.mono (Nat.zero_le _))).trans hU8)
set_option maxRecDepth 1000000 in
set_option maxHeartbeats 1600000 in
theorem mul_eq0 (T : Int) (m n : Nat) (hn : 2 ≤ n) (hnm : n = m) (hTn : ¬ (n : Int) < T) (HK : KaraSpec T n) : MulSpec0 T m n := by
  intro z x y nz xs ys w hz hx hy lx ly rx ry hT hG
  have IH : True := trivial
  have hm : m + n ≤ 1099511627776 := by have := G_le (m + n); omega
  have q2 : decide (m < n) = false := decide_eq_false (by omega)
  have q4 : ((m : Int) == 0) = false := beq_eq_false_iff_ne.2 (by omega)
  have q5 : ((n : Int) == 0) = false := beq_eq_false_iff_ne.2 (by omega)
  have q6 : ((n : Int) == 1) = false := beq_eq_false_iff_ne.2 (by omega)
  have exA := hx.addr (by omega)
  have eyA := hy.addr (by omega)
  obtain ⟨xA, xc, xb, xo⟩ := x
  obtain ⟨yA, yc, yb, yo⟩ := y
  simp only at exA eyA
  subst exA
  subst eyA
  have HA := Lib.hid (alias_any z ⟨some ⟨xb, xo, none⟩, xc, xb, xo⟩ nz m w hz hx.ok)
  have HA2 := Lib.hid (fun q => alias_any z ⟨some ⟨yb, yo, none⟩, yc, yb, yo⟩ nz n (w.drewN q) (hz.upd ((Upd.refl NoF w).drewN q)) (hy.ok.upd ((Upd.refl NoF w).drewN q)))
  have HX := Lib.hid (And.intro hx (And.intro hy (And.intro lx ly)))
  have HI := Lib.hid (And.intro HK IH)
  clear lx ly hx hy HK IH
  have HG := Lib.hid (show 0 + G (m + n) ≤ 1099511627776 by omega)
  have q7 : decide (n < m) = false := decide_eq_false (by omega)
  have HE := Lib.hid hnm
  have hle : n ≤ m := Nat.le_of_eq hnm
  clear hG hnm
  go_enter_defers Tryz.func92, Tryz.ntmps92
  go_upto_region 9 with fail
  go_cut [51] from 13 to 120 (fun s51 wx => s51 = .bool (aliasB z ⟨some ⟨xb, xo, none⟩, xc, xb, xo⟩ || aliasB z ⟨some ⟨yb, yo, none⟩, yc, yb, yo⟩) ∧ ∃ q : Nat, wx = w.drewN q)
  case first =>
    by_cases hal : aliasB z ⟨some ⟨xb, xo, none⟩, xc, xb, xo⟩ = true
    · have HF := Lib.hid hal
      rw [hal] at HA
      clear hal
      go_wp2_with fail
      refine HA.out.mono ?_
      rintro e w1 ⟨rfl, q, rfl⟩
      go_wp2_with fail
      go_meet
      case rel => exact ⟨by rw [HF.out]; rfl, q, rfl⟩
    · have hal0 : aliasB z ⟨some ⟨xb, xo, none⟩, xc, xb, xo⟩ = false := by simpa using hal
      rw [hal0] at HA
      have HF := Lib.hid hal0
      clear hal hal0
      go_wp2_with fail
      refine HA.out.mono ?_
      rintro e w1 ⟨rfl, q, rfl⟩
      go_wp2_with fail
      refine (HA2.out q).mono ?_
      rintro e w1 ⟨rfl, q', rfl⟩
      go_wp2_with fail
      go_meet
      case rel => exact ⟨by rw [HF.out]; rfl, q + q', rfl⟩
  case rest =>
    obtain ⟨rfl, q, rfl⟩ := hcut
    clear HA HA2
    go_upto_if 51 with fail
    go_cut [0] from 13 to 120 (fun s0 wx => (∃ nz' : Nat, s0 = .slice (free2 z ⟨some ⟨xb, xo, none⟩, xc, xb, xo⟩ ⟨some ⟨yb, yo, none⟩, yc, yb, yo⟩).A nz' (free2 z ⟨some ⟨xb, xo, none⟩, xc, xb, xo⟩ ⟨some ⟨yb, yo, none⟩, yc, yb, yo⟩).c) ∧ wx = w.drewN q)
    case first =>
      by_cases hal : (aliasB z ⟨some ⟨xb, xo, none⟩, xc, xb, xo⟩ || aliasB z ⟨some ⟨yb, yo, none⟩, yc, yb, yo⟩) = true
      · have HF := Lib.hid hal
        rw [hal]
        clear hal
        go_wp2_with fail
        go_meet
        case rel => exact ⟨⟨0, by unfold free2; rw [HF.out]; rfl⟩, rfl⟩
      · have hal0 : (aliasB z ⟨some ⟨xb, xo, none⟩, xc, xb, xo⟩ || aliasB z ⟨some ⟨yb, yo, none⟩, yc, yb, yo⟩) = false := by simpa using hal
        have HF := Lib.hid hal0
        rw [hal0]
        clear hal hal0
        go_wp2_with fail
        go_meet
        case rel => exact ⟨⟨nz, by unfold free2; rw [HF.out]; rfl⟩, rfl⟩
    case rest =>
      obtain ⟨⟨nz', rfl⟩, rfl⟩ := hcut
      obtain ⟨z', ez⟩ : ∃ z', free2 z ⟨some ⟨xb, xo, none⟩, xc, xb, xo⟩ ⟨some ⟨yb, yo, none⟩, yc, yb, yo⟩ = z' := ⟨_, rfl⟩
      have hz' : z'.Ok (w.drewN q) := by rw [← ez]; exact (free2_Ok hz).upd ((Upd.refl NoF w).drewN q)
      have hzz : z' = z ∨ z'.c = 0 := by rw [← ez]; exact free2_zero z ⟨some ⟨xb, xo, none⟩, xc, xb, xo⟩ ⟨some ⟨yb, yo, none⟩, yc, yb, yo⟩
      have hax : Apart z' ⟨some ⟨xb, xo, none⟩, xc, xb, xo⟩ := by rw [← ez]; exact free2_x rx
      have hay : Apart z' ⟨some ⟨yb, yo, none⟩, yc, yb, yo⟩ := by rw [← ez]; exact free2_y ry
      have hre : Apart z ⟨some ⟨xb, xo, none⟩, xc, xb, xo⟩ ∧ Apart z ⟨some ⟨yb, yo, none⟩, yc, yb, yo⟩ ∧ m + n ≤ z.c → z' = z ∧ m + n ≤ z.c := fun h => ⟨by rw [← ez]; exact free2_self h.1 h.2.1, h.2.2⟩
      rw [ez]
      have hu0 : Upd NoF w (w.drewN q) := (Upd.refl NoF w).drewN q
      have HZ := Lib.hid (And.intro hzz (And.intro hax (And.intro hay hre)))
      clear ez hzz hax hay hre rx ry hz
      go_wp2_with fail
      refine (make_pos z' nz' (m + n) _ _ hz' (by omega) (by omega) hm).mono ?_
      rintro e w1 ⟨b, o, c, rfl, hF, hO, hc, hU⟩
      have u1 : Upd NoF w w1 := hu0.trans hU
      have c9 := (hT.upd u1 (fun _ h => h)).cell
      have hF' : From w z' (Loc.mk1 b o c) (m + n) := hF
      have HF := Lib.hid (And.intro hF' (And.intro u1 hO))
      have hc63 := hO.1
      have p1 : (2 : Int) * (n : Int) ≤ (c : Int) := by omega
      have p2 : (n : Int) ≤ (xc : Int) := by have : xs.length ≤ xc := HX.out.1.le; have := HX.out.2.2.1; omega
      clear hF hF' hO hU u1 hu0 hz'
      go_wp2_with fail
      refine (getStack_any w1).mono ?_
      rintro e wS ⟨sb, rfl, hsb, uS, hS⟩
      have HP := Lib.hid (mul_pre0 (T := T) HX.out.1 HX.out.2.1 HZ.out.2.1 HZ.out.2.2.1 HF.out.1 HF.out.2.1 HF.out.2.2 hT uS hsb hS hc)
      have HB := Lib.hid (And.intro (show w.heap.size ≤ sb by have := HF.out.2.1.size; omega) (HF.out.2.1.trans uS.drew))
      clear hT hsb uS hS
      have e1 : IntKind.i64.wrap ((2 : Int) * (n : Int)) = (2 : Int) * (n : Int) := by rw [IntKind.wrap_i64]; omega
      have e2 : (0 : Int) ≤ (2 : Int) * (n : Int) := by omega
      have e3 : ((2 : Int) * (n : Int)).toNat = 2 * n := by omega
      go_wp2_with fail
      go_still_tail 9, (by kernel_rfl)
      go_wp2_with fail
      refine (HI.out.1 (Loc.mk1 b o c) ⟨some ⟨xb, xo, none⟩, xc, xb, xo⟩ ⟨some ⟨yb, yo, none⟩, yc, yb, yo⟩ sb 0 .none (xs.take n) ys _ HP.out.2.2.2.1 (by simp only; omega) (HP.out.2.1.take n) HP.out.2.2.1 (by rw [List.length_take, HX.out.2.2.1]; omega) HX.out.2.2.2 (by omega)
        HP.out.1.ax HP.out.1.ay HP.out.2.2.2.2.1 HP.out.2.2.2.2.2 HP.out.1.oz HP.out.1.ox HP.out.1.oy (by have := HG.out; have := G_mono (a := 2 * n) (b := m + n) (by omega); omega)).mono ?_
      rintro e w2 ⟨rs, J2, rfl, hl, hR, hD, hv, u2, hS2, hJ2⟩
      have HK2 := Lib.hid (And.intro hl (And.intro hR (And.intro hD (And.intro hv (And.intro u2 (And.intro hS2 hJ2))))))
      have hrs : rs ++ List.replicate (m - n) 0 = rs := by rw [show m - n = 0 from by have := HE.out; omega]; exact List.append_nil _
      have M := mid_start HP.out.1 hle (by omega) HP.out.2.1 HP.out.2.2.1 HP.out.2.2.2.1 HP.out.2.2.2.2.1 HP.out.2.2.2.2.2 HK2.out.1 HK2.out.2.1 HK2.out.2.2.1 HK2.out.2.2.2.2.1 HK2.out.2.2.2.2.2.1 HK2.out.2.2.2.2.2.2 (Upd.refl _ w2) (by rw [show m - n = 0 from by have := HE.out; omega]; exact U64.nil _ _ _)
      rw [hrs] at M
      have hvv : val B64 rs = val B64 xs * val B64 ys := by rw [HK2.out.2.2.2.1, List.take_of_length_le (by rw [HX.out.2.2.1, HE.out]; exact Nat.le_refl _)]
      have HM := Lib.hid (And.intro M hvv)
      clear hl hR hD hv u2 hS2 hJ2 hrs M hvv
      have hR := HM.out.1.uz
      have hD := HM.out.1.dz
      go_wp2_with fail
      refine (norm_len b o c (m + n) rs w2 HM.out.1.lz hc hc63 hR hD).mono ?_
      rintro e w7 ⟨rfl, hw7⟩
      cases hw7.symm
      rw [HM.out.2]
      clear hR hD
      go_wp2_with fail
      refine leaves_cons (f := 105) (args := #[.pointer (some ⟨sb, 0, none⟩)]) (by simp) (by simp [go_sem]) ?_
      refine (free_d sb 0 J2 .returning w2 HM.out.1.stk).mono ?_
      rintro e u' w8 ⟨rfl, rfl, hS8, hU8⟩
      refine ⟨_, results_tmp rfl _ _ _, ?_⟩
      exact mid_end0 HP.out.1 HM.out.1 HM.out.2 (by omega) HF.out.1 HZ.out.1 HZ.out.2.2.2 HB.out.2 HB.out.1 hU8
end Go.Proofs.YtefeijofhocnpaaGreatDoor
namespace Go.Proofs.YtefeijofhocnpaaGreatDoor
open Go.RowKit
theorem iInt3 : (Tryz.prog.info? 80).map (fun i => i.size) = some 2 := by kernel_rfl
theorem uPInt : Tryz.prog.underlying 76 = some (.pointer 80) := by kernel_rfl
theorem eql_ints {w : World} {b b' : Nat} (ha : Free w b) (hb : Free w b') {r : Bool} (hr : ((⟨b, 0, none⟩ : Addr) == ⟨b', 0, none⟩) = r) :
    (binOp .eql 76 (.pointer (some ⟨b, 0, none⟩)) (.pointer (some ⟨b', 0, none⟩))).run Tryz.prog w = .ok (.bool r) w := by
  obtain ⟨i, hi⟩ : ∃ i, Tryz.prog.info? 80 = some i ∧ i.size = 2 := by
    have h := iInt3
    cases hq : Tryz.prog.info? 80 with
    | none => rw [hq] at h; cases h
    | some i => exact ⟨i, rfl, by rw [hq] at h; simpa using h⟩
  exact run_eql_ptr (a := ⟨b, 0, none⟩) (b := ⟨b', 0, none⟩) uPInt hi.1 (by omega) ha hb hr
theorem eql_intsO {w : World} {b b' o' : Nat} (ha : Free w b) (hb : Free w b') {r : Bool} (hr : ((⟨b, 0, none⟩ : Addr) == ⟨b', o', none⟩) = r) :
    (binOp .eql 76 (.pointer (some ⟨b, 0, none⟩)) (.pointer (some ⟨b', o', none⟩))).run Tryz.prog w = .ok (.bool r) w := by
  obtain ⟨i, hi⟩ : ∃ i, Tryz.prog.info? 80 = some i ∧ i.size = 2 := by
    have h := iInt3
    cases hq : Tryz.prog.info? 80 with
    | none => rw [hq] at h; cases h
    | some i => exact ⟨i, rfl, by rw [hq] at h; simpa using h⟩
  exact run_eql_ptr (a := ⟨b, 0, none⟩) (b := ⟨b', o', none⟩) uPInt hi.1 (by omega) ha hb hr
theorem sign_mul {X Y : Int} {sx sy : Bool} (hx : decide (X < 0) = sx) (hy : decide (Y < 0) = sy) (h0 : X.natAbs * Y.natAbs ≠ 0) : decide (X * Y < 0) = (sx != sy) := by
  have hX : X ≠ 0 := by intro h; subst h; simp at h0
  have hY : Y ≠ 0 := by intro h; subst h; simp at h0
  subst hx; subst hy
  rcases Int.lt_or_gt_of_ne hX with h1 | h1 <;> rcases Int.lt_or_gt_of_ne hY with h2 | h2
  · have := Int.mul_pos_of_neg_of_neg h1 h2
    simp [h1, h2]; omega
  · have := Int.mul_neg_of_neg_of_pos h1 h2
    have h3 : ¬ Y < 0 := by omega
    simp [h1, h3, this]
  · have := Int.mul_neg_of_pos_of_neg h1 h2
    have h3 : ¬ X < 0 := by omega
    simp [h2, h3, this]
  · have := Int.mul_pos h1 h2
    have h3 : ¬ X < 0 := by omega
    have h4 : ¬ Y < 0 := by omega
    simp [h3, h4]; omega
set_option maxRecDepth 1000000 in
set_option maxHeartbeats 1600000 in
theorem Int_mul_gen (zb xb yb : Nat) (lz lx ly : Loc) (sz : Bool) (nz : Nat) (X Y : Int) (S : Value) (w : World) (hz : IntD w zb lz sz nz) (hx : IntV w xb lx X) (hy : IntV w yb ly Y) (hne : xb ≠ yb) (Q : Loc → World → Prop)
    (HM : ∀ w', Upd NoF w w' → Calls Tryz.prog 92 #[.slice lz.A nz lz.c, S, .slice lx.A (digs X.natAbs).length lx.c, .slice ly.A (digs Y.natAbs).length ly.c] w' fun e w1 => ∃ r : Loc, e = .returned (.slice r.A (digs (X.natAbs * Y.natAbs)).length r.c) ∧ Q r w1)
    (hQ : ∀ r w1, Q r w1 → IntD w1 zb lz sz nz ∧ CellT 80 w1 xb 0 (.bool (decide (X < 0))) ∧ CellT 80 w1 yb 0 (.bool (decide (Y < 0)))) :
    Calls Tryz.prog 97 #[.pointer (some ⟨zb, 0, none⟩), S, .pointer (some ⟨xb, 0, none⟩), .pointer (some ⟨yb, 0, none⟩)] w fun e w' => e = .returned (.tuple #[]) ∧
      ∃ (r : Loc) (w1 : World) (k : Nat), Q r w1 ∧ w' = ((w1.setCell ⟨zb, 1, none⟩ (.slice r.A (digs (X.natAbs * Y.natAbs)).length r.c)).setCell ⟨zb, 0, none⟩ (.bool (decide (X * Y < 0)))).drewN k := by
  have c1 := hz.neg.cell
  have c2 := hz.neg.frozen
  have c3 := hz.abs.cell
  have c4 := hz.abs.frozen
  have c6 := hx.abs.cell
  have c8 := hy.abs.cell
  have heq := eql_ints hx.neg.free hy.neg.free (r := false) (by rw [addr_beq]; exact decide_eq_false (fun h => hne h.1))
  obtain ⟨sx, hsx⟩ : ∃ s, decide (X < 0) = s := ⟨_, rfl⟩
  obtain ⟨sy, hsy⟩ : ∃ s, decide (Y < 0) = s := ⟨_, rfl⟩
  rw [hsx, hsy] at hQ
  have HSX := Lib.hid (And.intro hsx hsy)
  have HH := Lib.hid (And.intro HM hQ)
  clear hsx hsy HM hQ hx hy
  go_enter Tryz.func97, Tryz.ntmps97
  go_wp2_with fail
  refine wp_region_pre_tail 1 14 (by kernel_rfl) (by kernel_rfl) ?_
  simp only [List.take_succ_cons, List.take_zero, List.drop_succ_cons, List.drop_zero]
  repeat (refine wpPure_step ?_ (fun _ _ _ h => h) (by rfl) (by intro _; go_simp; with_reducible rfl) ?_; (try simp only [Act.put, List.setIfInBounds_toArray, List.set_cons_zero, List.set_cons_succ]))
  refine wpPure_nil ?_
  repeat still_step
  refine wpStill_nil ?_
  go_wp2_with fail
  refine (HH.out.1 _ ((Upd.refl NoF w).drew)).mono ?_
  rintro e w1 ⟨r, rfl, hq⟩
  obtain ⟨g1, g2, g3⟩ := HH.out.2 r w1 hq
  have d1 := g1.abs.cell
  have d2 := g1.abs.frozen
  have HQ := Lib.hid hq
  clear heq c1 c2 c3 c4 c6 c8 hq
  go_wp2_with fail
  have k1 := (g1.abs.set (.slice r.A (digs (X.natAbs * Y.natAbs)).length r.c))
  have k2 := (g1.neg.far (b' := zb) (i' := 1) (.slice r.A (digs (X.natAbs * Y.natAbs)).length r.c) (by omega))
  have k3 := (g2.far (b' := zb) (i' := 1) (.slice r.A (digs (X.natAbs * Y.natAbs)).length r.c) (by omega))
  have k4 := (g3.far (b' := zb) (i' := 1) (.slice r.A (digs (X.natAbs * Y.natAbs)).length r.c) (by omega))
  obtain ⟨w2, hw2⟩ : ∃ w2, w1.setCell ⟨zb, 1, none⟩ (.slice r.A (digs (X.natAbs * Y.natAbs)).length r.c) = w2 := ⟨_, rfl⟩
  rw [hw2] at k1 k2 k3 k4 ⊢
  have d3 := k1.cell
  have d4 := k2.cell
  have d5 := k2.frozen
  have d6 := k3.cell
  have d7 := k4.cell
  have HW := Lib.hid hw2
  clear hw2 k1 k2 k3 k4 d1 d2 g1 g2 g3
  by_cases h0 : X.natAbs * Y.natAbs = 0
  · have q0 : decide (0 < (digs (X.natAbs * Y.natAbs)).length) = false := decide_eq_false (by rw [digs_len_eq_zero.2 h0]; omega)
    have e1 : decide (X * Y < 0) = false := decide_eq_false (by rw [← Int.natAbs_mul] at h0; omega)
    have HE := Lib.hid e1
    clear e1 h0
    go_region
    all_goals
      go_wp2
      go_end0
      refine ⟨rfl, r, w1, 1, HQ.out, ?_⟩
      rw [HE.out, HW.out]; rfl
  · have q0 : decide (0 < (digs (X.natAbs * Y.natAbs)).length) = true := decide_eq_true (by have := mt digs_len_eq_zero.1 h0; omega)
    have e1 := sign_mul HSX.out.1 HSX.out.2 h0
    have HE := Lib.hid e1
    clear e1 h0
    go_region
    all_goals
      go_wp2
      go_end0
      refine ⟨rfl, r, w1, 1, HQ.out, ?_⟩
      rw [HE.out, HW.out]; rfl
end Go.Proofs.YtefeijofhocnpaaGreatDoor
namespace Go.Proofs.YtefeijofhocnpaaGreatDoor
open Go.RowKit
structure MulOut (w : World) (z : Loc) (reuse : Prop) (need N sb ns : Nat) (J : SI) (r : Loc) (rs : List Nat) (J' : SI) (w' : World) : Prop where
  at_ : r = z ∨ w.heap.size ≤ r.b
  re : reuse → r = z
  ln : rs.length ≤ need
  lc : rs.length ≤ r.c
  u : U64 w' r.b r.o rs
  d : Digs B64 rs
  v : val B64 rs = N
  ok : r.Ok w'
  stk : StkV w' sb ns J'
  le : SI.Le w sb J J'
  off : Off J' sb ns r
theorem blk_upd (w : World) (zb k : Nat) (u v : Value) : Upd (Blk zb) w (((w.setCell ⟨zb, 1, none⟩ u).setCell ⟨zb, 0, none⟩ v).drewN k) :=
  (((Upd.refl (Blk zb) w).setCell (fun _ => rfl) _).setCell (fun _ => rfl) _).drewN k
theorem Int_mul_stk (T : Int) (zb xb yb : Nat) (lz lx ly : Loc) (sz : Bool) (nz : Nat) (X Y : Int) (sb ns : Nat) (J : SI) (w : World) (hM : MulSpec T (digs X.natAbs).length (digs Y.natAbs).length) (hz : IntD w zb lz sz nz) (hx : IntV w xb lx X) (hy : IntV w yb ly Y) (hne : xb ≠ yb)
    (rx : Rel lz lx) (ry : Rel lz ly) (hT : Thr w T) (hS : StkV w sb ns J) (oz : Off J sb ns lz) (ox : Off J sb ns lx) (oy : Off J sb ns ly) (hG : ns + G ((digs X.natAbs).length + (digs Y.natAbs).length) ≤ 1099511627776) :
    Calls Tryz.prog 97 #[.pointer (some ⟨zb, 0, none⟩), .pointer (some ⟨sb, 0, none⟩), .pointer (some ⟨xb, 0, none⟩), .pointer (some ⟨yb, 0, none⟩)] w fun e w' => e = .returned (.tuple #[]) ∧
      ∃ (r : Loc) (rs : List Nat) (J' : SI), MulOut w lz (Apart lz lx ∧ Apart lz ly ∧ (digs X.natAbs).length + (digs Y.natAbs).length ≤ lz.c) ((digs X.natAbs).length + (digs Y.natAbs).length) (X.natAbs * Y.natAbs) sb ns J r rs J' w' ∧
        IntV w' zb r (X * Y) ∧ Upd (Or2 (Blk zb) (Or2 (ZF lz rs.length) (J.K sb ns))) w w' := by
  have hno : ∀ (k : Nat) {b i : Nat} {v : Value}, CellT 80 w b i v → ∀ j, ¬ Or2 (ZF lz k) (J.K sb ns) b j := fun k b i v hc j h => by
    rcases h with h | h
    · exact ZF.no hz.ok hc (by decide) k j h
    · exact hS.no hc (by decide) (by decide) (by decide) j h
  refine (Int_mul_gen zb xb yb lz lx ly sz nz X Y _ w hz hx hy hne
    (fun r w1 => ∃ rs J', MulOut w lz (Apart lz lx ∧ Apart lz ly ∧ (digs X.natAbs).length + (digs Y.natAbs).length ≤ lz.c) ((digs X.natAbs).length + (digs Y.natAbs).length) (X.natAbs * Y.natAbs) sb ns J r rs J' w1 ∧ Upd (Or2 (ZF lz rs.length) (J.K sb ns)) w w1)
    (fun w' u => ?_) (fun r w1 ⟨rs, J', _, hu⟩ => ?_)).mono ?_
  · have hs := u.size
    refine (hM lz lx ly nz sb ns J _ _ w' (hz.ok.upd u) (hx.nat.upd0 u) (hy.nat.upd0 u) rfl rfl rx ry (hT.upd u (fun _ h => h)) (hS.upd0 u) oz ox oy hG).mono ?_
    rintro e w1 ⟨r, rs, J', rfl, h1, h2, h3, h4, h5, h6, h7, h8, h9, h10, h11, h12⟩
    rw [val_digs, val_digs] at h7 ⊢
    exact ⟨r, rfl, rs, J', ⟨h1.imp id (fun h => by omega), h2, h3, h4, h5, h6, h7, h8, h10, fun n b i hb h => h11 n b i (by omega) h, h12⟩, u.then h9 (fun _ _ _ h => h.elim) (fun _ _ _ h => h)⟩
  · exact ⟨⟨hz.neg.upd hu (hno _ hz.neg _), hz.abs.upd hu (hno _ hz.abs _), hz.ok.upd hu⟩, hx.neg.upd hu (hno _ hx.neg _), hy.neg.upd hu (hno _ hy.neg _)⟩
  · rintro e w' ⟨rfl, r, w1, k, ⟨rs, J', hO, hu⟩, rfl⟩
    have hu2 := blk_upd w1 zb k (.slice r.A (digs (X.natAbs * Y.natAbs)).length r.c) (.bool (decide (X * Y < 0)))
    have hzn := hz.neg.upd hu (hno _ hz.neg _)
    have hza := hz.abs.upd hu (hno _ hz.abs _)
    have hnb : ∀ i, i < rs.length → ¬ Blk zb r.b (r.o + i) := fun i hi h => hzn.neW (hO.u i hi) (by decide) h.symm
    refine ⟨rfl, r, rs, J', ⟨hO.at_, hO.re, hO.ln, hO.lc, hO.u.upd hu2 hnb, hO.d, hO.v, hO.ok.upd hu2, hO.stk.upd hu2 (fun b i h => h ▸ hO.stk.no hzn (by decide) (by decide) (by decide) i), hO.le, hO.off⟩, ⟨?_, ?_, ?_⟩,
      (hu.mono (fun _ _ _ h => Or.inr h)).trans (hu2.mono (fun _ _ _ h => Or.inl h))⟩
    · exact (hzn.far _ (by omega)).set _
    · rw [Int.natAbs_mul]
      exact (hza.set _).far _ (by omega)
    · rw [Int.natAbs_mul]
      have hv : VecV w1 r rs := ⟨hO.ok, hO.lc, hO.u, hO.d⟩
      have hn := hv.norm
      rw [hO.v] at hn
      refine hn.upd hu2 (fun i hi => hnb i ?_)
      have := digs_len_le hO.d
      rw [hO.v] at this
      omega
end Go.Proofs.YtefeijofhocnpaaGreatDoor
