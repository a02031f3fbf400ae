/- For the claim of laws.FnGcdDivides: Kara, MulAll. -/
import Derived.Test.YthkklkjldpcbkaaGreatDoorKgA9
import Derived.StillTailTactics
import Derived.Deep.RegionHeld3
set_option linter.unusedVariables false
set_option linter.unusedSimpArgs false
namespace Go.Proofs.YthkklkjldpcbkaaGreatDoor
open Go.RowKit
def Boxed (w w' : World) (b : Nat) (l : Loc) (N : Nat) : Prop := w.heap.size ≤ b ∧ IntV w' b l (N : Int)
abbrev boxO (l : Loc) (N : Nat) : Obj := .cells #[.bool false, .slice l.A (digs N).length l.c] 58
theorem natCast_neg (N : Nat) : decide ((N : Int) < 0) = false := decide_eq_false (by omega)
theorem IntV.boxed {w w' : World} {l : Loc} {N : Nat} (h : NatV w l N) (u : Upd NoF (w.alloc (boxO l N)) w') : IntV w' w.heap.size l (N : Int) := by
 have hh := heap_alloc_new w (boxO l N)
 have hn : NatV (w.alloc (boxO l N)) l N := h.upd0 ((Upd.refl NoF w).alloc _)
 refine ⟨?_, ?_, ?_⟩
 ·
  rw [natCast_neg]
  exact CellT.upd (CellT.new (by simp) hh) u (fun h => h)
 ·
  rw [Int.natAbs_natCast]
  exact CellT.upd (CellT.new (by simp) hh) u (fun h => h)
 ·
  rw [Int.natAbs_natCast]
  exact hn.upd0 u
def TwoBoxes (w : World) (l0 l1 : Loc) (N0 N1 : Nat) (s0 s1 : Value) (w' : World) : Prop := ∃ b0 b1 : Nat, s0 = .pointer (some ⟨b0, 0, none⟩) ∧ s1 = .pointer (some ⟨b1, 0, none⟩) ∧ b0 ≠ b1 ∧ Upd NoF w w' ∧ Boxed w w' b0 l0 N0 ∧ Boxed w w' b1 l1 N1
theorem two_boxes {w : World} {l0 l1 : Loc} {N0 N1 : Nat} (h0 : NatV w l0 N0) (h1 : NatV w l1 N1) :
  TwoBoxes w l0 l1 N0 N1 (.pointer (some ⟨w.heap.size, 0, none⟩)) (.pointer (some ⟨w.heap.size + 1, 0, none⟩)) ((w.alloc (boxO l0 N0)).alloc (boxO l1 N1)).drew := by
 have u1 : Upd NoF w (w.alloc (boxO l0 N0)) := (Upd.refl NoF w).alloc _
 have u2 : Upd NoF (w.alloc (boxO l0 N0)) ((w.alloc (boxO l0 N0)).alloc (boxO l1 N1)) := (Upd.refl NoF _).alloc _
 have hs : (w.alloc (boxO l0 N0)).heap.size = w.heap.size + 1 := World.size_alloc _ _
 refine ⟨w.heap.size, w.heap.size + 1, rfl, rfl, by omega, (u1.trans u2).drew, ⟨Nat.le_refl _, IntV.boxed h0 u2.drew⟩, ⟨by omega, ?_⟩⟩
 have := IntV.boxed (w := w.alloc (boxO l0 N0)) (h1.upd0 u1) ((Upd.refl NoF _).drew)
 rwa [hs] at this
theorem two_boxes' {w : World} {l0 l1 : Loc} {N0 N1 : Nat} (h0 : NatV w l0 N0) (h1 : NatV w l1 N1) :
  TwoBoxes w l0 l1 N0 N1 (.pointer (some ⟨w.heap.size + 1, 0, none⟩)) (.pointer (some ⟨w.heap.size, 0, none⟩)) ((w.alloc (boxO l1 N1)).alloc (boxO l0 N0)).drew := by
 obtain ⟨b1, b0, e1, e0, h2, h3, h4, h5⟩ := two_boxes h1 h0
 exact ⟨b0, b1, e0, e1, Ne.symm h2, h3, h5, h4⟩
theorem norm_half (w : World) (xb xo xc n n2 : Nat) (xs : List Nat) (hx : VecV w ⟨some ⟨xb, xo, none⟩, xc, xb, xo⟩ xs) (lx : xs.length = n) (h2 : n2 ≤ n) (hc : n2 < xc) :
  (∀ w', Upd NoF w w' → Calls Tryz.prog 81 #[.slice (some ⟨xb, xo, none⟩) n2 xc] w' fun e w'' => e = .returned (.slice (some ⟨xb, xo, none⟩) (digs (val B64 (xs.take n2))).length xc) ∧ w' = w'') ∧
  (∀ w', Upd NoF w w' → Calls Tryz.prog 81 #[.slice (some ⟨xb, xo + n2, none⟩) (n - n2) (xc - n2)] w' fun e w'' => e = .returned (.slice (some ⟨xb, xo + n2, none⟩) (digs (val B64 (xs.drop n2))).length (xc - n2)) ∧ w' = w'') := by
 have hle : xs.length ≤ xc := hx.le
 have hc63 : xc ≤ 9223372036854775807 := hx.ok.1
 refine ⟨fun w' u => ?_, fun w' u => ?_⟩
 ·
  have hv := (hx.upd0 u).take n2
  exact (norm_len xb xo xc n2 (xs.take n2) w' (by rw [List.length_take]; omega) (by omega) hc63 hv.at_ hv.dig).mono (fun _ _ ⟨h1, h2⟩ => ⟨h1, h2.symm⟩)
 ·
  have hv := (hx.upd0 u).cut (k := n2) hc
  exact (norm_len xb (xo + n2) (xc - n2) (n - n2) (xs.drop n2) w' (by rw [List.length_drop]; omega) (by omega) (by omega) hv.at_ hv.dig).mono (fun _ _ ⟨h1, h2⟩ => ⟨h1, h2.symm⟩)
set_option maxRecDepth 1000000 in
set_option maxHeartbeats 1600000 in
theorem kara_main (T : Int) (n : Nat) (hn : 2 ≤ n) (hTn : ¬ (n : Int) < T) (IH : ∀ m' n', m' + n' < 2 * n → MulSpec T m' n') : KaraSpec T n := by
 intro z x y sb ns J xs ys w hz hzc hx hy lx ly h0 ax ay hT hS oz ox oy hG
 have hn40 : 2 * n ≤ 1099511627776 := by have := G_le (2 * n); omega
 obtain ⟨n2, hn2⟩ : ∃ n2, (n + 1) / 2 = n2 := ⟨_, rfl⟩
 have en2 : ((n : Int) + 1) / 2 = (n2 : Int) := by omega
 have exA := hx.addr (by omega)
 have eyA := hy.addr (by omega)
 have ezA := (hz.2 (by omega)).1
 obtain ⟨xA, xc, xb, xo⟩ := x
 obtain ⟨yA, yc, yb, yo⟩ := y
 obtain ⟨zA, zc, zb, zo⟩ := z
 simp only at exA eyA ezA hzc
 subst exA
 subst eyA
 subst ezA
 have c9 := hT.cell
 have q0 : decide ((n : Int) < 2) = false := decide_eq_false (by omega)
 have q1 : (n : Int) ≤ (xc : Int) := by have : xs.length ≤ xc := hx.le; omega
 have q2 : (n2 : Int) ≤ (n : Int) := by omega
 have q3 : (n2 : Int) ≤ (xc : Int) := by omega
 have q4 : n2 < xc := by omega
 have q5 : (2 : Int) ≤ (n : Int) := by omega
 have HX := Lib.hid (And.intro hx (And.intro hy (And.intro lx ly)))
 have HZ := Lib.hid (And.intro hz (And.intro ax ay))
 have HS := Lib.hid (And.intro hS (And.intro oz (And.intro ox (And.intro oy (And.intro hT hG)))))
 have HN2 := Lib.hid hn2
 have HI := Lib.hid IH
 clear lx ly hx hy hz ax ay hS oz ox oy hG hT hn2 IH
 go_enter_defers Tryz.func95, Tryz.ntmps95
 go_upto_region 6 with fail
 rw [en2]
 clear en2
 go_cut [10, 11] from 20 to 211 (fun s10 s11 wx => TwoBoxes w ⟨some ⟨xb, xo, none⟩, xc, xb, xo⟩ ⟨some ⟨xb, xo + n2, none⟩, xc - n2, xb, xo + n2⟩ (val B64 (xs.take n2)) (val B64 (xs.drop n2)) s10 s11 wx)
 case first =>
  have HA := Lib.hid (norm_half w xb xo xc n n2 xs HX.out.1 HX.out.2.2.1 (by omega) q4)
  go_region_held3 (fun w' => True) (exact True.intro)
   (first
    | (go_at_call_of 81 (Value.slice (some ⟨xb, xo, none⟩) n2 xc); refine (HA.out.1 _ (by repeat (first | exact Upd.refl _ _ | refine Upd.alloc ?_ _ | refine Upd.drew ?_ | refine Upd.drewN ?_ _))).mono ?_; rintro e w' ⟨rfl, rfl⟩)
    | (go_at_call_of 81 (Value.slice (some ⟨xb, xo + n2, none⟩) (n - n2) (xc - n2)); refine (HA.out.2 _ (by repeat (first | exact Upd.refl _ _ | refine Upd.alloc ?_ _ | refine Upd.drew ?_ | refine Upd.drewN ?_ _))).mono ?_; rintro e w' ⟨rfl, rfl⟩))
  all_goals
   go_wp2_with fail
   go_meet
   case rel => first | exact two_boxes (HX.out.1.take n2).norm (HX.out.1.cut q4).norm | exact two_boxes' (HX.out.1.take n2).norm (HX.out.1.cut q4).norm
 case rest =>
  obtain ⟨w1, rfl⟩ : ∃ w1 : World, w1 = wc := ⟨_, rfl⟩
  obtain ⟨b0, b1, rfl, rfl, hb01, hU1, hB0, hB1⟩ := hcut
  have HB := Lib.hid (And.intro hb01 (And.intro hU1 (And.intro hB0 hB1)))
  have hy1 := HX.out.2.1.upd0 hU1
  have y1 : (n2 : Int) ≤ (yc : Int) := by have : ys.length ≤ yc := HX.out.2.1.le; have := HX.out.2.2.2; omega
  have y2 : (n : Int) ≤ (yc : Int) := by have : ys.length ≤ yc := HX.out.2.1.le; have := HX.out.2.2.2; omega
  have y3 : n2 < yc := by have : ys.length ≤ yc := HX.out.2.1.le; have := HX.out.2.2.2; have := HN2.out; omega
  have HY := Lib.hid hy1
  clear hb01 hU1 hB0 hB1 c9 hy1
  go_upto_region 7 with fail
  go_cut [12, 13] from 20 to 211 (fun s12 s13 wx => TwoBoxes w1 ⟨some ⟨yb, yo, none⟩, yc, yb, yo⟩ ⟨some ⟨yb, yo + n2, none⟩, yc - n2, yb, yo + n2⟩ (val B64 (ys.take n2)) (val B64 (ys.drop n2)) s12 s13 wx)
  case first =>
   have HA := Lib.hid (norm_half w1 yb yo yc n n2 ys HY.out HX.out.2.2.2 (by omega) y3)
   go_region_held3 (fun w' => True) (exact True.intro)
    (first
     | (go_at_call_of 81 (Value.slice (some ⟨yb, yo, none⟩) n2 yc); refine (HA.out.1 _ (by repeat (first | exact Upd.refl _ _ | refine Upd.alloc ?_ _ | refine Upd.drew ?_ | refine Upd.drewN ?_ _))).mono ?_; rintro e w' ⟨rfl, rfl⟩)
     | (go_at_call_of 81 (Value.slice (some ⟨yb, yo + n2, none⟩) (n - n2) (yc - n2)); refine (HA.out.2 _ (by repeat (first | exact Upd.refl _ _ | refine Upd.alloc ?_ _ | refine Upd.drew ?_ | refine Upd.drewN ?_ _))).mono ?_; rintro e w' ⟨rfl, rfl⟩))
   all_goals
    go_wp2_with fail
    go_meet
    case rel => first | exact two_boxes (HY.out.take n2).norm (HY.out.cut y3).norm | exact two_boxes' (HY.out.take n2).norm (HY.out.cut y3).norm
  case rest =>
   obtain ⟨w2, rfl⟩ : ∃ w2 : World, w2 = wc := ⟨_, rfl⟩
   obtain ⟨c0, c1, rfl, rfl, hc01, hU2, hC0, hC1⟩ := hcut
   have HC := Lib.hid (And.intro hc01 (And.intro hU2 (And.intro hC0 hC1)))
   clear hc01 hU2 hC0 hC1
   have z1 : (2 : Int) * (n2 : Int) ≤ (zc : Int) := by omega
   have z2 : (2 : Int) * (n2 : Int) ≤ (2 : Int) * (n : Int) := by omega
   have hh := HN2.out
   have z3 : 2 * n2 < 2 * n := by omega
   have z4 : 2 * n2 < zc := by omega
   have z5 : (n2 : Int) ≤ (zc : Int) := by omega
   have z6 : n2 < zc := by omega
   have z7 : (n2 : Int) ≤ (2 : Int) * (n2 : Int) := by omega
   have z8 : 2 * n2 - n2 = n2 := by omega
   clear hh
   go_wp2_with fail
   obtain ⟨w3, hw3⟩ : ∃ w3, (w2.alloc (.cells #[.bool false, .slice (some ⟨zb, zo, none⟩) (2 * n2) zc] 58)).alloc (.cells #[.bool false, .slice (some ⟨zb, zo + 2 * n2, none⟩) (2 * n - 2 * n2) (zc - 2 * n2)] 58) = w3 := ⟨_, rfl⟩
   rw [hw3]
   have u3 : Upd NoF w w3 := by rw [← hw3]; exact ((HB.out.2.1.trans HC.out.2.1).alloc _).alloc _
   have HW := Lib.hid (And.intro hw3 u3)
   clear hw3 u3
   refine (save_any sb ns J w3 (HS.out.1.upd0 HW.out.2)).mono ?_
   rintro e w4 ⟨rfl, hw4⟩
   cases hw4.symm
   have hN : Calls Tryz.prog 98 #[.pointer (some ⟨sb, 0, none⟩), .int .i64 ((2 : Int) * (n2 : Int) + 1)] w3 fun e w' => StkNat w3 sb ns (2 * n2 + 1) J e w' := by
    rw [show (2 : Int) * (n2 : Int) + 1 = ((2 * n2 + 1 : Nat) : Int) from by omega]
    exact stk_nat_any sb ns (2 * n2 + 1) J w3 (HS.out.1.upd0 HW.out.2) (by omega) (by have := HS.out.2.2.2.2.2; have := G_le (2 * n); omega)
   have HN := Lib.hid hN
   clear hN hw4
   go_wp2_with fail
   refine HN.out.mono ?_
   clear HN
   rintro e w4 ⟨t, J', n', rfl, ht1, ht2, ht3, ht4, hS4, hn1, hn3, hJ4, u4⟩
   have HT4 := Lib.hid (And.intro ht1 (And.intro ht2 (And.intro ht3 (And.intro ht4 (And.intro hS4 (And.intro hn1 (And.intro hn3 (And.intro hJ4 u4))))))))
   clear ht1 ht2 ht3 ht4 hS4 hn1 hn3 hJ4 u4
   go_wp2_with fail
   obtain ⟨w5, hw5⟩ : ∃ w5, ((w4.alloc (.cells #[.bool false, .slice t.A (2 * n2 + 1) t.c] 58)).alloc (.cells #[.bool false, .slice (some ⟨zb, zo, none⟩) n2 zc] 58)).alloc (.cells #[.bool false, .slice (some ⟨zb, zo + n2, none⟩) n2 (zc - n2)] 58) = w5 := ⟨_, rfl⟩
   rw [hw5]
   have hn2' := HN2.out
   have S : MidS w ⟨some ⟨xb, xo, none⟩, xc, xb, xo⟩ ⟨some ⟨yb, yo, none⟩, yc, yb, yo⟩ ⟨some ⟨zb, zo, none⟩, zc, zb, zo⟩ n n sb ns J :=
    ⟨by simp only; omega, HZ.out.2.1, HZ.out.2.2, HS.out.2.2.1, HS.out.2.2.2.1, HS.out.2.1, fun h => HX.out.1.ok.lt h, fun h => HX.out.2.1.ok.lt h, fun h => HZ.out.1.lt h⟩
   have hset := kara_set S (by omega) (by omega) HZ.out.1 HS.out.2.2.2.2.1 HS.out.1 HB.out.2.1 HB.out.2.2.1.2 HB.out.2.2.2.2 HB.out.2.2.1.1 HB.out.2.2.2.1 HC.out.2.1 HC.out.2.2.1.2 HC.out.2.2.2.2 HC.out.2.2.1.1 HC.out.2.2.2.1 HW.out.1
    HT4.out.1 HT4.out.2.1 HT4.out.2.2.1 HT4.out.2.2.2.1 HT4.out.2.2.2.2.1 HT4.out.2.2.2.2.2.1 HT4.out.2.2.2.2.2.2.2.1 HT4.out.2.2.2.2.2.2.2.2 hw5
   have hbc0 : b0 ≠ c0 := by have := HB.out.2.2.1.2.lt; have := HC.out.2.2.1.1; omega
   have hbc1 : b1 ≠ c1 := by have := HB.out.2.2.2.2.lt; have := HC.out.2.2.2.1; omega
   obtain ⟨e1, he1⟩ : ∃ e1, w4.heap.size = e1 := ⟨_, rfl⟩
   obtain ⟨e0, he0⟩ : ∃ e0, w2.heap.size = e0 := ⟨_, rfl⟩
   rw [he1, he0]
   rw [he1, he0] at hset
   have E : KEnv T w ⟨some ⟨xb, xo, none⟩, xc, xb, xo⟩ ⟨some ⟨yb, yo, none⟩, yc, yb, yo⟩ ⟨some ⟨zb, zo, none⟩, zc, zb, zo⟩ t xs ys n n2 sb ns n' J b0 b1 c0 c1 e0 (e0 + 1) e1 (e1 + 1) (e1 + 1 + 1) :=
    ⟨S, by omega, by omega, by omega, by omega, HX.out.2.2.1, HX.out.2.2.2, by have : xs.length ≤ xc := HX.out.1.le; have := HX.out.2.2.1; simp only; omega, by have : ys.length ≤ yc := HX.out.2.1.le; have := HX.out.2.2.2; simp only; omega, HX.out.1.dig, HX.out.2.1.dig,
     hset.tj, hset.tc, hset.ds, HS.out.2.2.2.2.1, by have := HS.out.2.2.2.2.2; have := HT4.out.2.2.2.2.2.2.1; have := G_step (a := 2 * n2) (b := 2 * n) (by omega); omega, hn40, HI.out⟩
   have HE := Lib.hid (And.intro E (And.intro hbc0 hbc1))
   have HK := Lib.hid (kA E hset)
   clear E hset S hn2' hw5 he1 he0 HT4 HW HC HB HY HX HZ HS HI hbc0 hbc1
   refine HK.out.mono ?_
   clear HK
   rintro e w6 ⟨rfl, hK⟩
   have HK := Lib.hid (kB HE.out.1 hK)
   clear hK
   go_wp2_with fail
   refine HK.out.mono ?_
   clear HK
   rintro e w7 ⟨rfl, hK⟩
   have HK := Lib.hid (kC HE.out.1 hK)
   clear hK
   go_wp2_with fail
   refine HK.out.mono ?_
   clear HK
   rintro e w8 ⟨rfl, J2, hK⟩
   have hL : Live w8 zb zo (2 * n) := hK.core.ok.live.le (by simp only; omega)
   have HK := Lib.hid hK
   obtain ⟨i0, i1, i2, i3, i4⟩ := iWord
   clear hK
   go_wp2_with (with_reducible refine wpList_clear64 rfl (.tmp 119) 56 rfl 81 i0 uNat i1 i2 _ (2 * n) _ zb zo rfl (fun _ => rfl) hL ?_; intro w9 hu9 hz9)
   have HK := Lib.hid (kE HE.out.1 HE.out.2.1 (kD HE.out.1 HK.out hu9 hz9))
   clear hu9 hz9 hL i0 i1 i2 i3 i4
   refine HK.out.mono ?_
   clear HK
   rintro e w10 ⟨rfl, zs1, J3, hK⟩
   have HK := Lib.hid (kF HE.out.1 HE.out.2.2 hK)
   clear hK
   go_wp2_with fail
   refine HK.out.mono ?_
   clear HK
   rintro e w11 ⟨rfl, zs2, J4, hK⟩
   have HK := Lib.hid (kG HE.out.1 hK)
   clear hK
   go_wp2_with fail
   refine HK.out.mono ?_
   clear HK
   rintro e w12 ⟨rfl, hK⟩
   have HK := Lib.hid (kH HE.out.1 hK)
   clear hK
   go_wp2_with fail
   refine HK.out.mono ?_
   clear HK
   rintro e w13 ⟨rfl, r, hK⟩
   have z9 : (n2 : Int) ≤ (2 : Int) * (n : Int) := by omega
   have z10 : n2 ≤ 2 * n := by omega
   have cz := hK.i1.abs.cell
   rw [Int.natAbs_natCast] at cz
   have HK := Lib.hid (kI HE.out.1 (hK.drew HE.out.1))
   clear hK
   go_wp2_with fail
   go_still_tail 7, (by kernel_rfl)
   go_wp2_with fail
   refine HK.out.mono ?_
   clear HK cz
   rintro e w14 ⟨rfl, rs, hK, hR, hl, hD, hv⟩
   have HK := Lib.hid (And.intro hK (And.intro hR (And.intro hl (And.intro hD hv))))
   clear hK hR hl hD hv
   go_wp2_with fail
   refine leaves_cons (f := 96) (args := #[.pointer (some ⟨sb, 0, none⟩), .int .i64 (ns : Int)]) (by simp) (by simp [go_sem]) ?_
   refine (restore_d sb n' ns J4 .returning w14 HK.out.1.stk HK.out.1.nn).mono ?_
   rintro e u' w15 ⟨rfl, rfl, hS7, hU7⟩
   refine ⟨_, results_none rfl _ _ _, ?_⟩
   exact kEnd HE.out.1 HK.out.1 HK.out.2.1 HK.out.2.2.1 HK.out.2.2.2.1 HK.out.2.2.2.2 hS7 hU7
end Go.Proofs.YthkklkjldpcbkaaGreatDoor
namespace Go.Proofs.YthkklkjldpcbkaaGreatDoor
open Go.RowKit
set_option maxRecDepth 1000000 in
set_option maxHeartbeats 1600000 in
theorem kara_small (T : Int) (n : Nat) (hTn : (n : Int) < T ∨ n < 2) : KaraSpec T n := by
 intro z x y sb ns J xs ys w hz hzc hx hy lx ly h0 ax ay hT hS oz ox oy hG
 have hn40 : 2 * n ≤ 1099511627776 := by have := G_le (2 * n); omega
 have exA := hx.addr (by omega)
 have eyA := hy.addr (by omega)
 have ezA := (hz.2 (by omega)).1
 have hB := basicMul_any z.b z.o z.c x.b x.o x.c y.b y.o y.c n n (2 * n) xs ys w lx ly h0 (by omega) hzc (by omega) (hz.live.le (by omega)) hx.at_ hy.at_ hx.dig hy.dig (by have := hx.le; unfold Apart at ax; omega) (by have := hy.le; unfold Apart at ay; omega)
 rw [exA, eyA, ezA]
 have c9 := hT.cell
 have hfin : ∀ (w' : World) (rs : List Nat), Upd (Rg z.b z.o (z.o + (n + n))) w w' → U64 w' z.b z.o rs → rs.length = n + n → Digs B64 rs → val B64 rs = val B64 xs * val B64 ys → KaraPost w z n (val B64 xs * val B64 ys) sb ns J (.returned (.tuple #[])) w' := fun w' rs u hR hl hD hv =>
  ⟨rs, J, rfl, by omega, hR, hD, hv, u.weak (fun b i ⟨h1, h2, h3⟩ => Or.inl ⟨h1, h2, by omega⟩), hS.upd u (fun b i ⟨h1, h2, h3⟩ hk => by
   subst h1
   obtain ⟨j, rfl⟩ : ∃ j, i = z.o + j := ⟨i - z.o, by omega⟩
   exact oz j (by omega) hk), SI.Le.refl _ _ _⟩
 have HF := Lib.hid (And.intro hB hfin)
 clear hB hfin exA eyA ezA lx ly hx hy hS oz ox oy hG ax ay hz hT
 by_cases h1 : (n : Int) < T
 ·
  have q1 : decide ((n : Int) < T) = true := decide_eq_true h1
  go_enter_defers Tryz.func95, Tryz.ntmps95
  go_wp2_with fail
  refine HF.out.1.mono ?_
  rintro e w' ⟨rs, rfl, h2, h3, h4, h5, h6⟩
  have HR := Lib.hid (HF.out.2 w' rs h2 h3 h4 h5 h6)
  clear h2 h3 h4 h5 h6 HF
  go_wp2_with fail
  exact ⟨_, results_none rfl _ _ _, HR.out⟩
 ·
  have q1 : decide ((n : Int) < T) = false := decide_eq_false h1
  have q2 : decide ((n : Int) < 2) = true := decide_eq_true (by omega)
  go_enter_defers Tryz.func95, Tryz.ntmps95
  go_wp2_with fail
  refine HF.out.1.mono ?_
  rintro e w' ⟨rs, rfl, h2, h3, h4, h5, h6⟩
  have HR := Lib.hid (HF.out.2 w' rs h2 h3 h4 h5 h6)
  clear h2 h3 h4 h5 h6 HF
  go_wp2_with fail
  exact ⟨_, results_none rfl _ _ _, HR.out⟩
theorem kara_any (T : Int) (n : Nat) (IH : ∀ m' n', m' + n' < 2 * n → MulSpec T m' n') : KaraSpec T n := by
 by_cases h : (n : Int) < T ∨ n < 2
 · exact kara_small T n h
 · exact kara_main T n (by omega) (by omega) IH
theorem MulPost.swap {w w' : World} {z : Loc} {p q : Prop} {m n a b sb ns : Nat} {J : SI} {e : Ending} (h : MulPost w z (p ∧ q ∧ n + m ≤ z.c) (n + m) (b * a) sb ns J e w') : MulPost w z (q ∧ p ∧ m + n ≤ z.c) (m + n) (a * b) sb ns J e w' := by
 obtain ⟨r, rs, J', h1, h2, h3, h4, h5, h6, h7, h8, h9⟩ := h
 rw [Nat.mul_comm b a] at h1 h8
 exact ⟨r, rs, J', h1, h2, fun h => h3 ⟨h.2.1, h.1, by omega⟩, by omega, h5, h6, h7, h8, h9⟩
theorem MulRes.swap {w w' : World} {z : Loc} {p q : Prop} {m n a b : Nat} {F : Nat → Nat → Prop} {e : Ending} (h : MulRes w z (p ∧ q ∧ n + m ≤ z.c) (n + m) (b * a) F e w') : MulRes w z (q ∧ p ∧ m + n ≤ z.c) (m + n) (a * b) F e w' := by
 obtain ⟨r, rs, h1, h2, h3, h4, h5, h6, h7, h8, h9⟩ := h
 rw [Nat.mul_comm b a] at h1 h8
 exact ⟨r, rs, h1, h2, fun h => h3 ⟨h.2.1, h.1, by omega⟩, by omega, h5, h6, h7, h8, h9⟩
set_option maxRecDepth 1000000 in
set_option maxHeartbeats 1600000 in
theorem mul_turn (z x y : Loc) (S : Value) (nz m n : Nat) (w : World) (hmn : m < n) (R : Ending → World → Prop) (hR : ∀ e w', R e w' → ∃ v, e = .returned v)
  (h : Calls Tryz.prog 70 #[.slice z.A nz z.c, S, .slice y.A n y.c, .slice x.A m x.c] w R) : Calls Tryz.prog 70 #[.slice z.A nz z.c, S, .slice x.A m x.c, .slice y.A n y.c] w R := by
 have q2 : decide (m < n) = true := decide_eq_true hmn
 have H := Lib.hid h
 have HR := Lib.hid hR
 clear h hR
 go_enter Tryz.func70, Tryz.ntmps70
 go_wp2_with fail
 refine H.out.mono ?_
 intro e w' hr
 obtain ⟨v, rfl⟩ := HR.out e w' hr
 have HH := Lib.hid hr
 clear hr H HR
 go_wp2
 exact HH.out
theorem mul_ge (T : Int) (m n : Nat) (hnm : n ≤ m) (IH : ∀ m' n', m' + n' < m + n → MulSpec T m' n') : MulSpec T m n := by
 by_cases h0 : n = 0
 ·
  intro z x y nz sb ns J xs ys w hz hx hy lx ly rx ry hT hS oz ox oy hG
  refine (mul_nil z x y _ nz m n w h0 hnm).mono ?_
  rintro e w' ⟨rfl, rfl⟩
  have : ys = [] := List.eq_nil_of_length_eq_zero (by omega)
  subst this
  rw [val_nil, Nat.mul_zero]
  exact (MulRes.zero hz).stk hS oz
 by_cases h1 : n = 1
 ·
  subst h1
  intro z x y nz sb ns J xs ys w hz hx hy lx ly rx ry hT hS oz ox oy hG
  have := G_le (m + 1)
  refine (mul_one z x y _ nz m xs ys w hz hx hy lx ly (by omega) (by omega) rx).mono ?_
  intro e w' h
  refine MulRes.stk (z := z) ?_ hS oz
  obtain ⟨r, rs, a1, a2, a3, a4⟩ := h
  exact ⟨r, rs, a1, a2, fun h => a3 h.2.2, a4⟩
 by_cases hT : (n : Int) < T
 ·
  intro z x y nz sb ns J xs ys w hz hx hy lx ly rx ry hTT hS oz ox oy hG
  have := G_le (m + n)
  exact (mul_basic z x y _ nz m n T xs ys w hz hx hy lx ly (by omega) hnm (by omega) rx ry hTT hT).mono (fun e w' h => h.stk hS oz)
 have HK : KaraSpec T n := kara_any T n (fun m' n' h => IH m' n' (by omega))
 by_cases he : n = m
 · exact mul_eq T m n (by omega) he hT HK
 · exact mul_gt T m n (by omega) (by omega) hT HK IH
theorem mul_spec (T : Int) : ∀ (k m n : Nat), m + n = k → MulSpec T m n := by
 intro k
 induction k using Nat.strongRecOn with
 | ind k ih =>
  intro m n hk
  have IH : ∀ m' n', m' + n' < m + n → MulSpec T m' n' := fun m' n' h => ih (m' + n') (by omega) m' n' rfl
  rcases Nat.lt_or_ge m n with h | h
  ·
   intro z x y nz sb ns J xs ys w hz hx hy lx ly rx ry hT hS oz ox oy hG
   refine mul_turn z x y _ nz m n w h _ (fun e w' h => by obtain ⟨r, _, _, h1, _⟩ := h; exact ⟨_, h1⟩) ?_
   exact (mul_ge T n m (Nat.le_of_lt h) (fun m' n' h => IH m' n' (by omega)) z y x nz sb ns J ys xs w hz hy hx ly lx ry rx hT hS oz oy ox (by rw [Nat.add_comm n m]; exact hG)).mono (fun e w' h => h.swap)
  · exact mul_ge T m n h IH
theorem mul_stk (T : Int) (m n : Nat) : MulSpec T m n := mul_spec T _ m n rfl
theorem mul_ge0 (T : Int) (m n : Nat) (hnm : n ≤ m) : MulSpec0 T m n := by
 by_cases h0 : n = 0
 ·
  intro z x y nz xs ys w hz hx hy lx ly rx ry hT hG
  refine (mul_nil z x y _ nz m n w h0 hnm).mono ?_
  rintro e w' ⟨rfl, rfl⟩
  have : ys = [] := List.eq_nil_of_length_eq_zero (by omega)
  subst this
  rw [val_nil, Nat.mul_zero]
  exact MulRes.zero hz
 by_cases h1 : n = 1
 ·
  subst h1
  intro z x y nz xs ys w hz hx hy lx ly rx ry hT hG
  have := G_le (m + 1)
  refine (mul_one z x y _ nz m xs ys w hz hx hy lx ly (by omega) (by omega) rx).mono ?_
  intro e w' h
  obtain ⟨r, rs, a1, a2, a3, a4⟩ := h
  exact ⟨r, rs, a1, a2, fun h => a3 h.2.2, a4⟩
 by_cases hT : (n : Int) < T
 ·
  intro z x y nz xs ys w hz hx hy lx ly rx ry hTT hG
  have := G_le (m + n)
  exact mul_basic z x y _ nz m n T xs ys w hz hx hy lx ly (by omega) hnm (by omega) rx ry hTT hT
 have HK : KaraSpec T n := kara_any T n (fun m' n' _ => mul_stk T m' n')
 by_cases he : n = m
 · exact mul_eq0 T m n (by omega) he hT HK
 · exact mul_gt0 T m n (by omega) (by omega) hT HK (fun m' n' _ => mul_stk T m' n')
theorem mul_top (T : Int) (m n : Nat) : MulSpec0 T m n := by
 rcases Nat.lt_or_ge m n with h | h
 ·
  intro z x y nz xs ys w hz hx hy lx ly rx ry hT hG
  refine mul_turn z x y _ nz m n w h _ (fun e w' h => by obtain ⟨r, _, h1, _⟩ := h; exact ⟨_, h1⟩) ?_
  exact (mul_ge0 T n m (Nat.le_of_lt h) z y x nz ys xs w hz hy hx ly lx ry rx hT (by rw [Nat.add_comm n m]; exact hG)).mono (fun e w' h => h.swap)
 · exact mul_ge0 T m n h
def IntMulRes (w : World) (zb : Nat) (lz lx ly : Loc) (X Y : Int) (w' : World) : Prop :=
 ∃ (r : Loc) (k : Nat), (r = lz ∨ w.heap.size ≤ r.b) ∧ (Apart lz lx ∧ Apart lz ly ∧ (digs X.natAbs).length + (digs Y.natAbs).length ≤ lz.c → r = lz) ∧ k ≤ (digs X.natAbs).length + (digs Y.natAbs).length ∧ IntV w' zb r (X * Y) ∧ Upd (Or2 (Blk zb) (ZF lz k)) w w'
theorem Int_mul_top (T : Int) (zb xb yb : Nat) (lz lx ly : Loc) (sz : Bool) (nz : Nat) (X Y : Int) (w : World) (hz : IntD w zb lz sz nz) (hx : IntV w xb lx X) (hy : IntV w yb ly Y) (hne : xb ≠ yb) (rx : Rel lz lx) (ry : Rel lz ly) (hT : Thr w T)
  (hG : G ((digs X.natAbs).length + (digs Y.natAbs).length) ≤ 1099511627776) :
  Calls Tryz.prog 57 #[.pointer (some ⟨zb, 0, none⟩), .pointer none, .pointer (some ⟨xb, 0, none⟩), .pointer (some ⟨yb, 0, none⟩)] w fun e w' => e = .returned (.tuple #[]) ∧ IntMulRes w zb lz lx ly X Y w' := by
 refine (Int_mul_gen zb xb yb lz lx ly sz nz X Y _ w hz hx hy hne
  (fun r w1 => MulRes w lz (Apart lz lx ∧ Apart lz ly ∧ (digs X.natAbs).length + (digs Y.natAbs).length ≤ lz.c) ((digs X.natAbs).length + (digs Y.natAbs).length) (X.natAbs * Y.natAbs) NoF (.returned (.slice r.A (digs (X.natAbs * Y.natAbs)).length r.c)) w1 ∧ ∃ rs : List Nat, (r = lz ∨ w.heap.size ≤ r.b) ∧
    (Apart lz lx ∧ Apart lz ly ∧ (digs X.natAbs).length + (digs Y.natAbs).length ≤ lz.c → r = lz) ∧ rs.length ≤ (digs X.natAbs).length + (digs Y.natAbs).length ∧ VecV w1 r rs ∧ val B64 rs = X.natAbs * Y.natAbs ∧ Upd (ZF lz rs.length) w w1)
  (fun w' u => ?_) (fun r w1 ⟨_, rs, _, _, _, _, _, hu⟩ => ?_)).mono ?_
 ·
  have hs := u.size
  refine (mul_top T _ _ lz lx ly nz _ _ w' (hz.ok.upd u) (hx.nat.upd0 u) (hy.nat.upd0 u) rfl rfl rx ry (hT.upd u (fun _ h => h)) hG).mono ?_
  rintro e w1 ⟨r, rs, rfl, h1, h2, h3, h4, h5, h6, h7, h8, h9⟩
  rw [val_digs, val_digs] at h7 ⊢
  have hu : Upd (Or2 (ZF lz rs.length) NoF) w w1 := u.then h9 (fun _ _ _ h => h.elim) (fun _ _ _ h => h)
  exact ⟨r, rfl, ⟨r, rs, rfl, h1.imp id (fun h => by omega), h2, h3, h4, h5, h6, h7, h8, hu⟩, rs, h1.imp id (fun h => by omega), h2, h3, ⟨h8, h4, h5, h6⟩, h7, hu.weak (fun b i h => h.elim id (fun h => h.elim))⟩
 · exact ⟨hz.keep hz.ok hu, hx.neg.upd hu (ZF.no hz.ok hx.neg (by decide) _ _), hy.neg.upd hu (ZF.no hz.ok hy.neg (by decide) _ _)⟩
 ·
  rintro e w' ⟨rfl, r, w1, k, ⟨_, rs, h1, h2, h3, h4, h5, h6⟩, rfl⟩
  have hu2 := blk_upd w1 zb k (.slice r.A (digs (X.natAbs * Y.natAbs)).length r.c) (.bool (decide (X * Y < 0)))
  have hz1 := hz.keep hz.ok h6
  have hnb : ∀ i, i < rs.length → ¬ Blk zb r.b (r.o + i) := fun i hi h => hz1.neg.neW (h4.at_ i hi) (by decide) h.symm
  refine ⟨rfl, r, rs.length, h1, h2, h3, ⟨?_, ?_, ?_⟩, (h6.mono (fun _ _ _ h => Or.inr h)).trans (hu2.mono (fun _ _ _ h => Or.inl h))⟩
  · exact (hz1.neg.far _ (by omega)).set _
  ·
   rw [Int.natAbs_mul]
   exact (hz1.abs.set _).far _ (by omega)
  ·
   rw [Int.natAbs_mul]
   have hn := h4.norm
   rw [h5] at hn
   refine hn.upd hu2 (fun i hi => hnb i ?_)
   have := digs_len_le h4.dig
   rw [h5] at this
   omega
set_option maxRecDepth 1000000 in
theorem Int_Mul_any (T : Int) (zb xb yb : Nat) (lz lx ly : Loc) (sz : Bool) (nz : Nat) (X Y : Int) (w : World) (hz : IntD w zb lz sz nz) (hx : IntV w xb lx X) (hy : IntV w yb ly Y) (hne : xb ≠ yb) (rx : Rel lz lx) (ry : Rel lz ly) (hT : Thr w T)
  (hG : G ((digs X.natAbs).length + (digs Y.natAbs).length) ≤ 1099511627776) :
  Calls Tryz.prog 38 #[.pointer (some ⟨zb, 0, none⟩), .pointer (some ⟨xb, 0, none⟩), .pointer (some ⟨yb, 0, none⟩)] w fun e w' => e = .returned (.pointer (some ⟨zb, 0, none⟩)) ∧ IntMulRes w zb lz lx ly X Y w' := by
 have HM := Lib.hid (Int_mul_top T zb xb yb lz lx ly sz nz X Y w hz hx hy hne rx ry hT hG)
 clear hz hx hy rx ry hT hG
 go_enter Tryz.func38, Tryz.ntmps38
 go_wp2_with fail
 refine HM.out.mono ?_
 clear HM
 rintro e w' ⟨rfl, h⟩
 have HH := Lib.hid h
 clear h
 go_wp2
 go_ret
 exact ⟨rfl, HH.out⟩
end Go.Proofs.YthkklkjldpcbkaaGreatDoor
