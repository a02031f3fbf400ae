/- For the claim of laws.FnSquareRoot: MulW, MulB, AddTo. -/
import Derived.Test.YtefeijofhocnpaaGreatDoorKsA2
import Derived.Deep.RegionHeld3
import Derived.StillTailTactics
set_option linter.unusedVariables false
set_option linter.unusedSimpArgs false
namespace Go.Proofs.YtefeijofhocnpaaGreatDoor
open Go.RowKit
theorem bm_step {A As X d R c P Q Y : Nat} (hA : A + P * As = X * Y) (h : As + X * d + 0 = R + c * Q) : (A + P * R) + P * Q * c = X * (Y + P * d) := by
  have e1 : X * (Y + P * d) = A + P * (As + X * d) := by rw [Nat.mul_add, ← hA]; grind
  rw [e1, show As + X * d = R + c * Q by omega]; grind
set_option maxRecDepth 1000000 in
set_option maxHeartbeats 1600000 in
theorem basicMul_any (bz oz cz bx ox cx b_y oy cy m n l : Nat) (xs ys : List Nat) (w : World) (lx : xs.length = m) (ly : ys.length = n) (hm0 : 0 < m) (hl : l = m + n) (hcz : l ≤ cz) (hm : m + n ≤ 1099511627776)
    (hz : Live w bz oz (m + n)) (hx : U64 w bx ox xs) (hy : U64 w b_y oy ys) (dx : Digs B64 xs) (dy : Digs B64 ys)
    (okx : bx ≠ bz ∨ ox + m ≤ oz ∨ oz + (m + n) ≤ ox) (oky : b_y ≠ bz ∨ oy + n ≤ oz ∨ oz + (m + n) ≤ oy) :
    Calls Tryz.prog 116 #[.slice (some ⟨bz, oz, none⟩) l cz, .slice (some ⟨bx, ox, none⟩) m cx, .slice (some ⟨b_y, oy, none⟩) n cy] w fun e w' =>
      ∃ rs : List Nat, e = .returned (.tuple #[]) ∧ Upd (Rg bz oz (oz + (m + n))) w w' ∧ U64 w' bz oz rs ∧ rs.length = m + n ∧ Digs B64 rs ∧ val B64 rs = val B64 xs * val B64 ys := by
  obtain ⟨i0, i1, i2, i3, i4⟩ := iWord
  have p1 : (m : Int) + (n : Int) ≤ (cz : Int) := by omega
  have p2 : (0 : Int) ≤ (m : Int) + (n : Int) := by omega
  subst hl
  have H := Lib.hid (And.intro lx (And.intro ly (And.intro okx oky)))
  clear lx ly okx oky
  go_enter Tryz.func116, Tryz.ntmps116
  go_wp2_with (with_reducible refine wpList_clear64 rfl (.tmp 14) 78 rfl 102 i0 uNat i1 i2 _ (m + n) _ bz oz rfl (fun _ => rfl) hz ?_; intro w1 hu1 hz1)
  have hx1 := hx.updR hu1 (by have := H.out.1; have := H.out.2.2.1; omega)
  have hy1 := hy.updR hu1 (by have := H.out.2.1; have := H.out.2.2.2; omega)
  go_loopw [6, 7, 17] (fun _ _ i wr => ∃ (k : Nat) (zs : List Nat), k ≤ n ∧ i = .int .i64 k ∧ Upd (Rg bz oz (oz + (m + n))) w wr ∧ U64 wr bx ox xs ∧ U64 wr b_y oy ys
      ∧ U64 wr bz oz (zs ++ List.replicate (n - k) 0) ∧ Hid (zs.length = m + k) ∧ Digs B64 zs ∧ Hid (val B64 zs = val B64 xs * val B64 (ys.take k)))
    (fun _ _ i _ => n - (intOf i).toNat)
  case atStart => exact ⟨0, List.replicate m 0, Nat.zero_le _, rfl, hu1, hx1, hy1, by rw [List.replicate_append_replicate]; exact hz1, by show _ = _; simp, Digs.replicate B64_pos _, by show _ = _; simp [val_replicate]⟩
  case round =>
    obtain ⟨k, zs, hk, rfl, hU, hxk, hyk, hR, hL, hD, hC⟩ := hrel
    by_cases hlt : k < n
    · obtain ⟨d, ed, cd, _⟩ := U64.at_ (k := k) (hyk.drop k) H.out.2.1 hlt
      have hdB := dy.at_ ed
      have hrl : n - k = (n - (k + 1)) + 1 := by omega
      by_cases h0 : d = 0
      · have q1 : ((d : Int) == 0) = true := beq_iff_eq.2 (by omega)
        have hC2 := Lib.hid (show val B64 (zs ++ [0]) = val B64 xs * val B64 (ys.take (k + 1)) by
          rw [val_snoc, val_take_at ed, h0]; simpa using hC.out)
        have hL2 := Lib.hid (show (zs ++ [0]).length = m + (k + 1) by rw [List.length_append, hL.out]; rfl)
        have hR2 : U64 wr bz oz ((zs ++ [0]) ++ List.replicate (n - (k + 1)) 0) := by
          rw [List.append_assoc, List.singleton_append, ← List.replicate_succ, ← hrl]; exact hR
        clear ed h0 hC hL hrl
        go_wp2
        go_roundw
        case rel => exact ⟨k + 1, zs ++ [0], by omega, by go_num, hU, hxk, hyk, hR2, hL2, hD.snoc B64_pos, hC2⟩
        case measure => simp [intOf]; omega
      · have q1 : ((d : Int) == 0) = false := beq_eq_false_iff_ne.2 (by omega)
        have q2 : (m : Int) + (k : Int) < (m : Int) + (n : Int) := by omega
        have q3 : (k : Int) + (m : Int) ≤ (cz : Int) := by omega
        have q4 : (k : Int) ≤ (k : Int) + (m : Int) := by omega
        have q5 : k < cz := by omega
        have q6 : (0 : Int) ≤ (m : Int) + (k : Int) := by omega
        have w1 : IntKind.i64.wrap ((m : Int) + (k : Int)) = (m : Int) + (k : Int) := by rw [IntKind.wrap_i64]; omega
        have w2 : IntKind.i64.wrap ((k : Int) + (m : Int)) = (k : Int) + (m : Int) := by rw [IntKind.wrap_i64]; omega
        have hkm : ((k : Int) + (m : Int)).toNat - k = m := by omega
        have hmk : ((m : Int) + (k : Int)).toNat = m + k := by omega
        have HK := Lib.hid (And.intro ed (And.intro h0 hrl))
        clear ed h0 hrl
        obtain ⟨rest, hrest⟩ : ∃ rest, rest = List.replicate (n - (k + 1)) 0 := ⟨_, rfl⟩
        have hcur : zs ++ List.replicate (n - k) 0 = zs.take k ++ (zs.drop k ++ 0 :: rest) := by
          rw [← List.append_assoc, List.take_append_drop, hrest, ← List.replicate_succ, ← HK.out.2.2]
        rw [hcur] at hR
        have hk1 : (zs.take k).length = k := by rw [List.length_take, hL.out]; omega
        have hk2 : (zs.drop k).length = m := by rw [List.length_drop, hL.out]; omega
        have hRa : U64 wr bz oz (zs.take k) := hR.left
        have hRb : U64 wr bz (oz + k) (zs.drop k) := by have := hR.right.left; rwa [hk1] at this
        have hRc : U64 wr bz (oz + k + m) (0 :: rest) := by have := hR.right.right; rwa [hk1, hk2] at this
        have hRL := hRb.live
        rw [hk2] at hRL
        have hS : ∀ w2, Upd (Rg bz (oz + k) (oz + k + m)) wr w2 → U64 w2 bz oz (zs.take k) ∧ U64 w2 bz (oz + k + m) (0 :: rest) := fun w2 u =>
          ⟨hRa.updR u (by rw [hk1]; omega), hRc.updR u (by omega)⟩
        have HZ := Lib.hid (And.intro hk1 (And.intro hk2 hcur))
        clear hk1 hk2 hcur hR hRa hRc
        go_wp2_with fail
        go_region_held3 (fun _ => True) (trivial) ((go_at_call 145; refine (addMulVVWW_any bz (oz + k) _ bz (oz + k) _ bx ox _ m d 0 (zs.drop k) xs _ (by omega) HZ.out.2.1 H.out.1 hRL.drew hRb.drew hxk.drew (hD.drop k) dx hdB B64_pos (UpOk.self _ _ _) (by have := H.out.2.2.1; unfold UpOk; omega)).mono ?_; rintro e w3 ⟨c, rs, rfl, hU2, hR2, hl2, hD2, hv2, hc2⟩; have hU3 := ((Upd.refl (Rg bz (oz + k) (oz + k + m)) wr).drew).trans hU2; have hc0 : Cell w3 bz (oz + (m + k)) (.int .u64 (0 : Nat)) := (by have := (hS w3 hU3).2 0 (by simp); rwa [show oz + k + m + 0 = oz + (m + k) by omega] at this); have hc1 := hc0.cell; have hc3 := hc0.frozen; have HV := Lib.hid (And.intro hl2 hv2); clear hl2 hv2))
        clear hkm hmk q2 q3 q4 q5 q6 w1 w2
        have hUS : Upd (Rg bz oz (oz + (m + n))) w (w3.setCell ⟨bz, oz + (m + k), none⟩ (.int .u64 (c : Int))) :=
          (hU.trans (hU3.mono (by rintro b' i _ ⟨rfl, h1, h2⟩; exact ⟨rfl, by omega, by omega⟩))).setCell (fun _ => ⟨rfl, by omega, by omega⟩) _
        have hz1 := (hS w3 hU3).1.far (.int .u64 (c : Int)) (b' := bz) (i' := oz + (m + k)) (by rw [HZ.out.1]; omega)
        have hz2 := hR2.far (.int .u64 (c : Int)) (b' := bz) (i' := oz + (m + k)) (by rw [HV.out.1]; omega)
        have hz3 := hc0.set (.int .u64 (c : Nat))
        have hz4 : U64 (w3.setCell ⟨bz, oz + (m + k), none⟩ (.int .u64 (c : Int))) bz (oz + (m + k) + 1) rest := by
          have := ((hS w3 hU3).2.drop 1).far (.int .u64 (c : Int)) (b' := bz) (i' := oz + (m + k)) (by omega)
          rwa [List.drop_one, List.tail_cons, show oz + k + m + 1 = oz + (m + k) + 1 by omega] at this
        have hzz : U64 (w3.setCell ⟨bz, oz + (m + k), none⟩ (.int .u64 (c : Int))) bz oz ((zs.take k ++ (rs ++ [c])) ++ rest) := by
          have e1 : (zs.take k ++ (rs ++ [c])).length = m + k + 1 := by rw [List.length_append, List.length_append, HZ.out.1, HV.out.1]; simp; omega
          refine U64.append (hz1.append ?_) (by rw [e1, show oz + (m + k + 1) = oz + (m + k) + 1 by omega]; exact hz4)
          rw [HZ.out.1]
          refine hz2.snoc ?_
          rw [HV.out.1, show oz + k + m = oz + (m + k) by omega]; exact hz3
        have hlen := Lib.hid (show (zs.take k ++ (rs ++ [c])).length = m + (k + 1) by rw [List.length_append, List.length_append, HZ.out.1, HV.out.1]; simp; omega)
        have hval := Lib.hid (show val B64 (zs.take k ++ (rs ++ [c])) = val B64 xs * val B64 (ys.take (k + 1)) by
          rw [val_append, val_snoc, HZ.out.1, HV.out.1, val_take_at HK.out.1, Nat.mul_add, ← Nat.mul_assoc, ← Nat.add_assoc]
          exact bm_step (by rw [← hC.out]; exact (val_take_drop zs k (by rw [hL.out]; omega)).symm) HV.out.2)
        have hKX : k + 1 ≤ n := hlt
        have hdg : Digs B64 (zs.take k ++ (rs ++ [c])) := (hD.take k).append (hD2.snoc hc2)
        rw [hrest] at hzz
        have hx9 := hxk.upd hU3 (by rintro i hi ⟨h1, h2, h3⟩; have := H.out.1; have := H.out.2.2.1; omega)
        have hx9 := hx9.far (.int .u64 (c : Int)) (b' := bz) (i' := oz + (m + k)) (by have := H.out.1; have := H.out.2.2.1; omega)
        have hy9 := hyk.upd hU3 (by rintro i hi ⟨h1, h2, h3⟩; have := H.out.2.1; have := H.out.2.2.2; omega)
        have hy9 := hy9.far (.int .u64 (c : Int)) (b' := bz) (i' := oz + (m + k)) (by have := H.out.2.1; have := H.out.2.2.2; omega)
        clear hz1 hz2 hz3 hz4 hrest hc0 hc1 hc3 hR2 HV HZ HK hU3 hU2 hS hRL hRb
        go_wp2
        go_roundw
        case rel => exact ⟨k + 1, zs.take k ++ (rs ++ [c]), hKX, by go_num, hUS, hx9, hy9, hzz, hlen, hdg, hval⟩
        case measure => simp [intOf]; omega
    · have hkn : k = n := by omega
      subst hkn
      rw [List.take_of_length_le (by rw [H.out.2.1]; omega)] at hC
      rw [Nat.sub_self, List.replicate_zero, List.append_nil] at hR
      clear hxk hyk hlt
      go_wp2
      go_end0
      exact ⟨zs, rfl, hU, hR, hL.out, hD, hC.out⟩
end Go.Proofs.YtefeijofhocnpaaGreatDoor
namespace Go.Proofs.YtefeijofhocnpaaGreatDoor
open Go.RowKit
set_option maxRecDepth 1000000 in
set_option maxHeartbeats 1600000 in
theorem addTo_any (bz oz l cz n xc xb xo : Nat) (xA : Option Addr) (zs xs : List Nat) (w : World) (lz : zs.length = l) (lx : xs.length = n) (hnl : n ≤ l) (hl0 : 0 < l) (hlc : l ≤ cz) (hm : l ≤ 1099511627776) (hnc : n ≤ xc)
    (hA : 0 < n → xA = some ⟨xb, xo, none⟩) (hz : U64 w bz oz zs) (hx : U64 w xb xo xs) (dz : Digs B64 zs) (dx : Digs B64 xs) (okx : UpOk bz oz xb xo n) :
    Calls Tryz.prog 121 #[.slice (some ⟨bz, oz, none⟩) l cz, .slice xA n xc] w fun e w' =>
      ∃ (c : Nat) (rs : List Nat), e = .returned (.tuple #[]) ∧ Upd (Rg bz oz (oz + l)) w w' ∧ U64 w' bz oz rs ∧ rs.length = l ∧ Digs B64 rs ∧ val B64 zs + val B64 xs = val B64 rs + c * B64 ^ l := by
  by_cases hn0 : n = 0
  · subst hn0
    have e0 : xs = [] := List.eq_nil_of_length_eq_zero lx
    subst e0
    have p0 : decide (0 < 0) = false := rfl
    go_enter Tryz.func121, Tryz.ntmps121
    go_wp2
    go_end0
    exact ⟨0, zs, rfl, Upd.refl _ _, hz, lz, dz, by simp⟩
  · obtain rfl := hA (by omega)
    have p0 : (0 : Int) < (n : Int) := by omega
    have p1 : (n : Int) ≤ (cz : Int) := by omega
    have p2 : (n : Int) ≤ (xc : Int) := by omega
    have p3 : (n : Int) ≤ (l : Int) := by omega
    have hzl := hz.live
    rw [lz] at hzl
    have hz0 := hz.take n
    have H := Lib.hid (And.intro lz (And.intro lx (And.intro hz okx)))
    clear lz lx hz hA okx
    have hlen1 := Lib.hid (show (zs.take n).length = n by rw [List.length_take, H.out.1]; omega)
    go_enter Tryz.func121, Tryz.ntmps121
    go_wp2_with fail
    go_still_tail 9, (by kernel_rfl)
    change wpList _ _ _ _ _ w.drew
    go_wp2_with fail
    refine (addVV_any bz oz cz bz oz cz xb xo xc n (zs.take n) xs w.drew (by omega) hlen1.out H.out.2.1 (hzl.drew.le (by omega)) hz0.drew hx.drew (dz.take n) dx (UpOk.self _ _ _) H.out.2.2.2).mono ?_
    rintro e w2 ⟨c1, r1s, rfl, hU2, hR1, hl1, hD1, hv1, hc1⟩
    have hU3 := ((Upd.refl (Rg bz oz (oz + n)) w).drew).trans hU2
    have hU4 : Upd (Rg bz oz (oz + l)) w w2 := hU3.mono (by rintro b' i _ ⟨rfl, h1, h2⟩; exact ⟨rfl, h1, by omega⟩)
    have hz2 : U64 w2 bz (oz + n) (zs.drop n) := (H.out.2.2.1.drop n).upd hU3 (by rintro i hi ⟨h1, h2, h3⟩; omega)
    have hsplit := Lib.hid (val_take_drop (b := B64) zs n (by rw [H.out.1]; omega))
    have hld := Lib.hid (show (zs.drop n).length = l - n by rw [List.length_drop, H.out.1])
    have HR : U64 w2 bz oz (r1s ++ zs.drop n) := hR1.append (by rw [hl1]; exact hz2)
    have HC := Lib.hid (And.intro hl1 hv1)
    clear hl1 hv1
    have hRl := Lib.hid (show (r1s ++ zs.drop n).length = l by rw [List.length_append, HC.out.1, hld.out]; omega)
    by_cases hc0 : c1 = 0
    · have q1 : ((c1 : Int) == 0) = true := beq_iff_eq.2 (by omega)
      have hend := Lib.hid (show val B64 zs + val B64 xs = val B64 (r1s ++ zs.drop n) + 0 * B64 ^ l by
        rw [hsplit.out, val_append, HC.out.1]; have := HC.out.2; rw [hc0] at this; omega)
      clear hc0
      go_wp2
      go_end0
      exact ⟨0, _, rfl, hU4, HR, hRl.out, hD1.append (dz.drop n), hend.out⟩
    · have hc1 : c1 = 1 := by omega
      subst hc1
      by_cases hlt : n < l
      · have q2 : decide (n < l) = true := decide_eq_true hlt
        have q4 : n < cz := by omega
        have hzl2 := hzl.upd hU3
        clear hc0 HR hRl
        go_wp2_with fail
        go_still_tail 7, (by kernel_rfl)
        change wpList _ _ _ _ _ w2.drew
        go_wp2_with fail
        refine (addVW_any bz (oz + n) (cz - n) bz (oz + n) (cz - n) (l - n) 1 (zs.drop n) w2.drew (by omega) (by omega) (by omega) hld.out (hzl2.drew.sub n (l - n) (by omega)) hz2.drew (dz.drop n) (by rw [B64_eq]; omega) (UpOk.self _ _ _)).mono ?_
        rintro e w3 ⟨c2, r2s, rfl, hU5, hR2, hl2, hD2, hv2, hc2, _⟩
        have hU6 := ((Upd.refl (Rg bz (oz + n) (oz + n + (l - n))) w2).drew).trans hU5
        have hR1' : U64 w3 bz oz r1s := hR1.upd hU6 (by rintro i hi ⟨h1, h2, h3⟩; have := HC.out.1; omega)
        have hHR : U64 w3 bz oz (r1s ++ r2s) := hR1'.append (by rw [HC.out.1]; exact hR2)
        have hUU : Upd (Rg bz oz (oz + l)) w w3 := hU4.trans (hU6.mono (by rintro b' i _ ⟨rfl, h1, h2⟩; exact ⟨rfl, by omega, by omega⟩))
        have hlen := Lib.hid (show (r1s ++ r2s).length = l by rw [List.length_append, HC.out.1, hl2]; omega)
        have hend := Lib.hid (show val B64 zs + val B64 xs = val B64 (r1s ++ r2s) + c2 * B64 ^ l by
          rw [hsplit.out, val_append, HC.out.1]
          have h1 := HC.out.2
          have hp : B64 ^ l = B64 ^ n * B64 ^ (l - n) := by rw [← Nat.pow_add]; congr 1; omega
          rw [hp]
          have h3 : B64 ^ n * (val B64 (zs.drop n) + 1) = B64 ^ n * (val B64 r2s + c2 * B64 ^ (l - n)) := by rw [hv2]
          rw [Nat.mul_add, Nat.mul_add] at h3
          have h4 : B64 ^ n * (c2 * B64 ^ (l - n)) = c2 * (B64 ^ n * B64 ^ (l - n)) := Nat.mul_left_comm _ _ _
          omega)
        clear hl2 hv2
        go_wp2
        go_end0
        exact ⟨c2, _, rfl, hUU, hHR, hlen.out, hD1.append hD2, hend.out⟩
      · have q2 : decide (n < l) = false := decide_eq_false hlt
        have hnl : n = l := by omega
        have hend := Lib.hid (show val B64 zs + val B64 xs = val B64 (r1s ++ zs.drop n) + 1 * B64 ^ l by
          rw [hsplit.out, val_append, HC.out.1]
          have h1 := HC.out.2
          rw [← hnl]
          omega)
        clear hc0 hlt hnl
        go_wp2
        go_end0
        exact ⟨1, _, rfl, hU4, HR, hRl.out, hD1.append (dz.drop n), hend.out⟩
end Go.Proofs.YtefeijofhocnpaaGreatDoor
