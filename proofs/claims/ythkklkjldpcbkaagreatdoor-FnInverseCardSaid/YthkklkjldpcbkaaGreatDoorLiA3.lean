/- For the claim of laws.FnInverse: MulW, MulB, AddTo, Grow, Stack, Region. -/
import Derived.Test.YthkklkjldpcbkaaGreatDoorLiA2
import Derived.Deep.RegionHeld3
import Derived.StillTailTactics
import Derived.Test.YthkklkjldpcbkaaGreatDoorLiShelf
import Derived.Shelf.Spec.SlicesGrow
import Derived.Lib.QuoteBits
import Derived.Test.YthkklkjldpcbkaaGreatDoorLiA1
set_option linter.unusedVariables false
set_option linter.unusedSimpArgs false
set_option maxHeartbeats 16000000
set_option maxRecDepth 1000000
namespace Go.Proofs.YthkklkjldpcbkaaGreatDoor
open Go.RowKit
theorem mulAddWW_pos (z : Loc) (nz xb xo xc m y r : Nat) (xs : List Nat) (w : World) (hz : z.Ok w) (lx : xs.length = m) (hm0 : 0 < m) (hm : m + 1 <= 1099511627776)
  (hx : U64 w xb xo xs) (dx : Digs B64 xs) (hy0 : y ≠ 0) (hy : y < B64) (hr : r < B64) (okx : m + 1 <= z.c -> UpOk z.b z.o xb xo m) :
  Calls Tryz.prog 93 #[.slice z.A nz z.c, .slice (some ⟨xb, xo, none⟩) m xc, .int .u64 (y : Int), .int .u64 (r : Int)] w fun e w' => Ya w z (m + 1) (val B64 xs * y + r) e w' := by
 have p3 : ((m : Int) == 0) = false := beq_eq_false_iff_ne.2 (by omega)
 have p4 : ((y : Int) == 0) = false := beq_eq_false_iff_ne.2 (by omega)
 have H := Qq (Qj lx (Qj hx okx))
 clear lx hx okx
 go_enter Tryz.func93, Tryz.ntmps93
 go_wp2_with fail
 refine (make_pos z nz (m + 1) _ _ hz rfl (by omega) hm).mono ?_
 rintro e w1 ⟨b, o, c, rfl, hF, hO, hc, hU⟩
 have r2 : (m : Int) <= (c : Int) := by omega
 have kk : (m : Int) < (m : Int) + 1 := by omega
 have hx1 := H.out.2.1.upd hU (fun _ _ h => h)
 have ukx := hF.up H.out.2.2 H.out.2.1 H.out.1
 have hL : Live w1 b o c := hO.live
 have HH := Qq (Qj hx1 (Qj hF hO))
 clear hx1 hF hO
 go_wp2_with fail
 refine (mulAddVWW_any b o c xb xo xc m y r xs w1 (by omega) H.out.1 (hL.le (by omega)) HH.out.1 dx hy hr ukx).mono ?_
 rintro e w2 ⟨c1, r1s, rfl, hU2, hR1, hl1, hD1, hv1, hc1⟩
 have hL2 := (hL.upd hU2)
 obtain ⟨v0, k0, k1, k2⟩ := hL2.at_ (k := m) (by omega)
 have HD := Qq (Qj hv1 hl1)
 clear hv1 hl1
 go_wp2_with fail
 have hR : U64 (w2.setCell ⟨b, o + m, none⟩ (.int .u64 (c1 : Int))) b o (r1s ++ [c1]) := by
  refine (hR1.far _ (by have := HD.out.2; omega)).snoc ?_
  rw [HD.out.2]
  exact k2.set _
 have hlen : (r1s ++ [c1]).length = m + 1 := by
  rw [List.length_append, HD.out.2]; rfl
 have hval : val B64 (r1s ++ [c1]) = val B64 xs * y + r := by
  rw [Yi, HD.out.2, HD.out.1, Nat.mul_comm (B64 ^ m)]
 have hdig : Digs B64 (r1s ++ [c1]) := hD1.snoc hc1
 have hUp : Upd (Rg b o (o + (m + 1))) w1 (w2.setCell ⟨b, o + m, none⟩ (.int .u64 (c1 : Int))) := by
  refine Upd.setCell (hU2.mono ?_) (fun _ => ⟨rfl, by omega, by omega⟩) _
  rintro b' i _ ⟨rfl, k1, k2⟩; exact ⟨rfl, k1, by omega⟩
 have HN := Qq (Qj hlen hval)
 have hfin := Ya.made (need := m + 1) (N := val B64 xs * y + r) HH.out.2.1 (Nat.le_refl _) (fun h => h) hU hUp
  ⟨HH.out.2.2.upd hUp, by have := digs_len_le hdig; rw [HN.out.2, HN.out.1] at this; simp only; omega, by rw [<- HN.out.2, digs_eq_take hdig]; exact hR.take _, Yc _⟩ rfl
 have HF := Qq hfin
 have hc63 := HH.out.2.2.1
 clear hlen hval hfin hR1 hUp hL2 k2
 refine (norm_len b o c (m + 1) _ _ HN.out.1 hc hc63 hR hdig).mono ?_
 rintro e w4 ⟨rfl, hw4⟩
 cases hw4.symm
 go_wp2
 go_ret
 rw [HN.out.2]
 exact HF.out
theorem mulAddWW_any (z x : Loc) (nz X y r : Nat) (w : World) (hz : z.Ok w) (hx : NatV w x X) (hm : (digs X).length + 1 <= 1099511627776) (hy : y < B64) (hr : r < B64)
  (okx : (digs X).length + 1 <= z.c -> UpOk z.b z.o x.b x.o (digs X).length) :
  Calls Tryz.prog 93 #[.slice z.A nz z.c, .slice x.A (digs X).length x.c, .int .u64 (y : Int), .int .u64 (r : Int)] w fun e w' => Ya w z ((digs X).length + 1) (X * y + r) e w' := by
 by_cases h0 : X = 0 \/ y = 0
 .
  have e0 : X * y + r = r := by rcases h0 with h | h <;> subst h <;> simp
  rw [e0]
  have HS := Qq (setWord_any z nz r w hz hr)
  obtain ⟨m, hm0⟩ : ∃ m, (digs X).length = m := ⟨_, rfl⟩
  rw [hm0]
  have p4 : (m = 0) \/ (y = 0) := by
   rcases h0 with h | h
   . left; rw [<- hm0]; exact Zg.2 h
   . right; exact h
  clear hm okx e0 h0 hm0 hx
  by_cases hm1 : m = 0
  .
   subst hm1
   go_enter Tryz.func93, Tryz.ntmps93
   go_wp2_with fail
   refine HS.out.mono ?_
   rintro e w1 h1
   obtain ⟨q, rfl, h2⟩ := h1
   go_wp2
   go_ret
   exact ⟨q, rfl, h2⟩
  .
   have hy1 : y = 0 := by omega
   subst hy1
   have p3 : ((m : Int) == 0) = false := beq_eq_false_iff_ne.2 (by omega)
   clear p4
   go_enter Tryz.func93, Tryz.ntmps93
   go_wp2_with fail
   refine HS.out.mono ?_
   rintro e w1 h1
   obtain ⟨q, rfl, h2⟩ := h1
   go_wp2
   go_ret
   exact Ya.mono ⟨q, rfl, h2⟩ (by omega)
 .
  have hX : X ≠ 0 := fun h => h0 (Or.inl h)
  have hY : y ≠ 0 := fun h => h0 (Or.inr h)
  have hn0 : 0 < (digs X).length := by
   rcases Nat.eq_zero_or_pos (digs X).length with h | h
   . exact absurd (Zg.1 h) hX
   . exact h
  have e1 := hx.addr (by omega)
  obtain ⟨xA, xc, xb, xo⟩ := x
  simp only at e1
  subst e1
  have := mulAddWW_pos z nz xb xo xc _ y r _ w hz rfl hn0 hm hx.at_ hx.dig hY hy hr okx
  rw [Zv] at this
  exact this
theorem bm_step {A As X d R c P Q Y : Nat} (hA : A + P * As = X * Y) (h : As + X * d + 0 = R + c * Q) : (A + P * R) + P * Q * c = X * (Y + P * d) := by
 have e1 : X * (Y + P * d) = A + P * (As + X * d) := by rw [Nat.mul_add, <- hA]; grind
 rw [e1, show As + X * d = R + c * Q by omega]; grind
theorem basicMul_any (bz oz cz bx ox cx b_y oy cy m n l : Nat) (xs ys : List Nat) (w : World) (lx : xs.length = m) (ly : ys.length = n) (hm0 : 0 < m) (hl : l = m + n) (hcz : l <= cz) (hm : m + n <= 1099511627776)
  (hz : Live w bz oz (m + n)) (hx : U64 w bx ox xs) (hy : U64 w b_y oy ys) (dx : Digs B64 xs) (dy : Digs B64 ys)
  (okx : bx ≠ bz \/ ox + m <= oz \/ oz + (m + n) <= ox) (oky : b_y ≠ bz \/ oy + n <= oz \/ oz + (m + n) <= oy) :
  Calls Tryz.prog 94 #[.slice (some ⟨bz, oz, none⟩) l cz, .slice (some ⟨bx, ox, none⟩) m cx, .slice (some ⟨b_y, oy, none⟩) n cy] w fun e w' =>
   ∃ rs : List Nat, e = .returned (.tuple #[]) /\ Upd (Rg bz oz (oz + (m + n))) w w' /\ U64 w' bz oz rs /\ rs.length = m + n /\ Digs B64 rs /\ val B64 rs = val B64 xs * val B64 ys := by
 obtain ⟨i0, i1, i2, i3, i4⟩ := iWord
 have p1 : (m : Int) + (n : Int) <= (cz : Int) := by omega
 have p2 : (0 : Int) <= (m : Int) + (n : Int) := by omega
 subst hl
 have H := Qq (Qj lx (Qj ly (Qj okx oky)))
 clear lx ly okx oky
 go_enter Tryz.func94, Tryz.ntmps94
 go_wp2_with (with_reducible refine wpList_clear64 rfl (.tmp 14) 56 rfl 81 i0 uNat i1 i2 _ (m + n) _ bz oz rfl (fun _ => rfl) hz ?_; intro w1 hu1 hz1)
 have hx1 := hx.updR hu1 (by have := H.out.1; have := H.out.2.2.1; omega)
 have hy1 := hy.updR hu1 (by have := H.out.2.1; have := H.out.2.2.2; omega)
 go_loopw [6, 7, 17] (fun _ _ i wr => ∃ (k : Nat) (zs : List Nat), k <= n /\ i = .int .i64 k /\ Upd (Rg bz oz (oz + (m + n))) w wr /\ U64 wr bx ox xs /\ U64 wr b_y oy ys
   /\ U64 wr bz oz (zs ++ List.replicate (n - k) 0) /\ Hid (zs.length = m + k) /\ Digs B64 zs /\ Hid (val B64 zs = val B64 xs * val B64 (ys.take k)))
  (fun _ _ i _ => n - (intOf i).toNat)
 case atStart => exact ⟨0, List.replicate m 0, Nat.zero_le _, rfl, hu1, hx1, hy1, by rw [List.replicate_append_replicate]; exact hz1, by show _ = _; simp, Digs.replicate Zy _, by show _ = _; simp [val_replicate]⟩
 case round =>
  obtain ⟨k, zs, hk, rfl, hU, hxk, hyk, hR, hL, hD, hC⟩ := hrel
  by_cases hlt : k < n
  .
   obtain ⟨d, ed, cd, _⟩ := U64.at_ (k := k) (hyk.drop k) H.out.2.1 hlt
   have hdB := dy.at_ ed
   have hrl : n - k = (n - (k + 1)) + 1 := by omega
   by_cases h0 : d = 0
   .
    have q1 : ((d : Int) == 0) = true := beq_iff_eq.2 (by omega)
    have hC2 := Qq (show val B64 (zs ++ [0]) = val B64 xs * val B64 (ys.take (k + 1)) by
     rw [Yi, Yj ed, h0]; simpa using hC.out)
    have hL2 := Qq (show (zs ++ [0]).length = m + (k + 1) by rw [List.length_append, hL.out]; rfl)
    have hR2 : U64 wr bz oz ((zs ++ [0]) ++ List.replicate (n - (k + 1)) 0) := by
     rw [List.append_assoc, List.singleton_append, <- List.replicate_succ, <- hrl]; exact hR
    clear ed h0 hC hL hrl
    go_wp2
    go_roundw
    case rel => exact ⟨k + 1, zs ++ [0], by omega, by go_num, hU, hxk, hyk, hR2, hL2, hD.snoc Zy, hC2⟩
    case measure => simp [intOf]; omega
   .
    have q1 : ((d : Int) == 0) = false := beq_eq_false_iff_ne.2 (by omega)
    have q2 : (m : Int) + (k : Int) < (m : Int) + (n : Int) := by omega
    have q3 : (k : Int) + (m : Int) <= (cz : Int) := by omega
    have q4 : (k : Int) <= (k : Int) + (m : Int) := by omega
    have q5 : k < cz := by omega
    have q6 : (0 : Int) <= (m : Int) + (k : Int) := by omega
    have w1 : IntKind.i64.wrap ((m : Int) + (k : Int)) = (m : Int) + (k : Int) := by rw [IntKind.wrap_i64]; omega
    have w2 : IntKind.i64.wrap ((k : Int) + (m : Int)) = (k : Int) + (m : Int) := by rw [IntKind.wrap_i64]; omega
    have hkm : ((k : Int) + (m : Int)).toNat - k = m := by omega
    have hmk : ((m : Int) + (k : Int)).toNat = m + k := by omega
    have HK := Qq (Qj ed (Qj h0 hrl))
    clear ed h0 hrl
    obtain ⟨rest, hrest⟩ : ∃ rest, rest = List.replicate (n - (k + 1)) 0 := ⟨_, rfl⟩
    have hcur : zs ++ List.replicate (n - k) 0 = zs.take k ++ (zs.drop k ++ 0 :: rest) := by
     rw [<- List.append_assoc, List.take_append_drop, hrest, <- List.replicate_succ, <- HK.out.2.2]
    rw [hcur] at hR
    have hk1 : (zs.take k).length = k := by rw [List.length_take, hL.out]; omega
    have hk2 : (zs.drop k).length = m := by rw [List.length_drop, hL.out]; omega
    have hRa : U64 wr bz oz (zs.take k) := hR.left
    have hRb : U64 wr bz (oz + k) (zs.drop k) := by have := hR.right.left; rwa [hk1] at this
    have hRc : U64 wr bz (oz + k + m) (0 :: rest) := by have := hR.right.right; rwa [hk1, hk2] at this
    have hRL := hRb.live
    rw [hk2] at hRL
    have hS : ∀ w2, Upd (Rg bz (oz + k) (oz + k + m)) wr w2 -> U64 w2 bz oz (zs.take k) /\ U64 w2 bz (oz + k + m) (0 :: rest) := fun w2 u =>
     ⟨hRa.updR u (by rw [hk1]; omega), hRc.updR u (by omega)⟩
    have HZ := Qq (Qj hk1 (Qj hk2 hcur))
    clear hk1 hk2 hcur hR hRa hRc
    go_wp2_with fail
    go_region_held3 (fun _ => True) (trivial) ((go_at_call 115; refine (addMulVVWW_any bz (oz + k) _ bz (oz + k) _ bx ox _ m d 0 (zs.drop k) xs _ (by omega) HZ.out.2.1 H.out.1 hRL.drew hRb.drew hxk.drew (hD.drop k) dx hdB Zy (UpOk.self _ _ _) (by have := H.out.2.2.1; unfold UpOk; omega)).mono ?_; rintro e w3 ⟨c, rs, rfl, hU2, hR2, hl2, hD2, hv2, hc2⟩; have hU3 := ((Upd.refl (Rg bz (oz + k) (oz + k + m)) wr).drew).trans hU2; have hc0 : Cell w3 bz (oz + (m + k)) (.int .u64 (0 : Nat)) := (by have := (hS w3 hU3).2 0 (by simp); rwa [show oz + k + m + 0 = oz + (m + k) by omega] at this); have hc1 := hc0.cell; have hc3 := hc0.frozen; have HV := Qq (Qj hl2 hv2); clear hl2 hv2))
    clear hkm hmk q2 q3 q4 q5 q6 w1 w2
    have hUS : Upd (Rg bz oz (oz + (m + n))) w (w3.setCell ⟨bz, oz + (m + k), none⟩ (.int .u64 (c : Int))) :=
     (hU.trans (hU3.mono (by rintro b' i _ ⟨rfl, h1, h2⟩; exact ⟨rfl, by omega, by omega⟩))).setCell (fun _ => ⟨rfl, by omega, by omega⟩) _
    have hz1 := (hS w3 hU3).1.far (.int .u64 (c : Int)) (b' := bz) (i' := oz + (m + k)) (by rw [HZ.out.1]; omega)
    have hz2 := hR2.far (.int .u64 (c : Int)) (b' := bz) (i' := oz + (m + k)) (by rw [HV.out.1]; omega)
    have hz3 := hc0.set (.int .u64 (c : Nat))
    have hz4 : U64 (w3.setCell ⟨bz, oz + (m + k), none⟩ (.int .u64 (c : Int))) bz (oz + (m + k) + 1) rest := by
     have := ((hS w3 hU3).2.drop 1).far (.int .u64 (c : Int)) (b' := bz) (i' := oz + (m + k)) (by omega)
     rwa [List.drop_one, List.tail_cons, show oz + k + m + 1 = oz + (m + k) + 1 by omega] at this
    have hzz : U64 (w3.setCell ⟨bz, oz + (m + k), none⟩ (.int .u64 (c : Int))) bz oz ((zs.take k ++ (rs ++ [c])) ++ rest) := by
     have e1 : (zs.take k ++ (rs ++ [c])).length = m + k + 1 := by rw [List.length_append, List.length_append, HZ.out.1, HV.out.1]; simp; omega
     refine U64.append (hz1.append ?_) (by rw [e1, show oz + (m + k + 1) = oz + (m + k) + 1 by omega]; exact hz4)
     rw [HZ.out.1]
     refine hz2.snoc ?_
     rw [HV.out.1, show oz + k + m = oz + (m + k) by omega]; exact hz3
    have hlen := Qq (show (zs.take k ++ (rs ++ [c])).length = m + (k + 1) by rw [List.length_append, List.length_append, HZ.out.1, HV.out.1]; simp; omega)
    have hval := Qq (show val B64 (zs.take k ++ (rs ++ [c])) = val B64 xs * val B64 (ys.take (k + 1)) by
     rw [val_append, Yi, HZ.out.1, HV.out.1, Yj HK.out.1, Nat.mul_add, <- Nat.mul_assoc, <- Nat.add_assoc]
     exact bm_step (by rw [<- hC.out]; exact (Zq zs k (by rw [hL.out]; omega)).symm) HV.out.2)
    have hKX : k + 1 <= n := hlt
    have hdg : Digs B64 (zs.take k ++ (rs ++ [c])) := (hD.take k).append (hD2.snoc hc2)
    rw [hrest] at hzz
    have hx9 := hxk.upd hU3 (by rintro i hi ⟨h1, h2, h3⟩; have := H.out.1; have := H.out.2.2.1; omega)
    have hx9 := hx9.far (.int .u64 (c : Int)) (b' := bz) (i' := oz + (m + k)) (by have := H.out.1; have := H.out.2.2.1; omega)
    have hy9 := hyk.upd hU3 (by rintro i hi ⟨h1, h2, h3⟩; have := H.out.2.1; have := H.out.2.2.2; omega)
    have hy9 := hy9.far (.int .u64 (c : Int)) (b' := bz) (i' := oz + (m + k)) (by have := H.out.2.1; have := H.out.2.2.2; omega)
    clear hz1 hz2 hz3 hz4 hrest hc0 hc1 hc3 hR2 HV HZ HK hU3 hU2 hS hRL hRb
    go_wp2
    go_roundw
    case rel => exact ⟨k + 1, zs.take k ++ (rs ++ [c]), hKX, by go_num, hUS, hx9, hy9, hzz, hlen, hdg, hval⟩
    case measure => simp [intOf]; omega
  .
   have hkn : k = n := by omega
   subst hkn
   rw [List.take_of_length_le (by rw [H.out.2.1]; omega)] at hC
   rw [Nat.sub_self, List.replicate_zero, List.append_nil] at hR
   clear hxk hyk hlt
   go_wp2
   go_end0
   exact ⟨zs, rfl, hU, hR, hL.out, hD, hC.out⟩
open Go.RowKit Go.Shelf
theorem Live.cells {w : World} {b c : Nat} (h : Live w b 0 c) : ∃ cs : List Value, cs.length = c /\ ∀ j v, cs[j]? = some v -> w.cell? (Addr.add ⟨b, 0, none⟩ j) = some v := by
 induction c with
 | zero => exact ⟨[], rfl, fun j v hj => by simp at hj⟩
 | succ c ih =>
  obtain ⟨cs, hl, hc⟩ := ih (h.le (by omega))
  obtain ⟨v, hv⟩ := h c (by omega)
  refine ⟨cs ++ [v], by simp [hl], fun j u hj => ?_⟩
  by_cases hjc : j < cs.length
  .
   rw [List.getElem?_append_left hjc] at hj
   exact hc j u hj
  .
   rw [List.getElem?_append_right (by omega)] at hj
   have : j = c := by
    have := (List.getElem?_eq_some_iff.1 hj).1
    simp at this; omega
   subst this
   rw [hl, Nat.sub_self] at hj
   simp at hj
   subst hj
   rw [Addr.add_lit]; exact hv.cell
theorem Live.new (w : World) (xs : Array Value) : Live (w.alloc (.cells xs 81)) w.heap.size 0 xs.size := fun i hi =>
 ⟨xs[i], Zh.word ⟨xs, heap_alloc_new w _, by simp [hi]⟩⟩
def Grown (w : World) (z : Loc) (need : Nat) (r : Loc) (w' : World) : Prop :=
 (r = z /\ w' = w) \/ (r.b = w.heap.size /\ r.o = 0 /\ need <= r.c /\ r.Ok w' /\ Upd NoF w w')
theorem grown_any {f : Nat} {ρ : Ren} (L : Lays8.n4 Tryz.prog ρ) (hf : ρ.f 4 = f) (ht : ρ.t 25 = 81) (z : Loc) (l n : Nat) (w : World) (hz : z.Ok w) (h0 : z.o = 0) (hlc : l <= z.c) (hN : z.c = 0 -> z.A = none)
  (hln : l + n <= 1099511627776) :
  Calls Tryz.prog f #[.slice z.A l z.c, .int .i64 n] w fun e w' => ∃ r : Loc, e = .returned (.slice r.A l r.c) /\ l + n <= r.c /\ Grown w z (l + n) r w' := by
 subst hf
 obtain ⟨i0, i1, i2, i3, i4⟩ := iWord
 by_cases hroom : l + n <= z.c
 .
  refine (Any8.slices_Grow_room L z.A l z.c n w hlc hz.1 (by omega) hroom).mono ?_
  rintro e w' ⟨rfl, rfl⟩
  exact ⟨z, rfl, hroom, Or.inl ⟨rfl, rfl⟩⟩
 .
  obtain ⟨cs, hcl, hcs⟩ : ∃ cs : List Value, cs.length = z.c /\ ∀ a, z.A = some a -> ∀ j v, cs[j]? = some v -> w.cell? (a.add j) = some v := by
   by_cases hc : z.c = 0
   . exact ⟨[], hc.symm, fun a ha => by rw [hN hc] at ha; cases ha⟩
   .
    obtain ⟨hA, hL⟩ := hz.2 (by omega)
    rw [h0] at hL hA
    obtain ⟨cs, h1, h2⟩ := hL.cells
    exact ⟨cs, h1, fun a ha => by rw [hA] at ha; cases ha; exact h2⟩
  have hg := grownCap_ge w (l + n) z.c 81
  have hg2 := grownCap_le_maxLen w (l + n) z.c 81 (by simp only [maxLen]; omega)
  simp only [maxLen] at hg2
  refine (Any8.slices_Grow_grow L i0 (.int .u64 0) (by rw [ht]; exact i1) i2 (by omega) z.A l z.c n cs w hlc (by omega) (by rw [i4]; omega) (by omega) (by rw [i3, hcl]; omega) ?_ hcs).mono ?_
  .
   intro h
   by_cases hc : z.c = 0
   . exact hc
   . rw [(hz.2 (by omega)).1] at h; cases h
  .
   rintro e w' ⟨rfl, rfl⟩
   rw [ht]
   generalize grownCap w (l + n) z.c 81 = g at hg hg2
   have hsz : (cs.toArray ++ Builtin.zeroCells (Value.int .u64 0).cells (l + n - z.c) ++ Builtin.zeroCells (Value.int .u64 0).cells (g - (l + n))).size = g := by
    have z1 : ∀ k, (Builtin.zeroCells (Value.int .u64 0).cells k).size = k := fun k => by
     have := congrArg List.length (zeroCells_one k); simpa [vals, Value.cells] using this
    simp only [Array.size_append, z1, List.size_toArray, hcl]; omega
   refine ⟨Loc.mk1 w.heap.size 0 g, rfl, hg, Or.inr ⟨rfl, rfl, hg, Loc.Ok.mk1 (by omega) ?_, ((Upd.refl NoF w).drew).alloc _⟩⟩
   have := Live.new w.drew (cs.toArray ++ Builtin.zeroCells (Value.int .u64 0).cells (l + n - z.c) ++ Builtin.zeroCells (Value.int .u64 0).cells (g - (l + n)))
   rw [hsz] at this
   exact this
inductive SI where
 | none
 | some (ib : Nat) (l : Loc)
def SI.K (sb n : Nat) : SI -> Nat -> Nat -> Prop
 | .none, b, _ => b = sb
 | .some ib l, b, i => b = sb \/ b = ib \/ (b = l.b /\ n <= i /\ 0 < l.c)
def StkV (w : World) (sb n : Nat) : SI -> Prop
 | .none => n = 0 /\ Zh 129 w sb 0 (.pointer Option.none)
 | .some ib l => ib ≠ sb /\ Zh 129 w sb 0 (.pointer (Option.some ⟨ib, 0, Option.none⟩)) /\ Zh 138 w ib 0 (.slice l.A n l.c) /\ n <= l.c /\ l.o = 0 /\ l.Ok w /\ (l.c = 0 -> l.A = Option.none) /\ (0 < l.c -> l.b ≠ sb /\ l.b ≠ ib)
def SI.Le (w : World) (sb : Nat) (J J' : SI) : Prop := ∀ n b i, b < w.heap.size -> J'.K sb n b i -> J.K sb n b i
theorem SI.Le.refl (w : World) (sb : Nat) (J : SI) : SI.Le w sb J J := fun _ _ _ _ h => h
theorem SI.K.mono {sb n m : Nat} {J : SI} {b i : Nat} (h : J.K sb m b i) (hnm : n <= m) : J.K sb n b i := by
 cases J with
 | none => exact h
 | some ib l => exact h.imp id (Or.imp id (fun h => ⟨h.1, by omega, h.2.2⟩))
theorem StkV.upd {F : Nat -> Nat -> Prop} {w w' : World} {sb n : Nat} {J : SI} (h : StkV w sb n J) (u : Upd F w w') (hF : ∀ b i, F b i -> ¬ J.K sb n b i) : StkV w' sb n J := by
 cases J with
 | none => exact ⟨h.1, h.2.upd u (fun hf => hF _ _ hf rfl)⟩
 | some ib l =>
  obtain ⟨h1, h2, h3, h4, h5, h6, h7, h8⟩ := h
  exact ⟨h1, h2.upd u (fun hf => hF _ _ hf (Or.inl rfl)), h3.upd u (fun hf => hF _ _ hf (Or.inr (Or.inl rfl))), h4, h5, h6.upd u, h7, h8⟩
theorem StkV.upd0 {w w' : World} {sb n : Nat} {J : SI} (h : StkV w sb n J) (u : Upd NoF w w') : StkV w' sb n J := h.upd u (fun _ _ h => h.elim)
theorem getStack_any (w : World) : Calls Tryz.prog 85 #[] w fun e w' => ∃ sb, e = .returned (.pointer (some ⟨sb, 0, none⟩)) /\ sb = w.heap.size /\ Upd NoF w w' /\ StkV w' sb 0 .none := by
 go_enter Tryz.func85, Tryz.ntmps85
 go_wp2
 go_ret
 exact ⟨_, rfl, rfl, (Upd.refl _ _).alloc _, rfl, ⟨_, heap_alloc_new w _, by simp⟩⟩
theorem si_save_any (ib n c : Nat) (A : Option Addr) (w : World) (h : Zh 138 w ib 0 (.slice A n c)) :
  Calls Tryz.prog 118 #[.pointer (some ⟨ib, 0, none⟩)] w fun e w' => e = .returned (.int .i64 (n : Int)) /\ w' = w := by
 have c0 := h.cell
 go_enter Tryz.func118, Tryz.ntmps118
 go_wp2
 go_ret
 exact ⟨rfl, rfl⟩
theorem save_any (sb n : Nat) (J : SI) (w : World) (h : StkV w sb n J) :
  Calls Tryz.prog 97 #[.pointer (some ⟨sb, 0, none⟩)] w fun e w' => e = .returned (.int .i64 (n : Int)) /\ w' = w := by
 cases J with
 | none =>
  obtain ⟨rfl, h1⟩ := h
  have c0 := h1.cell
  go_enter Tryz.func97, Tryz.ntmps97
  go_wp2
  go_ret
  exact ⟨rfl, rfl⟩
 | some ib l =>
  obtain ⟨h1, h2, h3, h4⟩ := h
  have c0 := h2.cell
  go_enter Tryz.func97, Tryz.ntmps97
  go_wp2_with (go_at_call 118; refine (si_save_any ib n _ _ w h3).mono ?_; rintro e w' ⟨rfl, rfl⟩)
  go_ret
  exact ⟨rfl, rfl⟩
theorem StkV.cut {w : World} {sb n k ib : Nat} {l : Loc} (h : StkV w sb n (.some ib l)) (hk : k <= n) : StkV (w.setCell ⟨ib, 0, none⟩ (.slice l.A k l.c)) sb k (.some ib l) := by
 obtain ⟨h1, h2, h3, h4, h5, h6, h7, h8⟩ := h
 exact ⟨h1, h2.far _ (by omega), h3.set _, by omega, h5, h6.upd ((Upd.refl (fun _ _ => True) w).setCell (fun _ => trivial) _), h7, h8⟩
theorem si_restore_any (ib n k : Nat) (l : Loc) (w : World) (h : Zh 138 w ib 0 (.slice l.A n l.c)) (hk : k <= n) (hn : n <= l.c) :
  Calls Tryz.prog 117 #[.pointer (some ⟨ib, 0, none⟩), .int .i64 (k : Int)] w fun e w' => e = .returned (.tuple #[]) /\ w' = w.setCell ⟨ib, 0, none⟩ (.slice l.A k l.c) := by
 have c0 := h.cell
 have c1 := h.frozen
 have q1 : (k : Int) <= (l.c : Int) := by omega
 go_enter Tryz.func117, Tryz.ntmps117
 go_wp2
 go_end0
 exact ⟨rfl, rfl⟩
theorem si_free_any (ib n : Nat) (l : Loc) (w : World) (h : Zh 138 w ib 0 (.slice l.A n l.c)) :
  Calls Tryz.prog 105 #[.pointer (some ⟨ib, 0, none⟩)] w fun e w' => e = .returned (.tuple #[]) /\ w' = w.setCell ⟨ib, 0, none⟩ (.slice l.A 0 l.c) := by
 have c0 := h.cell
 have c1 := h.frozen
 have q1 : (0 : Int) <= (l.c : Int) := by omega
 go_enter Tryz.func105, Tryz.ntmps105
 go_wp2
 go_end0
 refine ⟨rfl, ?_⟩
 cases l.A <;> simp
theorem andNot_three (i : Nat) (h : i < 9223372036854775804) : bits .andNot .i64 (i : Int) 3 = ((i / 4 * 4 : Nat) : Int) := by
 show IntKind.i64.wrap ((BitVec.ofInt 64 (i : Int) &&& ~~~BitVec.ofInt 64 ((3 : Nat) : Int)).toNat : Int) = _
 rw [BitVec.toNat_and, BitVec.toNat_not, ofInt_u64 i (by omega), ofInt_u64 3 (by omega)]
 have e : 2 ^ 64 - 1 - 3 = 18446744073709551612 := by decide
 rw [e, nat_hi64_2, Nat.mod_eq_of_lt (by omega)]
 exact Lib.wrap_i64_small _ (by omega)
theorem si_nat_any (ib n m : Nat) (l : Loc) (w : World) (h : Zh 138 w ib 0 (.slice l.A n l.c)) (hl : l.Ok w) (hn : n <= l.c) (h0 : l.o = 0) (hN : l.c = 0 -> l.A = none) (hb : 0 < l.c -> l.b ≠ ib) (hm0 : 0 < m) (hm : n + m + 3 <= 1099511627776) :
  Calls Tryz.prog 120 #[.pointer (some ⟨ib, 0, none⟩), .int .i64 (m : Int)] w fun e w' => ∃ (r : Loc) (n' : Nat),
   e = .returned (.slice (some ⟨r.b, n, none⟩) m m) /\ n + m <= n' /\ n' <= n + m + 3 /\ n' <= r.c /\ r.o = 0 /\ (r = l \/ w.heap.size <= r.b) /\ r.Ok w' /\ r.b ≠ ib /\ Zh 138 w' ib 0 (.slice r.A n' r.c) ∧
   Upd (fun b i => b = ib \/ (b = l.b /\ n <= i /\ 0 < l.c)) w w' := by
 have c0 := h.cell
 have c1 := h.frozen
 obtain ⟨k, ek, k1, k2⟩ : ∃ k : Nat, bits .andNot .i64 ((m : Int) + 3) 3 = (k : Int) /\ m <= k /\ k <= m + 3 := ⟨(m + 3) / 4 * 4, andNot_three (m + 3) (by omega), by omega, by omega⟩
 have p0 : (0 : Int) < (m : Int) := by omega
 go_enter Tryz.func120, Tryz.ntmps120
 go_wp2_with fail
 clear ek
 refine (grown_any Tryz.growW rfl rfl l n k w hl h0 hn hN (by omega)).mono ?_
 rintro e w1 ⟨r, rfl, hrc, hg⟩
 have hr : r.Ok w1 /\ r.o = 0 /\ (r = l \/ w.heap.size <= r.b) /\ r.b ≠ ib /\ Upd NoF w w1 := by
  rcases hg with ⟨rfl, rfl⟩ | ⟨g1, g2, g3, g4, g5⟩
  . exact ⟨hl, h0, Or.inl rfl, hb (by omega), Upd.refl _ _⟩
  . exact ⟨g4, g2, Or.inr (by omega), by have := h.lt; omega, g5⟩
 obtain ⟨hO, ho, hbb, hbi, hU⟩ := hr
 have h1 := h.upd hU (fun h => h)
 obtain ⟨hA, hL⟩ := hO.2 (by omega)
 obtain ⟨A, c, b, o⟩ := r
 simp only at hA ho hrc hL hbi hbb
 subst ho
 subst hA
 have c2 := h1.cell
 have c3 := h1.frozen
 have q1 : (n : Int) + (k : Int) <= (c : Int) := by omega
 have q2 : (0 : Int) <= (n : Int) + (k : Int) := by omega
 have q3 : n < c := by omega
 have q4 : (n : Int) + (m : Int) <= (c : Int) := by omega
 have q5 : (n : Int) <= (n : Int) + (m : Int) := by omega
 have q6 : n < n + m := by omega
 have q7 : n + m - n = m := by omega
 obtain ⟨v0, k3, k4, k5⟩ := hL.at_ (k := n) q3
 simp only [Nat.zero_add] at k3 k4 k5
 have hb0 := h.lt
 have hin : b < w.heap.size -> (b = l.b /\ 0 < l.c) := by
  intro hh
  rcases hbb with e | e
  . subst e; exact ⟨rfl, by simp only; omega⟩
  . omega
 have HI := Qq (Qj hin hbb)
 clear hg h c0 c1 hin hbb q6 q7
 have hfin : Ending.returned (Value.slice (some (cutA ⟨b, 0, none⟩ n (n + m) 1)) (n + m - n) (n + m - n)) = .returned (.slice (some ⟨b, n, none⟩) m m) := by
  rw [cutA_lt (by omega), Nat.add_sub_cancel_left, Nat.zero_add]
 go_wp2_with fail
 go_ret
 have u1 : Upd (fun b i => b = ib \/ (b = l.b /\ n <= i /\ 0 < l.c)) w ((w1.setCell ⟨ib, 0, none⟩ (.slice (some ⟨b, 0, none⟩) n c)).setCell ⟨ib, 0, none⟩ (.slice (some ⟨b, 0, none⟩) (n + k) c)) :=
  (((hU.mono (fun _ _ _ h => h.elim)).setCell (fun _ => Or.inl rfl) _).setCell (fun _ => Or.inl rfl) _)
 refine ⟨⟨some ⟨b, 0, none⟩, c, b, 0⟩, n + k, hfin, by omega, by omega, hrc, rfl, HI.out.2, ?_, hbi, ?_, u1.setCell (fun hh => Or.inr ⟨(HI.out.1 hh).1, Nat.le_refl _, (HI.out.1 hh).2⟩) _⟩
 . exact hO.upd (((Upd.refl (fun _ _ => True) w1).setCell (fun _ => trivial) _).setCell (fun _ => trivial) _ |>.setCell (fun _ => trivial) _)
 . exact ((h1.set _).set _).far _ (by omega)
def StkNat (w : World) (sb n m : Nat) (J : SI) (e : Ending) (w' : World) : Prop :=
 ∃ (t : Loc) (J' : SI) (n' : Nat), e = .returned (.slice t.A m t.c) /\ m <= t.c /\ t.Ok w' /\ ((∀ i, i < t.c -> J.K sb n t.b (t.o + i)) \/ w.heap.size <= t.b) /\ (∀ i, i < t.c -> ¬ J'.K sb n' t.b (t.o + i)) ∧
  StkV w' sb n' J' /\ n <= n' /\ n' <= n + m + 3 /\ SI.Le w sb J J' /\ Upd (J.K sb n) w w'
theorem stk_nat_some (sb n m ib : Nat) (l : Loc) (w : World) (h : StkV w sb n (.some ib l)) (hm0 : 0 < m) (hm : n + m + 3 <= 1099511627776) :
  Calls Tryz.prog 98 #[.pointer (some ⟨sb, 0, none⟩), .int .i64 (m : Int)] w fun e w' => StkNat w sb n m (.some ib l) e w' := by
 obtain ⟨h1, h2, h3, h4, h5, h6, h7, h8⟩ := h
 have c0 := h2.cell
 have HS := si_nat_any ib n m l w h3 h6 h4 h5 h7 (fun h => (h8 h).2) hm0 hm
 go_enter Tryz.func98, Tryz.ntmps98
 go_wp2_with fail
 refine HS.mono ?_
 rintro e w1 ⟨r, n', rfl, g1, g2, g3, g4, g5, g6, g7, g8, g9⟩
 have hsb : r.b ≠ sb := by
  rcases g5 with rfl | g5
  . exact (h8 (by omega)).1
  . have := h2.lt; omega
 have hres : StkNat w sb n m (.some ib l) (.returned (.slice (some ⟨r.b, n, none⟩) m m)) w1 := by
  refine ⟨⟨some ⟨r.b, n, none⟩, m, r.b, n⟩, .some ib r, n', rfl, Nat.le_refl _, ⟨by simp only; omega, fun _ => ⟨rfl, ?_⟩⟩, ?_, ?_, ⟨h1, h2.upd g9 ?_, g8, g3, g4, g6, ?_, fun _ => ⟨hsb, g7⟩⟩, by omega, g2, ?_, g9.mono ?_⟩
  .
   have := (g6.2 (by omega)).2
   rw [g4] at this
   have := this.sub n m (by omega)
   rwa [Nat.zero_add] at this
  .
   rcases g5 with rfl | g5
   . left; intro i hi; exact Or.inr (Or.inr ⟨rfl, Nat.le_add_right _ _, by simp only at *; omega⟩)
   . right; exact g5
  .
   rintro i hi (h | h | ⟨_, h, _⟩)
   . exact hsb h
   . exact g7 h
   . simp only at hi h; omega
  .
   rintro (h | ⟨h, _, h9⟩)
   . exact h1 h.symm
   . exact (h8 h9).1 h.symm
  . intro h; omega
  .
   rintro _ b i hb (h | h | ⟨h, h', h''⟩)
   . exact Or.inl h
   . exact Or.inr (Or.inl h)
   .
    rcases g5 with rfl | g5
    . exact Or.inr (Or.inr ⟨h, h', h''⟩)
    . omega
  .
   rintro b i _ (h | h)
   . exact Or.inr (Or.inl h)
   . exact Or.inr (Or.inr h)
 clear HS h1 h2 h3 h4 h5 h6 h7 h8 g1 g2 g3 g4 g5 g6 g7 g8 g9 hsb
 go_wp2
 go_ret
 exact hres
theorem stk_nat_none (sb n m : Nat) (w : World) (h : StkV w sb n .none) (hm0 : 0 < m) (hm : n + m + 3 <= 1099511627776) :
  Calls Tryz.prog 98 #[.pointer (some ⟨sb, 0, none⟩), .int .i64 (m : Int)] w fun e w' => StkNat w sb n m .none e w' := by
 obtain ⟨rfl, h2⟩ := h
 have c0 := h2.cell
 have c1 := h2.frozen
 by_cases h4 : m <= 4
 .
  have q0 : decide (m <= 4) = true := decide_eq_true h4
  have q1 : (m : Int) <= 4 := by omega
  have p0 : (0 : Int) < (m : Int) := by omega
  have HG := grown_any Tryz.growN rfl rfl ⟨none, 0, 0, 0⟩ 0 m w (Loc.Ok.nil w 0 0) rfl (Nat.le_refl _) (fun _ => rfl) (by omega)
  simp only at HG
  go_enter Tryz.func98, Tryz.ntmps98
  go_wp2_with fail
  refine HG.mono ?_
  rintro e w1 ⟨r, rfl, hrc, hg⟩
  have hr : r.Ok w1 /\ r.o = 0 /\ w.heap.size <= r.b /\ Upd NoF w w1 := by
   rcases hg with ⟨rfl, _⟩ | ⟨g1, g2, g3, g4, g5⟩
   . simp only at hrc; omega
   . exact ⟨g4, g2, by omega, g5⟩
  obtain ⟨hO, ho, hbb, hU⟩ := hr
  obtain ⟨hA, hL⟩ := hO.2 (by omega)
  obtain ⟨A, c, b, o⟩ := r
  simp only at hA ho hrc hL hbb
  subst ho
  subst hA
  obtain ⟨v0, k3, k4, k5⟩ := hL.at_ (k := 0) (by omega)
  simp only [Nat.add_zero] at k3 k4 k5
  have q2 : (m : Int) <= (c : Int) := by omega
  have hsb := h2.lt
  have hu : Upd (SI.none.K sb 0) w (w1.setCell ⟨b, 0, none⟩ (.int .u64 11259375)) := (hU.mono (fun _ _ _ h => h.elim)).setCell (fun h => by omega) _
  have hres : StkNat w sb 0 m .none (.returned (.slice (some ⟨b, 0, none⟩) m c)) (w1.setCell ⟨b, 0, none⟩ (.int .u64 11259375)) :=
   ⟨⟨some ⟨b, 0, none⟩, c, b, 0⟩, .none, 0, rfl, by simp only; omega, hO.upd ((Upd.refl (fun _ _ => True) w1).setCell (fun _ => trivial) _), Or.inr hbb,
    fun i _ h => (by have : b = sb := h; omega), ⟨rfl, (h2.upd hU (fun h => h)).far _ (by omega)⟩, Nat.le_refl _, by omega, SI.Le.refl _ _ _, hu⟩
  clear HG hg h2 c0 c1 hO hL hu h4 hrc
  go_wp2
  go_ret
  exact hres
 .
  have q0 : decide (m <= 4) = false := decide_eq_false h4
  have q1 : ¬ (m : Int) <= 4 := by omega
  have hlt := h2.lt
  have e1 : ∀ v, (w.setCell ⟨sb, 0, none⟩ v).heap.size = w.heap.size := fun v => World.size_setCell _ _ _
  have hu1 : Upd (SI.none.K sb 0) w ((w.setCell ⟨sb, 0, none⟩ (.pointer (some ⟨w.heap.size, 0, none⟩))).alloc (.cells #[.slice none 0 0] 138)) :=
   ((Upd.refl (SI.none.K sb 0) w).setCell (fun _ => rfl) _).alloc _
  have hc1 : Zh 138 ((w.setCell ⟨sb, 0, none⟩ (.pointer (some ⟨w.heap.size, 0, none⟩))).alloc (.cells #[.slice none 0 0] 138)) w.heap.size 0 (.slice none 0 0) := by
   refine ⟨#[.slice none 0 0], ?_, by simp⟩
   have := heap_alloc_new (w.setCell ⟨sb, 0, none⟩ (.pointer (some ⟨w.heap.size, 0, none⟩))) (.cells #[.slice none 0 0] 138)
   rwa [e1] at this
  have hc2 : Zh 129 ((w.setCell ⟨sb, 0, none⟩ (.pointer (some ⟨w.heap.size, 0, none⟩))).alloc (.cells #[.slice none 0 0] 138)) sb 0 (.pointer (some ⟨w.heap.size, 0, none⟩)) :=
   (h2.set _).upd ((Upd.refl NoF _).alloc _) (fun h => h)
  have HS := si_nat_any w.heap.size 0 m ⟨none, 0, 0, 0⟩ _ hc1 (Loc.Ok.nil _ 0 0) (Nat.le_refl _) rfl (fun _ => rfl) (fun h => absurd h (Nat.lt_irrefl 0)) hm0 (by omega)
  simp only at HS
  clear hc1
  have HC := Qq (Qj hu1 hc2)
  clear hu1 hc2
  go_enter Tryz.func98, Tryz.ntmps98
  go_wp2_with fail
  refine HS.mono ?_
  clear HS
  rintro e w1 ⟨r, n', rfl, g1, g2, g3, g4, g5, g6, g7, g8, g9⟩
  have hu1 := HC.out.1
  have hc2 := HC.out.2
  have hs := hu1.size
  have hb : w.heap.size <= r.b := by
   rcases g5 with rfl | g5
   . simp only at g3; omega
   . omega
  have hN : ((w.setCell ⟨sb, 0, none⟩ (.pointer (some ⟨w.heap.size, 0, none⟩))).alloc (.cells #[.slice none 0 0] 138)).heap.size = w.heap.size + 1 := by rw [World.size_alloc, e1]
  have hres : StkNat w sb 0 m .none (.returned (.slice (some ⟨r.b, 0, none⟩) m m)) w1 := by
   refine ⟨⟨some ⟨r.b, 0, none⟩, m, r.b, 0⟩, .some w.heap.size r, n', rfl, Nat.le_refl _, ⟨by simp only; omega, fun _ => ⟨rfl, ?_⟩⟩, Or.inr hb, ?_, ⟨by omega, hc2.upd g9 ?_, g8, g3, g4, g6, ?_, fun _ => ⟨by omega, g7⟩⟩, by omega, by omega, ?_, hu1.then g9 (fun _ _ _ h => h) ?_⟩
   .
    have := (g6.2 (by omega)).2
    rw [g4] at this
    exact this.le (by simp only; omega)
   .
    rintro i hi (h | h | ⟨_, h, _⟩)
    . simp only at h; omega
    . exact g7 h
    . simp only at hi h; omega
   .
    rintro (h | ⟨_, _, h⟩)
    . omega
    . exact absurd h (Nat.lt_irrefl 0)
   . intro h; omega
   .
    rintro _ b i hb' (h | h | ⟨h, _, _⟩)
    . exact h
    . omega
    . omega
   .
    rintro b i hb' (h | ⟨_, _, h⟩)
    . omega
    . exact absurd h (Nat.lt_irrefl 0)
  clear HC g1 g2 g3 g4 g5 g6 g7 g8 g9 hu1 hc2 hN e1 h2 c0 c1
  go_wp2
  go_ret
  exact hres
theorem stk_nat_any (sb n m : Nat) (J : SI) (w : World) (h : StkV w sb n J) (hm0 : 0 < m) (hm : n + m + 3 <= 1099511627776) :
  Calls Tryz.prog 98 #[.pointer (some ⟨sb, 0, none⟩), .int .i64 (m : Int)] w fun e w' => StkNat w sb n m J e w' := by
 cases J with
 | none => exact stk_nat_none sb n m w h hm0 hm
 | some ib l => exact stk_nat_some sb n m ib l w h hm0 hm
section
variable {P : Program} {ops : Array Oper} {md : Region.Mode} {w : World}
def sinkFrom (md : Region.Mode) (ops : Array Oper) (p n : Nat) : Bool := (List.range n).all fun i => decide (i < p) || (List.range (n + 1)).any fun j => decide (i < j) && Region.waitsFor md ops j i
def Waits (md : Region.Mode) (ops : Array Oper) (p n : Nat) : Prop := ∀ (listed : Array Bool), HeadInv md ops n listed -> (∃ i, p <= i /\ i < n /\ listed.getD i true = false) -> ∀ t, n <= t -> t ∉ Region.ready md ops listed
theorem waits_of {p n : Nat} (hs : sinkFrom md ops p n = true) (hc : Region.chainB md ops n = true) (hn : n < ops.size) : Waits md ops p n := by
 intro listed inv
 suffices H : ∀ (d i : Nat), n - i <= d -> p <= i -> i < n -> listed.getD i true = false -> ∀ t, n <= t -> t ∉ Region.ready md ops listed by
  rintro ⟨i, h1, h2, h3⟩
  exact H (n - i) i (Nat.le_refl _) h1 h2 h3
 intro d
 induction d with
 | zero => intro i hd _ hi; omega
 | succ d ih =>
  intro i hd hpi hi hun t ht hr
  obtain ⟨_, ot, hot, hall⟩ := mem_ready.1 hr
  have htlt : t < ops.size := (Array.getElem?_eq_some_iff.1 hot).1
  have notyet : ∀ j, Region.waitsFor md ops t j = true -> listed.getD j false = true := fun j hj => by
   obtain ⟨o', ho', e, he, hb, hon⟩ := Region.waitsFor_spec hj
   have : o' = ot := Option.some.inj (ho'.symm.trans hot)
   subst this
   rw [<- hon]; exact hall e he hb
  rcases Nat.lt_or_ge n t with hlt | hge
  .
   have h1 := List.all_eq_true.1 hc t (List.mem_range.2 htlt)
   simp only [Bool.or_eq_true, decide_eq_true_eq] at h1
   rcases h1 with h1 | h1
   . omega
   .
    have := notyet _ h1
    rw [getD_both (inv.tail (t - 1) (by omega) (by omega))] at this
    cases this
  .
   have htn : t = n := by omega
   subst htn
   have h1 := List.all_eq_true.1 hs i (List.mem_range.2 hi)
   simp only [Bool.or_eq_true, decide_eq_true_eq] at h1
   rcases h1 with h1 | h1
   . omega
   obtain ⟨j, hj, hj2⟩ := List.any_eq_true.1 h1
   simp only [Bool.and_eq_true, decide_eq_true_eq] at hj2
   have hjle := List.mem_range.1 hj
   by_cases hjt : j = t
   .
    subst hjt
    have := notyet _ hj2.2
    rw [getD_both hun] at this
    cases this
   .
    obtain ⟨oj, hoj, e, he, hb, hon⟩ := Region.waitsFor_spec hj2.2
    cases hl : listed.getD j false with
    | true =>
     have h2 := inv.closed j oj hoj hl e he hb
     rw [hon, getD_both hun] at h2
     cases h2
    | false => exact ih j (by omega) (by omega) (by omega) (getD_in (by rw [inv.size]; omega) hl) t ht hr
theorem mid_first {p n i : Nat} {oi : Oper} {v : Value} {L : Array Bool -> Act -> Prop} (hi : ops[i]? = some oi) (hsel : ∀ (j : Nat) (o : Oper) cs b, ops[j]? = some o -> o.op ≠ .select cs b)
  (hW : Waits md ops p n) (hpi : p <= i) (hin : i < n) (hdone : ∀ listed a, L listed a -> ∀ j ∈ Region.ready md ops listed, n <= j) :
  ∀ (f : Nat) (listed : Array Bool) (a : Act), HeadInv md ops n listed →
   (∀ j oj, ops[j]? = some oj -> j ≠ i -> listed.getD j true = false -> (∀ e ∈ oj.after, Region.binds md e = true -> e.on ≠ i) -> oi.apart ops oj = true) →
   i ∈ Region.ready md ops listed -> YieldsAt P ops w oi v a →
   wpAnyL P md ops w n L f (listed.setIfInBounds i true) (a.put oi.dst v) -> wpAnyL P md ops w n L (f + 1) listed a := by
 intro f
 induction f with
 | zero =>
  intro listed a inv _ hr hy H
  refine ⟨fun h => absurd (h ▸ hr) (by simp), fun j hj => ?_⟩
  have hun := (mem_ready.1 hr).1
  have hjn : j < n := Nat.lt_of_not_le fun h => hW listed inv ⟨i, hpi, hin, hun⟩ j h hj
  by_cases hji : j = i
  . rw [hji]; exact ⟨hin, hy.stOp hi H⟩
  . exact absurd (hdone _ _ H j (ready_mono hj hji)) (by omega)
 | succ f ih =>
  intro listed a inv hfree hr hy H
  refine ⟨fun h => absurd (h ▸ hr) (by simp), fun j hj => ?_⟩
  have hun := (mem_ready.1 hr).1
  have hjn : j < n := Nat.lt_of_not_le fun h => hW listed inv ⟨i, hpi, hin, hun⟩ j h hj
  refine ⟨hjn, ?_⟩
  by_cases hji : j = i
  . rw [hji]; exact hy.stOp hi H
  obtain ⟨hjun, oj, hoj, hall⟩ := mem_ready.1 hj
  have hnot : ∀ e ∈ oj.after, Region.binds md e = true -> e.on ≠ i := fun e he hb heq => by
   have h1 := hall e he hb
   rw [heq, getD_both hun] at h1
   cases h1
  refine stOp_mono (fun a' h3 => ih (listed.setIfInBounds j true) a' (inv.set hj hjn) ?_ (ready_mono hr (Ne.symm hji)) h3.1 ?_)
   (stOp_put hoj (hfree j oj hoj hji hjun hnot) (fun cs b => hsel i oi cs b hi) (fun cs b => hsel j oj cs b hoj) hy (H.2 j (ready_mono hj hji)).2)
  .
   intro k ok hk hki hkun hno
   refine hfree k ok hk hki ?_ hno
   by_cases hjk : j = k
   . rw [<- hjk]; exact hjun
   . rwa [getD_set_ne true hjk] at hkun
  .
   rw [Array.setIfInBounds_comm _ _ hji]
   exact h3.2
theorem mid_lex {p n g : Nat} {Lq : Act -> Prop} (hsel : Region.noSelect ops = true) (hW : Waits md ops p n) :
  ∀ (l : List Oper) (k : Nat) (listed : Array Bool) (a : Act), (∀ j, j < l.length -> l[j]? = ops[k + j]?) -> k + l.length = n -> p <= k -> HeadInv md ops n listed →
  Region.lexHead md ops g l.length k listed = true -> wpStill P ops w Lq l a →
  wpAnyL P md ops w n (fun listed' a' => Region.seqB md ops g n listed' = true /\ Lq a') l.length listed a := by
 intro l
 induction l with
 | nil =>
  intro k listed a _ hk _ _ hB h
  have hkn : k = n := by simpa using hk
  exact ⟨by simpa [Region.lexHead, hkn] using hB, h⟩
 | cons o l ih =>
  intro k listed a hl hk hpk inv hB h
  have h0 : ops[k]? = some o := by simpa using (hl 0 (by simp)).symm
  simp only [List.length_cons, Region.lexHead, Bool.and_eq_true] at hB
  obtain ⟨⟨hr, hf⟩, hB'⟩ := hB
  have hkn : k < n := by simp only [List.length_cons] at hk; omega
  have hr' : k ∈ Region.ready md ops listed := by simpa using hr
  have hst : stOp P ops w k (wpStill P ops w Lq l) a := by unfold stOp; simp only [h0]; exact h
  obtain ⟨v, hy, hK⟩ := yieldsAt_of_stOp h0 hst
  refine mid_first h0 (Region.noSelect_spec hsel) hW hpk hkn (fun listed' a' hL => seqB_ready hL.1) l.length listed a inv (Region.free_spec h0 hf) hr' hy ?_
  exact ih (k + 1) _ _ (fun j hj => by have := hl (j + 1) (by simp; omega); simpa [Nat.add_assoc, Nat.add_comm 1 j] using this) (by simp only [List.length_cons] at hk; omega) (by omega) (inv.set hr' hkn) hB' hK
def wpPure (P : Program) (ops : Array Oper) (Q : Exit -> Act -> World -> Prop) (L : Act -> Prop) : List Oper -> Act -> Prop
 | [], a => L a
 | o :: l, a => ∃ v, (∀ c a w, Q (.panic c) (Act.put a o.dst v) w -> Q (.panic c) a w) /\ Yields P ops o v a /\ wpPure P ops Q L l (a.put o.dst v)
theorem Yd {Q : Exit -> Act -> World -> Prop} {L : Act -> Prop} {a : Act} (h : L a) : wpPure P ops Q L [] a := h
theorem Zz {Q : Exit -> Act -> World -> Prop} {L : Act -> Prop} {a : Act} {o : Oper} {l : List Oper} (v : Value) (hQ : ∀ c a w, Q (.panic c) (Act.put a o.dst v) w -> Q (.panic c) a w) (hw : Region.wanted o (yielded ops a.tmps) = true)
  (hv : ∀ w, (execOp a.eval o).run P w = .ok (.value v) w) (h : wpPure P ops Q L l (a.put o.dst v)) : wpPure P ops Q L (o :: l) a := ⟨v, hQ, Or.inl ⟨hw, hv⟩, h⟩
def pureB (md : Region.Mode) (ops : Array Oper) (last : Array Bool -> Bool) : Nat -> Nat -> Array Bool -> Bool
 | 0, _, listed => last listed
 | f + 1, k, listed => (Region.ready md ops listed).contains k && Region.free md ops listed k && pureB md ops last f (k + 1) (listed.setIfInBounds k true)
theorem pure_lex {n fuel : Nat} {Q : Exit -> Act -> World -> Prop} {L : Act -> Prop} {last : Array Bool -> Bool} (hsel : Region.noSelect ops = true)
  (hlast : ∀ listed a, last listed = true -> HeadInv md ops n listed -> L a -> wpAny P md ops Q fuel listed a w) :
  ∀ (l : List Oper) (k : Nat) (listed : Array Bool) (a : Act), (∀ j, j < l.length -> l[j]? = ops[k + j]?) -> k + l.length <= n -> HeadInv md ops n listed →
  pureB md ops last l.length k listed = true -> wpPure P ops Q L l a -> wpAny P md ops Q (l.length + fuel) listed a w := by
 intro l
 induction l with
 | nil =>
  intro k listed a _ _ inv hB h
  rw [List.length_nil, Nat.zero_add]
  exact hlast listed a hB inv h
 | cons o l ih =>
  intro k listed a hl hk inv hB h
  have h0 : ops[k]? = some o := by simpa using (hl 0 (by simp)).symm
  simp only [List.length_cons] at hk
  simp only [List.length_cons, pureB, Bool.and_eq_true] at hB
  obtain ⟨⟨hr, hf⟩, hB'⟩ := hB
  obtain ⟨v, hQ, hy, hK⟩ := h
  rw [List.length_cons, show l.length + 1 + fuel = (l.length + fuel) + 1 by omega]
  refine wpAny_take h0 hsel hf hr hQ hy ?_
  exact ih (k + 1) _ _ (fun j hj => by have := hl (j + 1) (by simp; omega); simpa [Nat.add_assoc, Nat.add_comm 1 j] using this) (by omega) (inv.set (by simpa using hr) (by omega)) hB' hK
def preTailB (md : Region.Mode) (ops : Array Oper) (p n : Nat) : Bool :=
 Region.noSelect ops && decide (p <= n) && decide (n < ops.size) && sinkFrom md ops p n && Region.chainB md ops n &&
  pureB md ops (fun listed => Region.lexHead md ops (ops.size - n) (n - p) p listed) p 0 (Array.replicate ops.size false)
theorem Zw {id : Nat} {Q : Exit -> Act -> World -> Prop} {a : Act} {w : World} {l : List Oper} (p n : Nat) (hm : P.follows .mixedOrders = true) (hB : preTailB .any l.toArray p n = true)
  (h : wpPure P l.toArray Q (fun a1 => wpStill P l.toArray w.drew (fun a' => wpList P l.toArray Q (l.drop n) a' w.drew) ((l.take n).drop p) a1) (l.take p) a) : (Code.region id l.toArray true).wp P Q a w := by
 simp only [preTailB, Bool.and_eq_true, decide_eq_true_eq] at hB
 obtain ⟨⟨⟨⟨⟨hsel, hpn⟩, hn⟩, hs⟩, hc⟩, hpure⟩ := hB
 have hn' : n < l.length := by simpa using hn
 have hW := waits_of hs hc hn
 have inv0 : HeadInv .any l.toArray n (Array.replicate l.toArray.size false) :=
  ⟨by simp, fun j oj _ hl => (by rw [getD_replicate_false] at hl; cases hl), fun t _ ht => getD_in (by simpa using ht) (getD_replicate_false _ _)⟩
 refine wp_region_any hm ?_
 have hpl : (l.take p).length = p := by rw [List.length_take]; omega
 have hml : ((l.take n).drop p).length = n - p := by rw [List.length_drop, List.length_take]; omega
 have hdl : (l.drop n).length = l.toArray.size - n := by simp
 have key := pure_lex (P := P) (w := w.drew) (fuel := (n - p) + (l.toArray.size - n)) (Q := Q) (n := n) (last := fun listed => Region.lexHead .any l.toArray (l.toArray.size - n) (n - p) p listed)
  (L := fun a1 => wpStill P l.toArray w.drew (fun a' => wpList P l.toArray Q (l.drop n) a' w.drew) ((l.take n).drop p) a1) hsel ?_ (l.take p) 0 _ a (fun j hj => by
   rw [hpl] at hj; simp [hj]) (by rw [hpl]; omega) inv0 (by rw [hpl]; exact hpure) h
 .
  rw [hpl, show p + (n - p + (l.toArray.size - n)) = l.toArray.size by omega] at key
  exact key
 .
  intro listed a1 hlex inv hL
  have H := mid_lex (P := P) (w := w.drew) (g := l.toArray.size - n) hsel hW ((l.take n).drop p) p listed a1 (fun j hj => by
   rw [hml] at hj
   rw [List.getElem?_drop, List.getElem?_take_of_lt (by omega)]; simp) (by rw [hml]; omega) (Nat.le_refl _) inv (by rw [hml]; exact hlex) hL
  rw [hml] at H
  refine wpAny_of_head (Q' := Q) (g := l.toArray.size - n) (fun listed' a' hL' => ?_) _ _ _ H
  have := wpAny_of_seq (md := .any) (Q' := Q) (l.drop n) n listed' a' w.drew (fun j => by simp [List.getElem?_drop]) (by rw [hdl]; exact hL'.1) hL'.2
  rwa [hdl] at this
end
end Go.Proofs.YthkklkjldpcbkaaGreatDoor
