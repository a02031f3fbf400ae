/- For the claim of laws.FnInverse: Vec, VecW, Shift, Nat, Cmp, Add. -/
import Derived.Test.YthkklkjldpcbkaaGreatDoorLiA1
import Derived.Deep.RegionLaw
import Derived.Deep.DeepMust
import Derived.StillTailTactics
set_option linter.unusedVariables false
set_option linter.unusedSimpArgs false
set_option maxHeartbeats 16000000
set_option maxRecDepth 1000000
namespace Go.Proofs.YthkklkjldpcbkaaGreatDoor
open Go.RowKit
def UpOk (bz oz bs os n : Nat) : Prop := bs ≠ bz \/ oz <= os \/ os + n <= oz
theorem UpOk.self (b o n : Nat) : UpOk b o b o n := Or.inr (Or.inl (Nat.le_refl _))
theorem int_u64_cast {a : Int} {n : Nat} (h : a = (n : Int)) : Value.int .u64 a = Value.int .u64 (n : Int) := by rw [h]
theorem U64.src_step {wr : World} {bz oz bs os n k nq : Nat} {xs : List Nat} {v : Value} (h : U64 wr bs (os + k) (xs.drop k)) (hl : xs.length = n) (ok : UpOk bz oz bs os n) :
  U64 ((wr.drewN nq).setCell ⟨bz, oz + k, none⟩ v) bs (os + (k + 1)) (xs.drop (k + 1)) := by
 have h1 : U64 (wr.drewN nq) bs (os + k + 1) ((xs.drop k).drop 1) := (h.drewN nq).drop 1
 rw [List.drop_drop] at h1
 refine (show U64 (wr.drewN nq) bs (os + (k + 1)) (xs.drop (k + 1)) from h1).far v ?_
 unfold UpOk at ok
 rw [List.length_drop, hl]
 omega
theorem U64.dst_step {wr : World} {bz oz k nq : Nat} {ds : List Nat} {u : Value} {a : Int} {d : Nat} (h : U64 wr bz oz ds) (hl : ds.length = k) (c : Cell wr bz (oz + k) u) (ha : a = (d : Int)) : U64 ((wr.drewN nq).setCell ⟨bz, oz + k, none⟩ (.int .u64 a)) bz oz (ds ++ [d]) := by
 subst ha
 refine ((h.drewN nq).far _ (by omega)).snoc ?_
 rw [hl]
 exact (show Cell (wr.drewN nq) bz (oz + k) u from c).set _
theorem R64.src_step {wr : World} {bz oz bs os n k nq : Nat} {xs : List Nat} {v : Value} (h : R64 wr bs (os + k) (xs.drop k)) (hl : xs.length = n) (ok : UpOk bz oz bs os n) :
  R64 ((wr.drewN nq).setCell ⟨bz, oz + k, none⟩ v) bs (os + (k + 1)) (xs.drop (k + 1)) := by
 have h1 : R64 (wr.drewN nq) bs (os + k + 1) ((xs.drop k).drop 1) := (h.drewN nq).drop 1
 rw [List.drop_drop] at h1
 refine (show R64 (wr.drewN nq) bs (os + (k + 1)) (xs.drop (k + 1)) from h1).far v ?_
 unfold UpOk at ok
 rw [List.length_drop, hl]
 omega
theorem U64.at_ {w : World} {b o n k : Nat} {xs : List Nat} (h : U64 w b (o + k) (xs.drop k)) (hl : xs.length = n) (hk : k < n) : ∃ x, xs[k]? = some x /\ w.cell? ⟨b, o + k, none⟩ = some (.int .u64 ((x : Nat) : Int)) /\ w.frozen? ⟨b, o + k, none⟩ = false /\ Cell w b (o + k) (.int .u64 ((x : Nat) : Int)) := by
 have h0 := h 0 (by rw [List.length_drop]; omega)
 rw [List.getElem_drop] at h0
 exact ⟨xs[k]'(by omega), by rw [List.getElem?_eq_getElem (by omega)], h0.cell, h0.frozen, h0⟩
theorem R64.at_ {w : World} {b o n k : Nat} {xs : List Nat} (h : R64 w b (o + k) (xs.drop k)) (hl : xs.length = n) (hk : k < n) : ∃ x, xs[k]? = some x /\ w.cell? ⟨b, o + k, none⟩ = some (.int .u64 ((x : Nat) : Int)) /\ w.frozen? ⟨b, o + k, none⟩ = false /\ CellR w b (o + k) (.int .u64 ((x : Nat) : Int)) := by
 have h0 := h 0 (by rw [List.length_drop]; omega)
 rw [List.getElem_drop] at h0
 exact ⟨xs[k]'(by omega), by rw [List.getElem?_eq_getElem (by omega)], h0.cell, h0.frozen, h0⟩
section
variable {b : Nat}
theorem Digs.at_ {xs : List Nat} (h : Digs b xs) {k x : Nat} (hx : xs[k]? = some x) : x < b := by
 obtain ⟨hk, rfl⟩ := List.getElem?_eq_some_iff.1 hx
 exact h _ (List.getElem_mem hk)
theorem Yj {xs : List Nat} {k x : Nat} (hx : xs[k]? = some x) : val b (xs.take (k + 1)) = val b (xs.take k) + b ^ k * x := by
 obtain ⟨hk, rfl⟩ := List.getElem?_eq_some_iff.1 hx
 exact val_take_succ xs k hk
theorem Yi (xs : List Nat) (d : Nat) : val b (xs ++ [d]) = val b xs + b ^ xs.length * d := by rw [val_append]; simp
theorem Digs.snoc {xs : List Nat} {d : Nat} (h : Digs b xs) (hd : d < b) : Digs b (xs ++ [d]) := h.append (Digs.cons hd Digs.nil)
end
theorem col_step {T rs : Nat} {k t c d c' T' : Nat} (h : T = rs + c * B64 ^ k) (hs : t + c = d + B64 * c') (hT : T' = T + B64 ^ k * t) : T' = rs + B64 ^ k * d + c' * B64 ^ (k + 1) := by
 rw [Nat.pow_succ]
 generalize B64 = B at *
 generalize B ^ k = p at *
 grind
theorem sub_step {X Y rs : Nat} {k x y c d c' X' Y' : Nat} (h : X + c * B64 ^ k = Y + rs) (hs : x + B64 * c' = y + c + d) (hX : X' = X + B64 ^ k * x) (hY : Y' = Y + B64 ^ k * y) :
  X' + c' * B64 ^ (k + 1) = Y' + (rs + B64 ^ k * d) := by
 rw [Nat.pow_succ]
 generalize B64 = B at *
 generalize B ^ k = p at *
 grind
theorem add3_mod (x y c : Nat) : ((x : Int) + y + c) % 18446744073709551616 = (((x + y + c) % B64 : Nat) : Int) := by
 show _ = (((x + y + c) % 18446744073709551616 : Nat) : Int); omega
theorem add3_div (x y c : Nat) : ((x : Int) + y + c) / 18446744073709551616 = (((x + y + c) / B64 : Nat) : Int) := by
 show _ = (((x + y + c) / 18446744073709551616 : Nat) : Int); omega
theorem add2_mod (x y : Nat) : ((x : Int) + y) % 18446744073709551616 = (((x + y) % B64 : Nat) : Int) := by
 show _ = (((x + y) % 18446744073709551616 : Nat) : Int); omega
theorem carry_cast (z1 z0 c : Nat) : ((z0 : Int) + c) / 18446744073709551616 + (z1 : Int) = ((z1 + (z0 + c) / B64 : Nat) : Int) := by
 show _ = ((z1 + (z0 + c) / 18446744073709551616 : Nat) : Int); omega
theorem div_mod_B (s : Nat) : s = s % B64 + B64 * (s / B64) := (Nat.mod_add_div s B64).symm
theorem addVV_g_any (bz oz cz bx ox cx b_y oy cy n : Nat) (xs ys : List Nat) (w : World) (hn : n <= 1099511627776)
  (lx : xs.length = n) (ly : ys.length = n) (hz : Live w bz oz n) (hx : R64 w bx ox xs) (hy : R64 w b_y oy ys)
  (dx : Digs B64 xs) (dy : Digs B64 ys) (okx : UpOk bz oz bx ox n) (oky : UpOk bz oz b_y oy n) :
  Calls Tryz.prog 110 #[.slice (some ⟨bz, oz, none⟩) n cz, .slice (some ⟨bx, ox, none⟩) n cx, .slice (some ⟨b_y, oy, none⟩) n cy] w fun e w' =>
   ∃ (c : Nat) (rs : List Nat), e = .returned (.int .u64 (c : Int)) /\ Upd (Rg bz oz (oz + n)) w w' /\ U64 w' bz oz rs /\ rs.length = n /\ Digs B64 rs ∧
    val B64 xs + val B64 ys = val B64 rs + c * B64 ^ n /\ c <= 1 := by
 go_enter Tryz.func110, Tryz.ntmps110
 go_wp2
 go_loopw [6, 25] (fun c i wr => ∃ (k cn : Nat) (rs : List Nat), k <= n /\ i = .int .i64 k /\ c = .int .u64 (cn : Int) /\ cn <= 1 /\ Upd (Rg bz oz (oz + n)) w wr /\ Live wr bz oz n /\ R64 wr bx (ox + k) (xs.drop k) /\ R64 wr b_y (oy + k) (ys.drop k)
   /\ U64 wr bz oz rs /\ Hid (rs.length = k) /\ Digs B64 rs /\ Hid (val B64 (xs.take k) + val B64 (ys.take k) = val B64 rs + cn * B64 ^ k))
  (fun _ i _ => n - (intOf i).toNat)
 case atStart => exact ⟨0, 0, [], Nat.zero_le _, rfl, rfl, by omega, Upd.refl _ _, hz, by simpa using hx, by simpa using hy, U64.nil _ _ _, rfl, Digs.nil, by show _ = _; simp⟩
 case round =>
  obtain ⟨k, cn, rs, hk, rfl, rfl, hc1, hU, hzk, hxk, hyk, hR, hL, hD, hC⟩ := hrel
  by_cases hlt : k < n
  .
   obtain ⟨xk, ex, cx0, _⟩ := hxk.at_ lx hlt
   obtain ⟨yk, ey, cy0, _⟩ := hyk.at_ ly hlt
   obtain ⟨zk, cz0, fz0, kz0⟩ := hzk.at_ hlt
   have hxl := dx.at_ ex
   have hyl := dy.at_ ey
   have ST := col_step hC.out (show xk + yk + cn = _ from div_mod_B _) (T' := val B64 (xs.take (k + 1)) + val B64 (ys.take (k + 1))) (by rw [Yj ex, Yj ey]; generalize B64 ^ k = p; grind)
   have hd : (xk + yk + cn) % B64 < B64 := Nat.mod_lt _ Zy
   have hc' : (xk + yk + cn) / B64 <= 1 := by rw [Zs] at *; omega
   have HS := Qq ST
   clear ST ex ey
   go_wp2_with fail
   go_quiet ((go_at_call 111; exact Calls.quiet_of_same (Add_any _ _ _ (by omega) (by omega) (by omega) (by omega) _)))
   go_wp2
   go_roundw
   case rel =>
    exact ⟨k + 1, (xk + yk + cn) / B64, rs ++ [(xk + yk + cn) % B64], by omega, by go_num, int_u64_cast (add3_div _ _ _), hc', (hU.drewN nq).setCell (fun _ => ⟨rfl, by omega, by omega⟩) _,
     (hzk.drewN nq).set _ _ _, R64.src_step hxk lx okx, R64.src_step hyk ly oky, U64.dst_step hR hL kz0 (add3_mod _ _ _), by show _ = _; rw [List.length_append, hL.out]; rfl, hD.snoc hd,
     by show _ = _; rw [Yi, hL.out]; exact HS.out⟩
   case measure => simp [intOf]; omega
  .
   have : k = n := by omega
   subst this
   clear hzk hxk hyk
   rw [List.take_of_length_le (by omega), List.take_of_length_le (by omega)] at hC
   go_wp2
   go_ret
   exact ⟨cn, rs, rfl, hU, hR, hL, hD, hC, hc1⟩
theorem addVV_any (bz oz cz bx ox cx b_y oy cy n : Nat) (xs ys : List Nat) (w : World) (hn : n <= 1099511627776)
  (lx : xs.length = n) (ly : ys.length = n) (hz : Live w bz oz n) (hx : R64 w bx ox xs) (hy : R64 w b_y oy ys)
  (dx : Digs B64 xs) (dy : Digs B64 ys) (okx : UpOk bz oz bx ox n) (oky : UpOk bz oz b_y oy n) :
  Calls Tryz.prog 89 #[.slice (some ⟨bz, oz, none⟩) n cz, .slice (some ⟨bx, ox, none⟩) n cx, .slice (some ⟨b_y, oy, none⟩) n cy] w fun e w' =>
   ∃ (c : Nat) (rs : List Nat), e = .returned (.int .u64 (c : Int)) /\ Upd (Rg bz oz (oz + n)) w w' /\ U64 w' bz oz rs /\ rs.length = n /\ Digs B64 rs ∧
    val B64 xs + val B64 ys = val B64 rs + c * B64 ^ n /\ c <= 1 := by
 go_enter Tryz.func89, Tryz.ntmps89
 go_wp2_with (go_at_call 110; refine (addVV_g_any bz oz cz bx ox cx b_y oy cy n xs ys w hn lx ly hz hx hy dx dy okx oky).mono ?_; rintro e w' ⟨c, rs, rfl, H⟩)
 go_ret
 exact ⟨c, rs, rfl, H⟩
theorem bor_nat (x y c : Nat) : bor (x : Int) (y : Int) (c : Int) = ((if x < y + c then 1 else 0 : Nat) : Int) := by
 unfold bor
 by_cases h : x < y + c
 . rw [if_pos h, if_pos (by omega)]; rfl
 . rw [if_neg h, if_neg (by omega)]; rfl
theorem sub3_mod (x y c : Nat) (hx : x < B64) (hy : y < B64) (hc : c <= 1) : ((x : Int) - y - c) % 18446744073709551616 = ((if x < y + c then x + B64 - y - c else x - y - c : Nat) : Int) := by
 rw [Zs] at *
 by_cases h : x < y + c
 . rw [if_pos h]; omega
 . rw [if_neg h]; omega
theorem subVV_g_any (bz oz cz bx ox cx b_y oy cy n : Nat) (xs ys : List Nat) (w : World) (hn : n <= 1099511627776)
  (lx : xs.length = n) (ly : ys.length = n) (hz : Live w bz oz n) (hx : R64 w bx ox xs) (hy : R64 w b_y oy ys)
  (dx : Digs B64 xs) (dy : Digs B64 ys) (okx : UpOk bz oz bx ox n) (oky : UpOk bz oz b_y oy n) :
  Calls Tryz.prog 112 #[.slice (some ⟨bz, oz, none⟩) n cz, .slice (some ⟨bx, ox, none⟩) n cx, .slice (some ⟨b_y, oy, none⟩) n cy] w fun e w' =>
   ∃ (c : Nat) (rs : List Nat), e = .returned (.int .u64 (c : Int)) /\ Upd (Rg bz oz (oz + n)) w w' /\ U64 w' bz oz rs /\ rs.length = n /\ Digs B64 rs ∧
    val B64 xs + c * B64 ^ n = val B64 ys + val B64 rs /\ c <= 1 := by
 go_enter Tryz.func112, Tryz.ntmps112
 go_wp2
 go_loopw [6, 25] (fun c i wr => ∃ (k cn : Nat) (rs : List Nat), k <= n /\ i = .int .i64 k /\ c = .int .u64 (cn : Int) /\ cn <= 1 /\ Upd (Rg bz oz (oz + n)) w wr /\ Live wr bz oz n /\ R64 wr bx (ox + k) (xs.drop k) /\ R64 wr b_y (oy + k) (ys.drop k)
   /\ U64 wr bz oz rs /\ Hid (rs.length = k) /\ Digs B64 rs /\ Hid (val B64 (xs.take k) + cn * B64 ^ k = val B64 (ys.take k) + val B64 rs))
  (fun _ i _ => n - (intOf i).toNat)
 case atStart => exact ⟨0, 0, [], Nat.zero_le _, rfl, rfl, by omega, Upd.refl _ _, hz, by simpa using hx, by simpa using hy, U64.nil _ _ _, rfl, Digs.nil, by show _ = _; simp⟩
 case round =>
  obtain ⟨k, cn, rs, hk, rfl, rfl, hc1, hU, hzk, hxk, hyk, hR, hL, hD, hC⟩ := hrel
  by_cases hlt : k < n
  .
   obtain ⟨xk, ex, cx0, _⟩ := hxk.at_ lx hlt
   obtain ⟨yk, ey, cy0, _⟩ := hyk.at_ ly hlt
   obtain ⟨zk, cz0, fz0, kz0⟩ := hzk.at_ hlt
   have hxl : xk < 18446744073709551616 := dx.at_ ex
   have hyl : yk < 18446744073709551616 := dy.at_ ey
   obtain ⟨c', hc'⟩ : ∃ c' : Nat, c' = if xk < yk + cn then 1 else 0 := ⟨_, rfl⟩
   obtain ⟨dd, hdd⟩ : ∃ d : Nat, d = if xk < yk + cn then xk + B64 - yk - cn else xk - yk - cn := ⟨_, rfl⟩
   have hcol : xk + B64 * c' = yk + cn + dd /\ dd < B64 /\ c' <= 1 := by
    rw [hc', hdd, Zs]
    by_cases h : xk < yk + cn
    . rw [if_pos h, if_pos h]; omega
    . rw [if_neg h, if_neg h]; omega
   have ST := sub_step hC.out hcol.1 (Yj (b := B64) ex) (Yj (b := B64) ey)
   have HS := Qq ST
   have Hc := Qq hc'
   have Hd := Qq hdd
   have Hcol := Qq hcol
   clear ST ex ey hc' hdd hcol
   go_wp2_with fail
   go_quiet ((go_at_call 113; exact Calls.quiet_of_same (Sub_any _ _ _ (by omega) (by omega) (by omega) (by omega) (by omega) _)))
   go_wp2
   go_roundw
   case rel =>
    exact ⟨k + 1, c', rs ++ [dd], by omega, by go_num, int_u64_cast (by rw [bor_nat, Hc.out]), Hcol.out.2.2, (hU.drewN nq).setCell (fun _ => ⟨rfl, by omega, by omega⟩) _,
     (hzk.drewN nq).set _ _ _, R64.src_step hxk lx okx, R64.src_step hyk ly oky, U64.dst_step hR hL kz0 (by rw [sub3_mod _ _ _ hxl hyl hc1, Hd.out]), by show _ = _; rw [List.length_append, hL.out]; rfl, hD.snoc Hcol.out.2.1,
     by show _ = _; rw [Yi, hL.out]; exact HS.out⟩
   case measure => simp [intOf]; omega
  .
   have : k = n := by omega
   subst this
   clear hzk hxk hyk
   rw [List.take_of_length_le (by omega), List.take_of_length_le (by omega)] at hC
   go_wp2
   go_ret
   exact ⟨cn, rs, rfl, hU, hR, hL, hD, hC, hc1⟩
theorem subVV_any (bz oz cz bx ox cx b_y oy cy n : Nat) (xs ys : List Nat) (w : World) (hn : n <= 1099511627776)
  (lx : xs.length = n) (ly : ys.length = n) (hz : Live w bz oz n) (hx : R64 w bx ox xs) (hy : R64 w b_y oy ys)
  (dx : Digs B64 xs) (dy : Digs B64 ys) (okx : UpOk bz oz bx ox n) (oky : UpOk bz oz b_y oy n) :
  Calls Tryz.prog 91 #[.slice (some ⟨bz, oz, none⟩) n cz, .slice (some ⟨bx, ox, none⟩) n cx, .slice (some ⟨b_y, oy, none⟩) n cy] w fun e w' =>
   ∃ (c : Nat) (rs : List Nat), e = .returned (.int .u64 (c : Int)) /\ Upd (Rg bz oz (oz + n)) w w' /\ U64 w' bz oz rs /\ rs.length = n /\ Digs B64 rs ∧
    val B64 xs + c * B64 ^ n = val B64 ys + val B64 rs /\ c <= 1 := by
 go_enter Tryz.func91, Tryz.ntmps91
 go_wp2_with (go_at_call 112; refine (subVV_g_any bz oz cz bx ox cx b_y oy cy n xs ys w hn lx ly hz hx hy dx dy okx oky).mono ?_; rintro e w' ⟨c, rs, rfl, H⟩)
 go_ret
 exact ⟨c, rs, rfl, H⟩
theorem ret_pair {a b a' b' : Int} (h : a = a') (k : b = b') : Ending.returned (.tuple #[.int .u64 a, .int .u64 b]) = Ending.returned (.tuple #[.int .u64 a', .int .u64 b']) := by rw [h, k]
theorem Mul_ex (x y : Nat) (hx : x < B64) (hy : y < B64) : ∃ hi lo : Nat, (∀ w, Calls Tryz.prog 122 #[.int .u64 (x : Int), .int .u64 (y : Int)] w fun e w' =>
  e = .returned (.tuple #[.int .u64 (hi : Int), .int .u64 (lo : Int)]) /\ w' = w) /\ hi < 18446744073709551615 /\ lo < 18446744073709551616 /\ x * y = lo + B64 * hi := by
 have hxy : x * y <= (B64 - 1) * (B64 - 1) := Nat.mul_le_mul (by omega) (by omega)
 have e1 : (B64 - 1) * (B64 - 1) = 340282366920938463426481119284349108225 := rfl
 rw [e1] at hxy
 exact ⟨x * y / B64, x * y % B64, fun w => Mul_any x y hx hy w, by rw [Zs]; omega, Nat.mod_lt _ Zy, div_mod_B _⟩
theorem mulAddWWW_ex (x y c : Nat) (hx : x < B64) (hy : y < B64) (hc : c < B64) : ∃ hi lo : Nat, (∀ w,
  Calls Tryz.prog 142 #[.int .u64 (x : Int), .int .u64 (y : Int), .int .u64 (c : Int)] w fun e w' =>
   e = .returned (.tuple #[.int .u64 (hi : Int), .int .u64 (lo : Int)]) /\ w' = w) /\ hi < 18446744073709551616 /\ lo < 18446744073709551616 /\ x * y + c = lo + B64 * hi := by
 obtain ⟨hi, lo, hM, h1, h2, h3⟩ := Mul_ex x y hx hy
 have hc' : c < 18446744073709551616 := hc
 refine ⟨hi + (lo + c) / B64, (lo + c) % B64, fun w => ?_, by rw [Zs]; omega, Nat.mod_lt _ Zy, by rw [h3]; rw [Zs]; omega⟩
 have f1 : (hi : Int) + ((lo : Int) + (c : Int)) / 18446744073709551616 = ((hi + (lo + c) / B64 : Nat) : Int) := by rw [Zs]; omega
 have f2 : ((lo : Int) + (c : Int)) % 18446744073709551616 = (((lo + c) % B64 : Nat) : Int) := by rw [Zs]; omega
 have F1 := Qq f1
 have F2 := Qq f2
 have HM := Qq hM
 clear f1 f2 h3 hM
 go_enter Tryz.func142, Tryz.ntmps142
 go_wp2_with (first | (go_at_call 122; refine (HM.out _).mono ?_; rintro e w' ⟨rfl, rfl⟩) | (go_at_call 111; refine (Add_any _ _ _ (by omega) (by omega) (by omega) (by omega) _).mono ?_; rintro e w' ⟨rfl, rfl⟩))
 go_ret2
 exact ⟨ret_pair F1.out F2.out, rfl⟩
theorem mulAddVWW_g_any (bz oz cz bx ox cx n y r : Nat) (xs : List Nat) (w : World) (hn : n <= 1099511627776)
  (lx : xs.length = n) (hz : Live w bz oz n) (hx : U64 w bx ox xs) (dx : Digs B64 xs) (hy : y < B64) (hr : r < B64) (okx : UpOk bz oz bx ox n) :
  Calls Tryz.prog 134 #[.slice (some ⟨bz, oz, none⟩) n cz, .slice (some ⟨bx, ox, none⟩) n cx, .int .u64 (y : Int), .int .u64 (r : Int)] w fun e w' =>
   ∃ (c : Nat) (rs : List Nat), e = .returned (.int .u64 (c : Int)) /\ Upd (Rg bz oz (oz + n)) w w' /\ U64 w' bz oz rs /\ rs.length = n /\ Digs B64 rs ∧
    val B64 xs * y + r = val B64 rs + c * B64 ^ n /\ c < B64 := by
 go_enter Tryz.func134, Tryz.ntmps134
 go_wp2
 go_loopw [8, 19] (fun c i wr => ∃ (k cn : Nat) (rs : List Nat), k <= n /\ i = .int .i64 k /\ c = .int .u64 (cn : Int) /\ cn < B64 /\ Upd (Rg bz oz (oz + n)) w wr /\ Live wr bz oz n /\ U64 wr bx (ox + k) (xs.drop k)
   /\ U64 wr bz oz rs /\ Hid (rs.length = k) /\ Digs B64 rs /\ Hid (val B64 (xs.take k) * y + r = val B64 rs + cn * B64 ^ k))
  (fun _ i _ => n - (intOf i).toNat)
 case atStart => exact ⟨0, r, [], Nat.zero_le _, rfl, rfl, hr, Upd.refl _ _, hz, by simpa using hx, U64.nil _ _ _, rfl, Digs.nil, by show _ = _; simp⟩
 case round =>
  obtain ⟨k, cn, rs, hk, rfl, rfl, hc1, hU, hzk, hxk, hR, hL, hD, hC⟩ := hrel
  by_cases hlt : k < n
  .
   obtain ⟨xk, ex, cx0, _⟩ := hxk.at_ lx hlt
   obtain ⟨zk, cz0, fz0, kz0⟩ := hzk.at_ hlt
   obtain ⟨hi, lo, hM, h1, h2, h3⟩ := mulAddWWW_ex xk y cn (dx.at_ ex) hy hc1
   have ST := col_step hC.out h3 (T' := val B64 (xs.take (k + 1)) * y + r) (by rw [Yj ex]; generalize B64 ^ k = p; grind)
   have HS := Qq ST
   have HM := Qq hM
   clear ST ex h3 hM
   go_wp2_with (go_at_call 142; refine (HM.out _).mono ?_; rintro e w' ⟨rfl, rfl⟩)
   go_roundw
   case rel =>
    exact ⟨k + 1, hi, rs ++ [lo], by omega, by go_num, rfl, h1, hU.setCell (fun _ => ⟨rfl, by omega, by omega⟩) _,
     hzk.set _ _ _, U64.src_step (nq := 0) hxk lx okx, U64.dst_step (nq := 0) hR hL kz0 rfl, by show _ = _; rw [List.length_append, hL.out]; rfl, hD.snoc h2,
     by show _ = _; rw [Yi, hL.out]; exact HS.out⟩
   case measure => simp [intOf]; omega
  .
   have : k = n := by omega
   subst this
   clear hzk hxk
   rw [List.take_of_length_le (by omega)] at hC
   go_wp2
   go_ret
   exact ⟨cn, rs, rfl, hU, hR, hL, hD, hC, hc1⟩
theorem mulAddVWW_any (bz oz cz bx ox cx n y r : Nat) (xs : List Nat) (w : World) (hn : n <= 1099511627776)
  (lx : xs.length = n) (hz : Live w bz oz n) (hx : U64 w bx ox xs) (dx : Digs B64 xs) (hy : y < B64) (hr : r < B64) (okx : UpOk bz oz bx ox n) :
  Calls Tryz.prog 114 #[.slice (some ⟨bz, oz, none⟩) n cz, .slice (some ⟨bx, ox, none⟩) n cx, .int .u64 (y : Int), .int .u64 (r : Int)] w fun e w' =>
   ∃ (c : Nat) (rs : List Nat), e = .returned (.int .u64 (c : Int)) /\ Upd (Rg bz oz (oz + n)) w w' /\ U64 w' bz oz rs /\ rs.length = n /\ Digs B64 rs ∧
    val B64 xs * y + r = val B64 rs + c * B64 ^ n /\ c < B64 := by
 go_enter Tryz.func114, Tryz.ntmps114
 go_wp2_with (go_at_call 134; refine (mulAddVWW_g_any bz oz cz bx ox cx n y r xs w hn lx hz hx dx hy hr okx).mono ?_; rintro e w' ⟨c, rs, rfl, H⟩)
 go_ret
 exact ⟨c, rs, rfl, H⟩
theorem col3 (x y m c : Nat) (hx : x < B64) (hy : y < B64) (hm : m < B64) (hc : c < B64) : ∃ z1 z0 : Nat, (∀ w,
  Calls Tryz.prog 142 #[.int .u64 (y : Int), .int .u64 (m : Int), .int .u64 (x : Int)] w fun e w' =>
   e = .returned (.tuple #[.int .u64 (z1 : Int), .int .u64 (z0 : Int)]) /\ w' = w) /\ z1 < 18446744073709551616 /\ z0 < 18446744073709551616 ∧
   z1 + (z0 + c) / 18446744073709551616 < 18446744073709551616 /\ y * m + x + c = (z0 + c) % B64 + B64 * (z1 + (z0 + c) / B64) := by
 obtain ⟨z1, z0, hM, h1, h2, h3⟩ := mulAddWWW_ex y m x hy hm hx
 have hym : y * m <= (B64 - 1) * (B64 - 1) := Nat.mul_le_mul (by omega) (by omega)
 have e1 : (B64 - 1) * (B64 - 1) = 340282366920938463426481119284349108225 := rfl
 rw [e1] at hym
 refine ⟨z1, z0, hM, h1, h2, ?_, ?_⟩
 . rw [Zs] at *; omega
 . rw [h3]; rw [Zs]; omega
theorem addMulVVWW_g_any (bz oz cz bx ox cx b_y oy cy n m a : Nat) (xs ys : List Nat) (w : World) (hn : n <= 1099511627776)
  (lx : xs.length = n) (ly : ys.length = n) (hz : Live w bz oz n) (hx : U64 w bx ox xs) (hy : U64 w b_y oy ys)
  (dx : Digs B64 xs) (dy : Digs B64 ys) (hm : m < B64) (ha : a < B64) (okx : UpOk bz oz bx ox n) (oky : UpOk bz oz b_y oy n) :
  Calls Tryz.prog 135 #[.slice (some ⟨bz, oz, none⟩) n cz, .slice (some ⟨bx, ox, none⟩) n cx, .slice (some ⟨b_y, oy, none⟩) n cy, .int .u64 (m : Int), .int .u64 (a : Int)] w fun e w' =>
   ∃ (c : Nat) (rs : List Nat), e = .returned (.int .u64 (c : Int)) /\ Upd (Rg bz oz (oz + n)) w w' /\ U64 w' bz oz rs /\ rs.length = n /\ Digs B64 rs ∧
    val B64 xs + val B64 ys * m + a = val B64 rs + c * B64 ^ n /\ c < B64 := by
 go_enter Tryz.func135, Tryz.ntmps135
 go_wp2
 go_loopw [10, 32] (fun c i wr => ∃ (k cn : Nat) (rs : List Nat), k <= n /\ i = .int .i64 k /\ c = .int .u64 (cn : Int) /\ cn < B64 /\ Upd (Rg bz oz (oz + n)) w wr /\ Live wr bz oz n /\ U64 wr bx (ox + k) (xs.drop k) /\ U64 wr b_y (oy + k) (ys.drop k)
   /\ U64 wr bz oz rs /\ Hid (rs.length = k) /\ Digs B64 rs /\ Hid (val B64 (xs.take k) + val B64 (ys.take k) * m + a = val B64 rs + cn * B64 ^ k))
  (fun _ i _ => n - (intOf i).toNat)
 case atStart => exact ⟨0, a, [], Nat.zero_le _, rfl, rfl, ha, Upd.refl _ _, hz, by simpa using hx, by simpa using hy, U64.nil _ _ _, rfl, Digs.nil, by show _ = _; simp⟩
 case round =>
  obtain ⟨k, cn, rs, hk, rfl, rfl, hc1, hU, hzk, hxk, hyk, hR, hL, hD, hC⟩ := hrel
  by_cases hlt : k < n
  .
   obtain ⟨xk, ex, cx0, _⟩ := hxk.at_ lx hlt
   obtain ⟨yk, ey, cy0, _⟩ := hyk.at_ ly hlt
   obtain ⟨zk, cz0, fz0, kz0⟩ := hzk.at_ hlt
   obtain ⟨z1, z0, hM, h1, h2, h3, h4⟩ := col3 xk yk m cn (dx.at_ ex) (dy.at_ ey) hm hc1
   have hc1' : cn < 18446744073709551616 := hc1
   have ST := col_step hC.out (t := yk * m + xk) h4 (T' := val B64 (xs.take (k + 1)) + val B64 (ys.take (k + 1)) * m + a) (by rw [Yj ex, Yj ey]; generalize B64 ^ k = p; grind)
   have hd : (z0 + cn) % B64 < B64 := Nat.mod_lt _ Zy
   have HS := Qq ST
   have HM := Qq hM
   clear ST ex ey h4 hM
   go_wp2_with fail
   go_quiet ((go_at_call 142; exact Calls.quiet_of_same (HM.out _)))
   go_wp2_with (first | (go_at_call 111; refine (Add_any _ _ _ (by omega) (by omega) (by omega) (by omega) _).mono ?_; rintro e w' ⟨rfl, rfl⟩))
   go_roundw
   case rel =>
    exact ⟨k + 1, z1 + (z0 + cn) / B64, rs ++ [(z0 + cn) % B64], by omega, by go_num, int_u64_cast (carry_cast _ _ _), h3, (hU.drewN nq).setCell (fun _ => ⟨rfl, by omega, by omega⟩) _,
     (hzk.drewN nq).set _ _ _, U64.src_step hxk lx okx, U64.src_step hyk ly oky, U64.dst_step hR hL kz0 (add2_mod _ _), by show _ = _; rw [List.length_append, hL.out]; rfl, hD.snoc hd,
     by show _ = _; rw [Yi, hL.out]; exact HS.out⟩
   case measure => simp [intOf]; omega
  .
   have : k = n := by omega
   subst this
   clear hzk hxk hyk
   rw [List.take_of_length_le (by omega), List.take_of_length_le (by omega)] at hC
   go_wp2
   go_ret
   exact ⟨cn, rs, rfl, hU, hR, hL, hD, hC, hc1⟩
theorem addMulVVWW_any (bz oz cz bx ox cx b_y oy cy n m a : Nat) (xs ys : List Nat) (w : World) (hn : n <= 1099511627776)
  (lx : xs.length = n) (ly : ys.length = n) (hz : Live w bz oz n) (hx : U64 w bx ox xs) (hy : U64 w b_y oy ys)
  (dx : Digs B64 xs) (dy : Digs B64 ys) (hm : m < B64) (ha : a < B64) (okx : UpOk bz oz bx ox n) (oky : UpOk bz oz b_y oy n) :
  Calls Tryz.prog 115 #[.slice (some ⟨bz, oz, none⟩) n cz, .slice (some ⟨bx, ox, none⟩) n cx, .slice (some ⟨b_y, oy, none⟩) n cy, .int .u64 (m : Int), .int .u64 (a : Int)] w fun e w' =>
   ∃ (c : Nat) (rs : List Nat), e = .returned (.int .u64 (c : Int)) /\ Upd (Rg bz oz (oz + n)) w w' /\ U64 w' bz oz rs /\ rs.length = n /\ Digs B64 rs ∧
    val B64 xs + val B64 ys * m + a = val B64 rs + c * B64 ^ n /\ c < B64 := by
 go_enter Tryz.func115, Tryz.ntmps115
 go_wp2_with (go_at_call 135; refine (addMulVVWW_g_any bz oz cz bx ox cx b_y oy cy n m a xs ys w hn lx ly hz hx hy dx dy hm ha okx oky).mono ?_; rintro e w' ⟨c, rs, rfl, H⟩)
 go_ret
 exact ⟨c, rs, rfl, H⟩
theorem uWords : Tryz.prog.underlying 55 = some (.slice 81) := by kernel_rfl
theorem uNat : Tryz.prog.underlying 56 = some (.slice 81) := by kernel_rfl
theorem uPWord : Tryz.prog.underlying 113 = some (.pointer 81) := by kernel_rfl
theorem iWord3 : (Tryz.prog.info? 81).map (fun i => (i.zero, i.size, i.bytes)) = some (some (.int .u64 0), 1, 8) := by kernel_rfl
theorem sWord : (Tryz.prog.info? 81).map (·.size) = some 1 := by kernel_rfl
theorem neq_words {w : World} {b o b' o' : Nat} (ha : Free w b) (hb : Free w b') {r : Bool} (hr : ((⟨b, o, none⟩ : Addr) == ⟨b', o', none⟩) = r) :
  (binOp .neq 113 (.pointer (some ⟨b, o, none⟩)) (.pointer (some ⟨b', o', none⟩))).run Tryz.prog w = .ok (.bool (!r)) w := by
 obtain ⟨i, hi, _, h2, _⟩ := info_parts iWord3
 exact run_neq_ptr (a := ⟨b, o, none⟩) (b := ⟨b', o', none⟩) uPWord hi (by omega) ha hb hr
theorem addVW_c0 (bz oz cz bx ox cx n y x0 : Nat) (xs : List Nat) (w : World) (hn : n + 1 <= 1099511627776) (hcz : n + 1 <= cz) (hcx : n + 1 <= cx)
  (lx : xs.length = n) (hz : Live w bz oz (n + 1)) (hx : U64 w bx ox (x0 :: xs))
  (dx : Digs B64 (x0 :: xs)) (hy : y < B64) (okx : UpOk bz oz bx ox (n + 1)) (hc : x0 + y < B64) :
  Calls Tryz.prog 90 #[.slice (some ⟨bz, oz, none⟩) (n + 1) cz, .slice (some ⟨bx, ox, none⟩) (n + 1) cx, .int .u64 (y : Int)] w fun e w' =>
   e = .returned (.int .u64 0) /\ Upd (Rg bz oz (oz + (n + 1))) w w' /\ U64 w' bz oz ((x0 + y) :: xs) := by
 obtain ⟨z0, kz⟩ := hz 0 (by omega)
 have kx := hx 0 (by simp)
 simp only [Nat.add_zero, List.getElem_cons_zero] at kz kx
 have cz0 := kz.cell
 have fz0 := kz.frozen
 have cx0 := kx.cell
 have hx0 : x0 < 18446744073709551616 := dx.head
 have hy0 : y < 18446744073709551616 := hy
 have hc0 : x0 + y < 18446744073709551616 := hc
 have e1 : ((x0 : Int) + (y : Int)) / 18446744073709551616 = 0 := by omega
 have e2 : ((x0 : Int) + (y : Int)) % 18446744073709551616 = (x0 : Int) + (y : Int) := by omega
 have h0 : (0 : Int) < (n : Int) + 1 := by omega
 have h1 : (1 : Int) <= (n : Int) + 1 := by omega
 have hn0 : ((n : Int) + 1 == 0) = false := beq_eq_false_iff_ne.2 (by omega)
 obtain ⟨r, hr⟩ : ∃ r, ((⟨bz, oz, none⟩ : Addr) == ⟨bx, ox, none⟩) = r := ⟨_, rfl⟩
 have hp : ∀ v nq, (binOp .neq 113 (.pointer (some ⟨bz, oz, none⟩)) (.pointer (some ⟨bx, ox, none⟩))).run Tryz.prog ((w.setCell ⟨bz, oz, none⟩ v).drewN nq) = .ok (.bool (!r)) ((w.setCell ⟨bz, oz, none⟩ v).drewN nq) :=
  fun v nq => neq_words (w := (w.setCell ⟨bz, oz, none⟩ v).drewN nq) (kz.free.set ⟨bz, oz, none⟩ v rfl) (kx.free.set ⟨bz, oz, none⟩ v rfl) hr
 have Hr := Qq hr
 clear hr
 have Hz := Qq (Qj hz (Qj hx (Qj kz kx)))
 clear hz hx kz kx
 cases r
 .
  go_enter Tryz.func90, Tryz.ntmps90
  go_wp2_with (first | (go_at_call 111; refine (Add_any _ _ _ (by omega) (by omega) (by omega) (by omega) _).mono ?_; rintro e w' ⟨rfl, hw⟩; cases hw.symm))
  go_quiet (fail)
  go_wp2
  generalize hW : (w.setCell ⟨bz, oz, none⟩ (.int .u64 ((x0 : Int) + (y : Int)))).drewN nq = W1
  have HX : U64 W1 bx (ox + 1) xs := by
   have h := (Hz.out.2.1.drop 1).far (b' := bz) (i' := oz) (.int .u64 ((x0 : Int) + (y : Int))) (by unfold UpOk at okx; simp; omega)
   rw [<- hW]; exact U64.drewN (by simpa using h) nq
  have HZ : Live W1 bz (oz + 1) xs.length := by rw [<- hW]; exact (((Hz.out.1.sub 1 n (by omega)).le (by omega)).set _ _ _).drewN nq
  have HU : Upd (Rg bz oz (oz + 1)) w W1 := by rw [<- hW]; exact (((Upd.refl _ w).setCell (fun _ => ⟨rfl, by omega, by omega⟩) _).drewN nq)
  have HC : Cell W1 bz oz (.int .u64 ((x0 + y : Nat) : Int)) := by
   rw [<- hW, Int.natCast_add]
   exact (show Cell _ bz oz _ from Hz.out.2.2.1.set _)
  clear hW
  go_still_tail 4, (by kernel_rfl)
  change wpList _ _ _ _ _ W1.drew
  refine wpList_copy64 rfl (.tmp 40) (.tmp 42) 55 55 rfl 81 uWords sWord _ _ _ _ _ _ bz (oz + 1) bx (ox + 1) rfl rfl xs (by rw [lx]; exact (Nat.min_self n).symm) (fun h => ⟨congrArg some (cutA_lt (by omega)), congrArg some (cutA_lt (by omega))⟩) HX.drew HZ.drew ?_
  intro w2 hu2 hx2
  have HF : Upd (Rg bz oz (oz + (n + 1))) w w2 := (HU.drew.then hu2 (fun b i _ h => ⟨h.1, h.2.1, by have := h.2.2; omega⟩) (fun b i _ h => ⟨h.1, by have := h.2.1; omega, by have := h.2.2; omega⟩))
  have HR : U64 w2 bz oz ((x0 + y) :: xs) := U64.cons ((show Cell W1.drew bz oz _ from HC).upd hu2 (fun h => by have := h.2.1; omega)) hx2
  clear hu2 hx2
  go_wp2
  all_goals
   go_ret
   exact ⟨rfl, HF, HR⟩
 .
  have heq : bz = bx /\ oz = ox := by
   have h := of_decide_eq_true Hr.out
   simpa using h
  obtain ⟨rfl, rfl⟩ := heq
  obtain rfl : z0 = .int .u64 (x0 : Int) := by
   have h := cz0.symm.trans cx0
   simpa using h
  go_enter Tryz.func90, Tryz.ntmps90
  go_wp2_with (first | (go_at_call 111; refine (Add_any _ _ _ (by omega) (by omega) (by omega) (by omega) _).mono ?_; rintro e w' ⟨rfl, hw⟩; cases hw.symm))
  go_quiet (fail)
  go_wp2
  go_ret
  refine ⟨rfl, (((Upd.refl _ w).setCell (fun _ => ⟨rfl, by omega, by omega⟩) _).drewN _), ?_⟩
  have h := (Hz.out.2.1.set 0 (x0 + y) (by simp)).drewN nq
  rw [Int.natCast_add] at h
  exact h
theorem U64.src_step2 {wr : World} {bz oz bs os n k : Nat} {xs : List Nat} {v : Value} (h : U64 wr bs (os + k) (xs.drop k)) (hl : xs.length = n) (ok : UpOk bz oz bs os n) :
  U64 (wr.setCell ⟨bz, oz + k, none⟩ v) bs (os + (k + 1)) (xs.drop (k + 1)) := U64.src_step (nq := 0) h hl ok
theorem carry_on {T rs p y xk q : Nat} (h : T + y = rs + p) (hx : xk + 1 = q) : T + p * xk + y = rs + 0 + p * q := by
 subst hx; rw [Nat.mul_add]; omega
theorem carry_end {T T' rs p p' y xk d r N : Nat} (h : T + y = rs + p) (hx : xk + 1 = d) (hT : T' = T + p * xk) (hN : N = T' + p' * r) : N + y = rs + p * d + p' * r := by
 subst hx; subst hT; subst hN; rw [Nat.mul_add]; omega
theorem addVW_c1 (bz oz cz bx ox cx n y x0 : Nat) (xs : List Nat) (w : World) (hn : n <= 1099511627776) (hcz : n <= cz) (hcx : n <= cx) (hn1 : 1 <= n)
  (lx : xs.length = n) (hz : Live w bz oz n) (hx : U64 w bx ox xs)
  (dx : Digs B64 xs) (hy : y < B64) (okx : UpOk bz oz bx ox n) (ex0 : xs[0]? = some x0) (hc : B64 <= x0 + y) :
  Calls Tryz.prog 90 #[.slice (some ⟨bz, oz, none⟩) n cz, .slice (some ⟨bx, ox, none⟩) n cx, .int .u64 (y : Int)] w fun e w' =>
   ∃ (c : Nat) (rs : List Nat), e = .returned (.int .u64 (c : Int)) /\ Upd (Rg bz oz (oz + n)) w w' /\ U64 w' bz oz rs /\ rs.length = n /\ Digs B64 rs ∧
    val B64 xs + y = val B64 rs + c * B64 ^ n /\ c <= 1 := by
 obtain ⟨x0', ex0', cx0, _, kx⟩ := U64.at_ (k := 0) (by simpa using hx) lx (by omega)
 obtain ⟨z0, cz0, fz0, kz⟩ := hz.at_ (k := 0) (by omega)
 obtain rfl : x0 = x0' := by simpa using ex0.symm.trans ex0'
 simp only [Nat.add_zero] at cx0 cz0 fz0 kx kz
 clear ex0'
 have hx0 : x0 < 18446744073709551616 := dx.at_ ex0
 have hy0 : y < 18446744073709551616 := hy
 have hc0 : 18446744073709551616 <= x0 + y := hc
 obtain ⟨dd, hdd⟩ : ∃ dd, x0 + y = dd + B64 := ⟨x0 + y - B64, by omega⟩
 have hd : dd < B64 := by rw [Zs] at *; omega
 have e1 : ((x0 : Int) + (y : Int)) / 18446744073709551616 = 1 := by rw [Zs] at *; omega
 have e2 : ((x0 : Int) + (y : Int)) % 18446744073709551616 = (dd : Int) := by rw [Zs] at *; omega
 have Hdd := Qq hdd
 clear hdd
 have h0 : (0 : Int) < (n : Int) := by omega
 have hn0 : ((n : Int) == 0) = false := beq_eq_false_iff_ne.2 (by omega)
 obtain ⟨r, hr⟩ : ∃ r, ((⟨bz, oz, none⟩ : Addr) == ⟨bx, ox, none⟩) = r := ⟨_, rfl⟩
 have Hr := Qq hr
 clear hr
 have Hz := Qq (Qj hz (Qj hx (Qj kz (Qj kx ex0))))
 clear hz hx kz kx ex0
 go_enter Tryz.func90, Tryz.ntmps90
 go_wp2_with (first | (go_at_call 111; refine (Add_any _ _ _ (by omega) (by omega) (by omega) (by omega) _).mono ?_; rintro e w' ⟨rfl, hw⟩; cases hw.symm))
 clear cx0 cz0 fz0
 go_loopw [9] (fun i wr => ∃ (k : Nat) (rs : List Nat), 1 <= k /\ k <= n /\ i = .int .i64 k /\ Upd (Rg bz oz (oz + n)) w wr /\ Live wr bz oz n /\ U64 wr bx (ox + k) (xs.drop k) /\ Free wr bz /\ Free wr bx
   /\ U64 wr bz oz rs /\ Hid (rs.length = k) /\ Digs B64 rs /\ Hid (val B64 (xs.take k) + y = val B64 rs + B64 ^ k))
  (fun i _ => n - (intOf i).toNat)
 case atStart =>
  refine ⟨1, [dd], Nat.le_refl _, hn1, rfl, (Upd.refl _ w).setCell (fun _ => ⟨rfl, by omega, by omega⟩) _, Hz.out.1.set _ _ _, U64.src_step2 (k := 0) (by simpa using Hz.out.2.1) lx okx,
   Hz.out.2.2.1.free.set _ _ rfl, Hz.out.2.2.2.1.free.set _ _ rfl, U64.dst_step (nq := 0) (k := 0) (U64.nil _ _ _) rfl Hz.out.2.2.1 rfl, rfl, Digs.cons hd Digs.nil, ?_⟩
  show _ = _
  have ht := Yj (b := B64) Hz.out.2.2.2.2
  simp only [Nat.zero_add] at ht
  rw [ht]
  simp only [List.take_zero, val_nil, Nat.pow_zero, Nat.one_mul, Nat.zero_add, Ye, Nat.mul_zero, Nat.add_zero, Nat.pow_one]
  exact Hdd.out
 case round =>
  obtain ⟨k, rs, hk1, hk, rfl, hU, hzk, hxk, fz, fx, hR, hL, hD, hC⟩ := hrel
  by_cases hlt : k < n
  .
   obtain ⟨xk, ex, cxk, _⟩ := hxk.at_ lx hlt
   obtain ⟨zk, czk, fzk, kzk⟩ := hzk.at_ hlt
   have hxl : xk < 18446744073709551616 := dx.at_ ex
   have ht := Qq (Yj (b := B64) ex)
   clear ex
   by_cases hm : xk = 18446744073709551615
   .
    have hb : ((xk : Int) != 18446744073709551615) = false := by rw [bne_eq_false_iff_eq]; omega
    have Hm := Qq hm
    clear hm
    go_wp2
    go_roundw
    case rel =>
     refine ⟨k + 1, rs ++ [0], by omega, by omega, by go_num, hU.setCell (fun _ => ⟨rfl, by omega, by omega⟩) _, hzk.set _ _ _, U64.src_step2 hxk lx okx, fz.set _ _ rfl, fx.set _ _ rfl,
      U64.dst_step (nq := 0) hR hL kzk rfl, by show _ = _; rw [List.length_append, hL.out]; rfl, hD.snoc Zy, ?_⟩
     show _ = _
     rw [ht.out, Yi, Nat.mul_zero, Nat.pow_succ]
     exact carry_on hC.out (by rw [Hm.out]; rfl)
    case measure => simp [intOf]; omega
   .
    have hb : ((xk : Int) != 18446744073709551615) = true := by rw [bne_iff_ne]; omega
    have hxs : (xk : Int) + 1 < 18446744073709551616 := by omega
    have hd' : xk + 1 < B64 := by rw [Zs]; omega
    clear hm
    have hp : ∀ v nq, (binOp .neq 113 (.pointer (some ⟨bz, oz, none⟩)) (.pointer (some ⟨bx, ox, none⟩))).run Tryz.prog ((wr.setCell ⟨bz, oz + k, none⟩ v).drewN nq) = .ok (.bool (!r)) ((wr.setCell ⟨bz, oz + k, none⟩ v).drewN nq) :=
     fun v nq => neq_words (w := (wr.setCell ⟨bz, oz + k, none⟩ v).drewN nq) (fz.set ⟨bz, oz + k, none⟩ v rfl) (fx.set ⟨bz, oz + k, none⟩ v rfl) Hr.out
    cases r
    .
     go_wp2
     go_quiet (fail)
     go_wp2
     generalize hW : (wr.setCell ⟨bz, oz + k, none⟩ (.int .u64 ((xk : Int) + 1))).drewN nq = W1
     have HX : U64 W1 bx (ox + (k + 1)) (xs.drop (k + 1)) := by rw [<- hW]; exact (U64.src_step2 hxk lx okx).drewN nq
     have HZ : Live W1 bz (oz + (k + 1)) (xs.drop (k + 1)).length := by rw [<- hW]; exact (((hzk.sub (k + 1) (n - (k + 1)) (by omega)).le (by rw [List.length_drop]; omega)).set _ _ _).drewN nq
     have HU : Upd (Rg bz oz (oz + n)) w W1 := by rw [<- hW]; exact ((hU.setCell (fun _ => ⟨rfl, by omega, by omega⟩) _).drewN nq)
     have HR : U64 W1 bz oz (rs ++ [xk + 1]) := by rw [<- hW]; exact U64.dst_step (nq := 0) hR hL kzk (Int.natCast_add _ _).symm
     have lxd : (xs.drop (k + 1)).length = n - (k + 1) := by rw [List.length_drop, lx]
     have ks : (0 : Int) <= (k : Int) + 1 := by omega
     have kt : (k : Int) + 1 <= (n : Int) := by omega
     have ku : ((k : Int) + 1).toNat = k + 1 := by omega
     have kw : IntKind.i64.wrap ((k : Int) + 1) = (k : Int) + 1 := by rw [IntKind.wrap_i64]; omega
     clear hW hp hzk hxk
     go_still_tail 8, (by kernel_rfl)
     change wpList _ _ _ _ _ W1.drew
     refine wpList_copy64 rfl (.tmp 69) (.tmp 73) 55 55 rfl 81 uWords sWord _ _ _ _ _ _ bz (oz + (k + 1)) bx (ox + (k + 1)) rfl rfl (xs.drop (k + 1)) (by rw [lxd]; exact (Nat.min_self _).symm) (fun h => ⟨congrArg some (cutA_lt (by omega)), congrArg some (cutA_lt (by omega))⟩) HX.drew HZ.drew ?_
     intro w2 hu2 hx2
     have HF : Upd (Rg bz oz (oz + n)) w w2 := (HU.drew.then hu2 (fun b i _ h => h) (fun b i _ h => ⟨h.1, by have := h.2.1; omega, by have := h.2.2; omega⟩))
     have HR2 : U64 w2 bz oz ((rs ++ [xk + 1]) ++ xs.drop (k + 1)) := by
      have e : (rs ++ [xk + 1]).length = k + 1 := by rw [List.length_append, hL.out]; rfl
      refine (HR.drew.upd hu2 (fun i hi h => ?_)).append (by rw [e]; exact hx2)
      have := h.2.1
      omega
     clear hu2 hx2 kw ku ks kt
     go_wp2
     all_goals
      go_ret
      refine ⟨0, _, rfl, HF, HR2, by rw [List.length_append, List.length_append, hL.out, lxd]; simp; omega, (hD.snoc hd').append (dx.drop _), ?_, by omega⟩
      rw [val_append, Yi, List.length_append, hL.out, Nat.zero_mul, Nat.add_zero]
      exact carry_end hC.out rfl ht.out (Zq xs (k + 1) (by omega))
    .
     have heq : bz = bx /\ oz = ox := by
      have h := of_decide_eq_true Hr.out
      simpa using h
     obtain ⟨rfl, rfl⟩ := heq
     clear czk
     go_wp2
     go_quiet (fail)
     go_wp2
     go_ret
     refine ⟨0, (rs ++ [xk + 1]) ++ xs.drop (k + 1), rfl, ((hU.setCell (fun _ => ⟨rfl, by omega, by omega⟩) _).drewN nq), ?_, by rw [List.length_append, List.length_append, hL.out, List.length_drop]; simp; omega, (hD.snoc hd').append (dx.drop _), ?_, by omega⟩
     .
      have HR : U64 ((wr.setCell ⟨bz, oz + k, none⟩ (.int .u64 ((xk : Int) + 1))).drewN nq) bz oz (rs ++ [xk + 1]) := U64.dst_step (nq := 0) hR hL kzk (Int.natCast_add _ _).symm
      refine HR.append ?_
      rw [List.length_append, hL.out]
      exact (U64.src_step2 hxk lx okx).drewN nq
     .
      rw [val_append, Yi, List.length_append, hL.out, Nat.zero_mul, Nat.add_zero]
      exact carry_end hC.out rfl ht.out (Zq xs (k + 1) (by omega))
  .
   have : k = n := by omega
   subst this
   clear hzk hxk
   rw [List.take_of_length_le (by omega)] at hC
   go_wp2
   go_ret
   exact ⟨1, rs, rfl, hU, hR, hL, hD, by rw [Nat.one_mul]; exact hC, Nat.le_refl _⟩
theorem subVW_c0 (bz oz cz bx ox cx n y x0 d : Nat) (xs : List Nat) (w : World) (hn : n + 1 <= 1099511627776) (hcz : n + 1 <= cz) (hcx : n + 1 <= cx)
  (lx : xs.length = n) (hz : Live w bz oz (n + 1)) (hx : U64 w bx ox (x0 :: xs))
  (dx : Digs B64 (x0 :: xs)) (hy : y < B64) (okx : UpOk bz oz bx ox (n + 1)) (hc : x0 = y + d) :
  Calls Tryz.prog 92 #[.slice (some ⟨bz, oz, none⟩) (n + 1) cz, .slice (some ⟨bx, ox, none⟩) (n + 1) cx, .int .u64 (y : Int)] w fun e w' =>
   e = .returned (.int .u64 0) /\ Upd (Rg bz oz (oz + (n + 1))) w w' /\ U64 w' bz oz (d :: xs) := by
 obtain ⟨z0, kz⟩ := hz 0 (by omega)
 have kx := hx 0 (by simp)
 simp only [Nat.add_zero, List.getElem_cons_zero] at kz kx
 have cz0 := kz.cell
 have fz0 := kz.frozen
 have cx0 := kx.cell
 have hx0 : x0 < 18446744073709551616 := dx.head
 have hy0 : y < 18446744073709551616 := hy
 have e1 : bor (x0 : Int) (y : Int) 0 = 0 := by unfold bor; rw [if_neg (by omega)]
 have e2 : ((x0 : Int) - (y : Int)) % 18446744073709551616 = (d : Int) := by omega
 have Hc := Qq hc
 clear hc
 have h0 : (0 : Int) < (n : Int) + 1 := by omega
 have h1 : (1 : Int) <= (n : Int) + 1 := by omega
 have hn0 : ((n : Int) + 1 == 0) = false := beq_eq_false_iff_ne.2 (by omega)
 obtain ⟨r, hr⟩ : ∃ r, ((⟨bz, oz, none⟩ : Addr) == ⟨bx, ox, none⟩) = r := ⟨_, rfl⟩
 have hp : ∀ v nq, (binOp .neq 113 (.pointer (some ⟨bz, oz, none⟩)) (.pointer (some ⟨bx, ox, none⟩))).run Tryz.prog ((w.setCell ⟨bz, oz, none⟩ v).drewN nq) = .ok (.bool (!r)) ((w.setCell ⟨bz, oz, none⟩ v).drewN nq) :=
  fun v nq => neq_words (w := (w.setCell ⟨bz, oz, none⟩ v).drewN nq) (kz.free.set ⟨bz, oz, none⟩ v rfl) (kx.free.set ⟨bz, oz, none⟩ v rfl) hr
 have Hr := Qq hr
 clear hr
 have Hz := Qq (Qj hz (Qj hx (Qj kz kx)))
 clear hz hx kz kx
 cases r
 .
  go_enter Tryz.func92, Tryz.ntmps92
  go_wp2_with (first | (go_at_call 113; refine (Sub_any _ _ _ (by omega) (by omega) (by omega) (by omega) (by omega) _).mono ?_; rintro e w' ⟨rfl, hw⟩; cases hw.symm))
  go_quiet (fail)
  go_wp2
  generalize hW : (w.setCell ⟨bz, oz, none⟩ (.int .u64 (d : Int))).drewN nq = W1
  have HX : U64 W1 bx (ox + 1) xs := by
   have h := (Hz.out.2.1.drop 1).far (b' := bz) (i' := oz) (.int .u64 (d : Int)) (by unfold UpOk at okx; simp; omega)
   rw [<- hW]; exact U64.drewN (by simpa using h) nq
  have HZ : Live W1 bz (oz + 1) xs.length := by rw [<- hW]; exact (((Hz.out.1.sub 1 n (by omega)).le (by omega)).set _ _ _).drewN nq
  have HU : Upd (Rg bz oz (oz + 1)) w W1 := by rw [<- hW]; exact (((Upd.refl _ w).setCell (fun _ => ⟨rfl, by omega, by omega⟩) _).drewN nq)
  have HC : Cell W1 bz oz (.int .u64 (d : Int)) := by
   rw [<- hW]
   exact (show Cell _ bz oz _ from Hz.out.2.2.1.set _)
  clear hW
  go_still_tail 4, (by kernel_rfl)
  change wpList _ _ _ _ _ W1.drew
  refine wpList_copy64 rfl (.tmp 40) (.tmp 42) 55 55 rfl 81 uWords sWord _ _ _ _ _ _ bz (oz + 1) bx (ox + 1) rfl rfl xs (by rw [lx]; exact (Nat.min_self n).symm) (fun h => ⟨congrArg some (cutA_lt (by omega)), congrArg some (cutA_lt (by omega))⟩) HX.drew HZ.drew ?_
  intro w2 hu2 hx2
  have HF : Upd (Rg bz oz (oz + (n + 1))) w w2 := (HU.drew.then hu2 (fun b i _ h => ⟨h.1, h.2.1, by have := h.2.2; omega⟩) (fun b i _ h => ⟨h.1, by have := h.2.1; omega, by have := h.2.2; omega⟩))
  have HR : U64 w2 bz oz (d :: xs) := U64.cons ((show Cell W1.drew bz oz _ from HC).upd hu2 (fun h => by have := h.2.1; omega)) hx2
  clear hu2 hx2
  go_wp2
  all_goals
   go_ret
   exact ⟨rfl, HF, HR⟩
 .
  have heq : bz = bx /\ oz = ox := by
   have h := of_decide_eq_true Hr.out
   simpa using h
  obtain ⟨rfl, rfl⟩ := heq
  obtain rfl : z0 = .int .u64 (x0 : Int) := by
   have h := cz0.symm.trans cx0
   simpa using h
  go_enter Tryz.func92, Tryz.ntmps92
  go_wp2_with (first | (go_at_call 113; refine (Sub_any _ _ _ (by omega) (by omega) (by omega) (by omega) (by omega) _).mono ?_; rintro e w' ⟨rfl, hw⟩; cases hw.symm))
  go_quiet (fail)
  go_wp2
  go_ret
  refine ⟨rfl, (((Upd.refl _ w).setCell (fun _ => ⟨rfl, by omega, by omega⟩) _).drewN _), ?_⟩
  have h := (Hz.out.2.1.set 0 d (by simp)).drewN nq
  exact h
theorem borrow_on {T y rs k : Nat} (h : T + B64 ^ k = y + rs) : T + B64 ^ k * 0 + B64 ^ (k + 1) = y + (rs + B64 ^ k * 18446744073709551615) := by
 rw [Nat.pow_succ]
 generalize B64 ^ k = p at *
 rw [Zs]; omega
theorem borrow_end {T T' rs p p' y xk d r N : Nat} (h : T + p = y + rs) (hx : xk = d + 1) (hT : T' = T + p * xk) (hN : N = T' + p' * r) : N = y + (rs + p * d + p' * r) := by
 subst hx; subst hT; subst hN; rw [Nat.mul_add]; omega
theorem subVW_c1 (bz oz cz bx ox cx n y x0 : Nat) (xs : List Nat) (w : World) (hn : n <= 1099511627776) (hcz : n <= cz) (hcx : n <= cx) (hn1 : 1 <= n)
  (lx : xs.length = n) (hz : Live w bz oz n) (hx : U64 w bx ox xs)
  (dx : Digs B64 xs) (hy : y < B64) (okx : UpOk bz oz bx ox n) (ex0 : xs[0]? = some x0) (hc : x0 < y) :
  Calls Tryz.prog 92 #[.slice (some ⟨bz, oz, none⟩) n cz, .slice (some ⟨bx, ox, none⟩) n cx, .int .u64 (y : Int)] w fun e w' =>
   ∃ (c : Nat) (rs : List Nat), e = .returned (.int .u64 (c : Int)) /\ Upd (Rg bz oz (oz + n)) w w' /\ U64 w' bz oz rs /\ rs.length = n /\ Digs B64 rs ∧
    val B64 xs + c * B64 ^ n = y + val B64 rs /\ c <= 1 := by
 obtain ⟨x0', ex0', cx0, _, kx⟩ := U64.at_ (k := 0) (by simpa using hx) lx (by omega)
 obtain ⟨z0, cz0, fz0, kz⟩ := hz.at_ (k := 0) (by omega)
 obtain rfl : x0 = x0' := by simpa using ex0.symm.trans ex0'
 simp only [Nat.add_zero] at cx0 cz0 fz0 kx kz
 clear ex0'
 have hx0 : x0 < 18446744073709551616 := dx.at_ ex0
 have hy0 : y < 18446744073709551616 := hy
 obtain ⟨dd, hdd⟩ : ∃ dd, x0 + B64 = y + dd := ⟨x0 + B64 - y, by rw [Zs] at *; omega⟩
 have hd : dd < B64 := by rw [Zs] at *; omega
 have e1 : bor (x0 : Int) (y : Int) 0 = 1 := by unfold bor; rw [if_pos (by omega)]
 have e2 : ((x0 : Int) - (y : Int)) % 18446744073709551616 = (dd : Int) := by rw [Zs] at *; omega
 have Hdd := Qq hdd
 clear hdd
 have h0 : (0 : Int) < (n : Int) := by omega
 have hn0 : ((n : Int) == 0) = false := beq_eq_false_iff_ne.2 (by omega)
 obtain ⟨r, hr⟩ : ∃ r, ((⟨bz, oz, none⟩ : Addr) == ⟨bx, ox, none⟩) = r := ⟨_, rfl⟩
 have Hr := Qq hr
 clear hr
 have Hz := Qq (Qj hz (Qj hx (Qj kz (Qj kx ex0))))
 clear hz hx kz kx ex0
 go_enter Tryz.func92, Tryz.ntmps92
 go_wp2_with (first | (go_at_call 113; refine (Sub_any _ _ _ (by omega) (by omega) (by omega) (by omega) (by omega) _).mono ?_; rintro e w' ⟨rfl, hw⟩; cases hw.symm))
 clear cx0 cz0 fz0
 go_loopw [9] (fun i wr => ∃ (k : Nat) (rs : List Nat), 1 <= k /\ k <= n /\ i = .int .i64 k /\ Upd (Rg bz oz (oz + n)) w wr /\ Live wr bz oz n /\ U64 wr bx (ox + k) (xs.drop k) /\ Free wr bz /\ Free wr bx
   /\ U64 wr bz oz rs /\ Hid (rs.length = k) /\ Digs B64 rs /\ Hid (val B64 (xs.take k) + B64 ^ k = y + val B64 rs))
  (fun i _ => n - (intOf i).toNat)
 case atStart =>
  refine ⟨1, [dd], Nat.le_refl _, hn1, rfl, (Upd.refl _ w).setCell (fun _ => ⟨rfl, by omega, by omega⟩) _, Hz.out.1.set _ _ _, U64.src_step2 (k := 0) (by simpa using Hz.out.2.1) lx okx,
   Hz.out.2.2.1.free.set _ _ rfl, Hz.out.2.2.2.1.free.set _ _ rfl, U64.dst_step (nq := 0) (k := 0) (U64.nil _ _ _) rfl Hz.out.2.2.1 rfl, rfl, Digs.cons hd Digs.nil, ?_⟩
  show _ = _
  have ht := Yj (b := B64) Hz.out.2.2.2.2
  simp only [Nat.zero_add] at ht
  rw [ht]
  simp only [List.take_zero, val_nil, Nat.pow_zero, Nat.one_mul, Nat.zero_add, Ye, Nat.mul_zero, Nat.add_zero, Nat.pow_one]
  exact Hdd.out
 case round =>
  obtain ⟨k, rs, hk1, hk, rfl, hU, hzk, hxk, fz, fx, hR, hL, hD, hC⟩ := hrel
  by_cases hlt : k < n
  .
   obtain ⟨xk, ex, cxk, _⟩ := hxk.at_ lx hlt
   obtain ⟨zk, czk, fzk, kzk⟩ := hzk.at_ hlt
   have hxl : xk < 18446744073709551616 := dx.at_ ex
   have ht := Qq (Yj (b := B64) ex)
   clear ex
   by_cases hm : xk = 0
   .
    have hb : ((xk : Int) != 0) = false := by rw [bne_eq_false_iff_eq]; omega
    have Hm := Qq hm
    clear hm
    go_wp2
    go_roundw
    case rel =>
     refine ⟨k + 1, rs ++ [18446744073709551615], by omega, by omega, by go_num, hU.setCell (fun _ => ⟨rfl, by omega, by omega⟩) _, hzk.set _ _ _, U64.src_step2 hxk lx okx, fz.set _ _ rfl, fx.set _ _ rfl,
      U64.dst_step (nq := 0) hR hL kzk rfl, by show _ = _; rw [List.length_append, hL.out]; rfl, hD.snoc (by decide), ?_⟩
     show _ = _
     rw [ht.out, Yi, hL.out, Hm.out]
     exact borrow_on hC.out
    case measure => simp [intOf]; omega
   .
    have hb : ((xk : Int) != 0) = true := by rw [bne_iff_ne]; omega
    obtain ⟨xp, hxp⟩ : ∃ xp, xk = xp + 1 := ⟨xk - 1, by omega⟩
    have hxs : (0 : Int) <= (xk : Int) - 1 := by omega
    have hd' : xp < B64 := by rw [Zs]; omega
    have Hxp := Qq hxp
    clear hxp
    clear hm
    have hp : ∀ v nq, (binOp .neq 113 (.pointer (some ⟨bz, oz, none⟩)) (.pointer (some ⟨bx, ox, none⟩))).run Tryz.prog ((wr.setCell ⟨bz, oz + k, none⟩ v).drewN nq) = .ok (.bool (!r)) ((wr.setCell ⟨bz, oz + k, none⟩ v).drewN nq) :=
     fun v nq => neq_words (w := (wr.setCell ⟨bz, oz + k, none⟩ v).drewN nq) (fz.set ⟨bz, oz + k, none⟩ v rfl) (fx.set ⟨bz, oz + k, none⟩ v rfl) Hr.out
    cases r
    .
     go_wp2
     go_quiet (fail)
     go_wp2
     generalize hW : (wr.setCell ⟨bz, oz + k, none⟩ (.int .u64 ((xk : Int) - 1))).drewN nq = W1
     have HX : U64 W1 bx (ox + (k + 1)) (xs.drop (k + 1)) := by rw [<- hW]; exact (U64.src_step2 hxk lx okx).drewN nq
     have HZ : Live W1 bz (oz + (k + 1)) (xs.drop (k + 1)).length := by rw [<- hW]; exact (((hzk.sub (k + 1) (n - (k + 1)) (by omega)).le (by rw [List.length_drop]; omega)).set _ _ _).drewN nq
     have HU : Upd (Rg bz oz (oz + n)) w W1 := by rw [<- hW]; exact ((hU.setCell (fun _ => ⟨rfl, by omega, by omega⟩) _).drewN nq)
     have HR : U64 W1 bz oz (rs ++ [xp]) := by rw [<- hW]; exact U64.dst_step (nq := 0) hR hL kzk (by rw [Hxp.out]; omega)
     have lxd : (xs.drop (k + 1)).length = n - (k + 1) := by rw [List.length_drop, lx]
     have ks : (0 : Int) <= (k : Int) + 1 := by omega
     have kt : (k : Int) + 1 <= (n : Int) := by omega
     have ku : ((k : Int) + 1).toNat = k + 1 := by omega
     have kw : IntKind.i64.wrap ((k : Int) + 1) = (k : Int) + 1 := by rw [IntKind.wrap_i64]; omega
     clear hW hp hzk hxk
     go_still_tail 8, (by kernel_rfl)
     change wpList _ _ _ _ _ W1.drew
     refine wpList_copy64 rfl (.tmp 69) (.tmp 73) 55 55 rfl 81 uWords sWord _ _ _ _ _ _ bz (oz + (k + 1)) bx (ox + (k + 1)) rfl rfl (xs.drop (k + 1)) (by rw [lxd]; exact (Nat.min_self _).symm) (fun h => ⟨congrArg some (cutA_lt (by omega)), congrArg some (cutA_lt (by omega))⟩) HX.drew HZ.drew ?_
     intro w2 hu2 hx2
     have HF : Upd (Rg bz oz (oz + n)) w w2 := (HU.drew.then hu2 (fun b i _ h => h) (fun b i _ h => ⟨h.1, by have := h.2.1; omega, by have := h.2.2; omega⟩))
     have HR2 : U64 w2 bz oz ((rs ++ [xp]) ++ xs.drop (k + 1)) := by
      have e : (rs ++ [xp]).length = k + 1 := by rw [List.length_append, hL.out]; rfl
      refine (HR.drew.upd hu2 (fun i hi h => ?_)).append (by rw [e]; exact hx2)
      have := h.2.1
      omega
     clear hu2 hx2 kw ku ks kt
     go_wp2
     all_goals
      go_ret
      refine ⟨0, _, rfl, HF, HR2, by rw [List.length_append, List.length_append, hL.out, lxd]; simp; omega, (hD.snoc hd').append (dx.drop _), ?_, by omega⟩
      rw [val_append, Yi, List.length_append, hL.out, Nat.zero_mul, Nat.add_zero]
      exact borrow_end hC.out Hxp.out ht.out (Zq xs (k + 1) (by omega))
    .
     have heq : bz = bx /\ oz = ox := by
      have h := of_decide_eq_true Hr.out
      simpa using h
     obtain ⟨rfl, rfl⟩ := heq
     clear czk
     go_wp2
     go_quiet (fail)
     go_wp2
     go_ret
     refine ⟨0, (rs ++ [xp]) ++ xs.drop (k + 1), rfl, ((hU.setCell (fun _ => ⟨rfl, by omega, by omega⟩) _).drewN nq), ?_, by rw [List.length_append, List.length_append, hL.out, List.length_drop]; simp; omega, (hD.snoc hd').append (dx.drop _), ?_, by omega⟩
     .
      have HR : U64 ((wr.setCell ⟨bz, oz + k, none⟩ (.int .u64 ((xk : Int) - 1))).drewN nq) bz oz (rs ++ [xp]) := U64.dst_step (nq := 0) hR hL kzk (by rw [Hxp.out]; omega)
      refine HR.append ?_
      rw [List.length_append, hL.out]
      exact (U64.src_step2 hxk lx okx).drewN nq
     .
      rw [val_append, Yi, List.length_append, hL.out, Nat.zero_mul, Nat.add_zero]
      exact borrow_end hC.out Hxp.out ht.out (Zq xs (k + 1) (by omega))
  .
   have : k = n := by omega
   subst this
   clear hzk hxk
   rw [List.take_of_length_le (by omega)] at hC
   go_wp2
   go_ret
   exact ⟨1, rs, rfl, hU, hR, hL, hD, by rw [Nat.one_mul]; exact hC, Nat.le_refl _⟩
theorem addVW_any (bz oz cz bx ox cx n y : Nat) (xs : List Nat) (w : World) (hn : n <= 1099511627776) (hcz : n <= cz) (hcx : n <= cx)
  (lx : xs.length = n) (hz : Live w bz oz n) (hx : U64 w bx ox xs) (dx : Digs B64 xs) (hy : y < B64) (okx : UpOk bz oz bx ox n) :
  Calls Tryz.prog 90 #[.slice (some ⟨bz, oz, none⟩) n cz, .slice (some ⟨bx, ox, none⟩) n cx, .int .u64 (y : Int)] w fun e w' =>
   ∃ (c : Nat) (rs : List Nat), e = .returned (.int .u64 (c : Int)) /\ Upd (Rg bz oz (oz + n)) w w' /\ U64 w' bz oz rs /\ rs.length = n /\ Digs B64 rs ∧
    val B64 xs + y = val B64 rs + c * B64 ^ n /\ c < B64 /\ (0 < n -> c <= 1) := by
 match n, xs, lx with
 | 0, [], _ =>
  have hn0 : ((0 : Int) == 0) = true := rfl
  go_enter Tryz.func90, Tryz.ntmps90
  go_wp2
  go_ret
  exact ⟨y, [], rfl, Upd.refl _ _, U64.nil _ _ _, rfl, Digs.nil, by simp, hy, fun h => absurd h (Nat.lt_irrefl 0)⟩
 | n + 1, x0 :: xs, lx =>
  have hx0 := dx.head
  by_cases hc : x0 + y < B64
  .
   refine (addVW_c0 bz oz cz bx ox cx n y x0 xs w hn hcz hcx (by simpa using lx) hz hx dx hy okx hc).mono fun e w' h => ?_
   obtain ⟨he, hU, hR⟩ := h
   exact ⟨0, _, he, hU, hR, by simpa using lx, Digs.cons hc dx.tail, by simp; omega, Zy, fun _ => by omega⟩
  .
   refine (addVW_c1 bz oz cz bx ox cx (n + 1) y x0 (x0 :: xs) w (by omega) hcz hcx (by omega) lx hz hx dx hy okx rfl (by omega)).mono fun e w' h => ?_
   obtain ⟨c, rs, he, hU, hR, hl, hD, hv, h1⟩ := h
   exact ⟨c, rs, he, hU, hR, hl, hD, hv, by rw [Zs]; omega, fun _ => h1⟩
theorem subVW_any (bz oz cz bx ox cx n y : Nat) (xs : List Nat) (w : World) (hn : n <= 1099511627776) (hcz : n <= cz) (hcx : n <= cx)
  (lx : xs.length = n) (hz : Live w bz oz n) (hx : U64 w bx ox xs) (dx : Digs B64 xs) (hy : y < B64) (okx : UpOk bz oz bx ox n) :
  Calls Tryz.prog 92 #[.slice (some ⟨bz, oz, none⟩) n cz, .slice (some ⟨bx, ox, none⟩) n cx, .int .u64 (y : Int)] w fun e w' =>
   ∃ (c : Nat) (rs : List Nat), e = .returned (.int .u64 (c : Int)) /\ Upd (Rg bz oz (oz + n)) w w' /\ U64 w' bz oz rs /\ rs.length = n /\ Digs B64 rs ∧
    val B64 xs + c * B64 ^ n = y + val B64 rs /\ c < B64 /\ (0 < n -> c <= 1) := by
 match n, xs, lx with
 | 0, [], _ =>
  have hn0 : ((0 : Int) == 0) = true := rfl
  go_enter Tryz.func92, Tryz.ntmps92
  go_wp2
  go_ret
  exact ⟨y, [], rfl, Upd.refl _ _, U64.nil _ _ _, rfl, Digs.nil, by simp, hy, fun h => absurd h (Nat.lt_irrefl 0)⟩
 | n + 1, x0 :: xs, lx =>
  have hx0 := dx.head
  by_cases hc : x0 < y
  .
   refine (subVW_c1 bz oz cz bx ox cx (n + 1) y x0 (x0 :: xs) w (by omega) hcz hcx (by omega) lx hz hx dx hy okx rfl (by omega)).mono fun e w' h => ?_
   obtain ⟨c, rs, he, hU, hR, hl, hD, hv, h1⟩ := h
   exact ⟨c, rs, he, hU, hR, hl, hD, hv, by rw [Zs]; omega, fun _ => h1⟩
  .
   refine (subVW_c0 bz oz cz bx ox cx n y x0 (x0 - y) xs w hn hcz hcx (by simpa using lx) hz hx dx hy okx (by omega)).mono fun e w' h => ?_
   obtain ⟨he, hU, hR⟩ := h
   exact ⟨0, _, he, hU, hR, by simpa using lx, Digs.cons (by omega) dx.tail, by simp; omega, Zy, fun _ => by omega⟩
def shlW (x s : Nat) : Nat := x * 2 ^ s % B64
def shrW (x s : Nat) : Nat := x / 2 ^ s
theorem shrW_form (t : Nat) (ht : t <= 64) (x : Nat) : (x : Int) / 2 ^ min t 64 = ((shrW x t : Nat) : Int) := by
 rw [Nat.min_eq_left ht]; unfold shrW; simp
theorem shlW_form (s : Nat) (hs : s <= 64) (x : Nat) : IntKind.u64.wrap ((x : Int) * 2 ^ min s 64) = ((shlW x s : Nat) : Int) := by
 rw [Nat.min_eq_left hs]
 have : (x : Int) * 2 ^ s = ((x * 2 ^ s : Nat) : Int) := by simp
 rw [this, wrapM]; rfl
theorem and63 (s : Nat) (hs : s < 64) : bits .and .u64 (s : Int) 63 = (s : Int) := by
 have h := bits_and_u64_nat s 63 (by omega) (by omega)
 have e : s &&& 63 = s % 64 := Nat.and_two_pow_sub_one_eq_mod s 6
 rw [e, Nat.mod_eq_of_lt (by omega)] at h
 exact h
theorem shl_or (x s t h : Nat) (hst : s + t = 64) (hh : h < 2 ^ s) : ∃ d, shlW x s ||| h = d /\ d < B64 /\ x * 2 ^ s + h = d + B64 * shrW x t := by
 have hB : B64 = 2 ^ s * 2 ^ t := by rw [<- Nat.pow_add, hst]; rfl
 have hps : 0 < 2 ^ s := Nat.two_pow_pos s
 have hpt : 0 < 2 ^ t := Nat.two_pow_pos t
 have hlo : x % 2 ^ t < 2 ^ t := Nat.mod_lt _ hpt
 have e0 : x * 2 ^ s = (x % 2 ^ t) * 2 ^ s + B64 * (x / 2 ^ t) := by
  have h1 := Nat.mod_add_div x (2 ^ t)
  rw [hB]
  conv => lhs; rw [<- h1]
  rw [Nat.add_mul]; congr 1
  grind
 have hl2 : (x % 2 ^ t) * 2 ^ s + h < B64 := by
  have : (x % 2 ^ t + 1) * 2 ^ s <= 2 ^ t * 2 ^ s := Nat.mul_le_mul_right _ hlo
  rw [hB, Nat.mul_comm (2 ^ s)]
  rw [Nat.add_mul] at this
  omega
 have e1 : shlW x s = (x % 2 ^ t) * 2 ^ s := by
  unfold shlW
  rw [e0, Nat.add_mul_mod_self_left]
  exact Nat.mod_eq_of_lt (by omega)
 refine ⟨(x % 2 ^ t) * 2 ^ s + h, ?_, hl2, ?_⟩
 .
  rw [e1, Nat.mul_comm]
  exact (Nat.two_pow_add_eq_or_of_lt hh _).symm
 . rw [e0]; unfold shrW; omega
theorem shrW_lt (x s t : Nat) (hst : s + t = 64) (hx : x < B64) : shrW x t < 2 ^ s := by
 unfold shrW
 rw [Nat.div_lt_iff_lt_mul (Nat.two_pow_pos t), <- Nat.pow_add, hst]; exact hx
theorem shlW_lt (x s : Nat) : shlW x s < B64 := Nat.mod_lt _ Zy
theorem shrW_le (x s : Nat) (h : x < B64) : shrW x s < B64 := Nat.lt_of_le_of_lt (Nat.div_le_self _ _) h
def DnOk (bz oz bs os n : Nat) : Prop := bs ≠ bz \/ os <= oz \/ oz + n <= os
theorem U64.src_down {wr : World} {bz oz bs os n k nq : Nat} {xs : List Nat} {v : Value} (h : U64 wr bs os (xs.take (k + 1))) (hl : xs.length = n) (hk : k < n) (ok : DnOk bz oz bs os n) :
  U64 ((wr.drewN nq).setCell ⟨bz, oz + k, none⟩ v) bs os (xs.take k) := by
 have h1 := (h.drewN nq).take k
 rw [List.take_take, Nat.min_eq_left (by omega)] at h1
 refine h1.far v ?_
 unfold DnOk at ok
 rw [List.length_take, hl]
 omega
theorem U64.dst_down {wr : World} {bz oz k nq : Nat} {hs : List Nat} {u : Value} {d : Nat} (h : U64 wr bz (oz + (k + 1)) hs) (c : Cell wr bz (oz + k) u) :
  U64 ((wr.drewN nq).setCell ⟨bz, oz + k, none⟩ (.int .u64 (d : Int))) bz (oz + k) (d :: hs) := by
 refine U64.cons ((show Cell (wr.drewN nq) bz (oz + k) u from c).set _) ?_
 exact (h.drewN nq).far _ (by omega)
theorem U64.top {w : World} {b o n k : Nat} {xs : List Nat} (h : U64 w b o (xs.take (k + 1))) (hl : xs.length = n) (hk : k < n) (i : Nat) (hi : i <= k) : ∃ x, xs[i]? = some x /\ w.cell? ⟨b, o + i, none⟩ = some (.int .u64 ((x : Nat) : Int)) /\ w.frozen? ⟨b, o + i, none⟩ = false /\ Cell w b (o + i) (.int .u64 ((x : Nat) : Int)) := by
 have h0 := h i (by rw [List.length_take]; omega)
 rw [List.getElem_take] at h0
 exact ⟨xs[i]'(by omega), by rw [List.getElem?_eq_getElem (by omega)], h0.cell, h0.frozen, h0⟩
theorem val_drop_at {b : Nat} {xs : List Nat} {k x : Nat} (hx : xs[k]? = some x) : val b (xs.drop k) = x + b * val b (xs.drop (k + 1)) := by
 obtain ⟨hk, rfl⟩ := List.getElem?_eq_some_iff.1 hx
 rw [List.drop_eq_getElem_cons hk]; rfl
theorem lsh_step {V S H c P x d h h' q V' : Nat} (hI : V * S + h = H + c * P) (hc : x * S + h' = d + B64 * h) (hV : V' = x + B64 * V) (hq : q = B64 * P) : V' * S + h' = d + B64 * H + c * q := by
 subst hV; subst hq
 generalize B64 = B at *
 grind
theorem lshVU_g_pos (bz oz cz bx ox cx n s t xt : Nat) (xs : List Nat) (w : World) (hn : n + 1 <= 1099511627776) (hst : s + t = 64) (hs0 : 0 < s) (ht0 : 0 < t)
  (lx : xs.length = n + 1) (hz : Live w bz oz (n + 1)) (hx : U64 w bx ox xs) (dx : Digs B64 xs) (okx : DnOk bz oz bx ox (n + 1)) (ext : xs[n]? = some xt) :
  Calls Tryz.prog 126 #[.slice (some ⟨bz, oz, none⟩) (n + 1) cz, .slice (some ⟨bx, ox, none⟩) (n + 1) cx, .int .u64 (s : Int)] w fun e w' =>
   ∃ (rs : List Nat), e = .returned (.int .u64 ((shrW xt t : Nat) : Int)) /\ Upd (Rg bz oz (oz + (n + 1))) w w' /\ U64 w' bz oz rs /\ rs.length = n + 1 /\ Digs B64 rs ∧
    val B64 xs * 2 ^ s = val B64 rs + shrW xt t * B64 ^ (n + 1) := by
 have xtl := dx.at_ ext
 have kxt := hx n (by omega)
 have hxt : xs[n]'(by omega) = xt := by
  obtain ⟨_, h⟩ := List.getElem?_eq_some_iff.1 ext
  exact h
 rw [hxt] at kxt
 have cxt := kxt.cell
 have q1 : ((s : Int) == 0) = false := beq_eq_false_iff_ne.2 (by omega)
 have q2 : ((n : Int) + 1 == 0) = false := beq_eq_false_iff_ne.2 (by omega)
 have q3 := and63 s (by omega)
 have q4 := and63 t (by omega)
 have q5 : IntKind.u64.wrap (64 - (s : Int)) = (t : Int) := by rw [IntKind.wrap_u64]; omega
 have q6 := shrW_form t (by omega)
 have q7 := shlW_form s (by omega)
 have Hst := Qq (Qj hst (Qj ext hxt))
 clear hst ext hxt kxt
 go_enter Tryz.func126, Tryz.ntmps126
 go_wp2
 clear cxt
 go_loopw [8] (fun i wr => ∃ (k xk : Nat) (hs : List Nat), k <= n /\ i = .int .i64 k /\ Upd (Rg bz oz (oz + (n + 1))) w wr /\ Live wr bz oz (n + 1) /\ U64 wr bx ox (xs.take (k + 1))
   /\ U64 wr bz (oz + (k + 1)) hs /\ Hid (hs.length + k = n) /\ Digs B64 hs /\ Hid (xs[k]? = some xk) /\ Hid (val B64 (xs.drop (k + 1)) * 2 ^ s + shrW xk t = val B64 hs + shrW xt t * B64 ^ (n - k)))
  (fun i _ => (intOf i).toNat)
 case atStart =>
  refine ⟨n, xt, [], Nat.le_refl _, by go_num, Upd.refl _ _, hz, by rw [List.take_of_length_le (by omega)]; exact hx, U64.nil _ _ _, by show _ = _; simp, Digs.nil, Hst.out.2.1, ?_⟩
  show _ = _
  rw [List.drop_of_length_le (by omega), Nat.sub_self]; simp
 case round =>
  obtain ⟨k, xk, hs, hk, rfl, hU, hzk, hxk, hR, hL, hD, hE, hC⟩ := hrel
  have xkl := dx.at_ hE.out
  cases k with
  | zero =>
   obtain ⟨x0, ex, cx0, _⟩ := hxk.top lx (by omega) 0 (Nat.le_refl _)
   obtain ⟨z0, cz0, fz0, kz0⟩ := hzk.at_ (k := 0) (by omega)
   obtain rfl : xk = x0 := by simpa using hE.out.symm.trans ex
   obtain ⟨d, hd1, hd2, hd3⟩ := shl_or xk s t 0 Hst.out.1 (Nat.two_pow_pos s)
   rw [Nat.or_zero] at hd1
   rw [Nat.add_zero] at hd3
   simp only [Nat.add_zero] at cx0 cz0 fz0
   have HE := Qq (Qj ex (Qj hd1 hd3))
   clear ex hd1 hd3 hzk hxk
   go_wp2
   go_ret
   rw [HE.out.2.1]
   have hC' := hC.out
   have e1 := lsh_step (h' := 0) (q := B64 ^ (n + 1)) hC' (by rw [Nat.add_zero]; exact HE.out.2.2) (val_drop_at (b := B64) HE.out.1) (by rw [Nat.sub_zero, Nat.pow_succ, Nat.mul_comm])
   rw [List.drop_zero, Nat.add_zero] at e1
   exact ⟨d :: hs, rfl, hU.setCell (fun _ => ⟨rfl, by omega, by omega⟩) _, U64.dst_down (nq := 0) (k := 0) hR kz0, by have := hL.out; simp; omega, Digs.cons hd2 hD, e1⟩
  | succ j =>
   obtain ⟨x1, ex, cx1, _⟩ := hxk.top lx (by omega) (j + 1) (Nat.le_refl _)
   obtain ⟨x0, ex0, cx0, _⟩ := hxk.top lx (by omega) j (by omega)
   obtain ⟨z0, cz0, fz0, kz0⟩ := hzk.at_ (k := j + 1) (by omega)
   obtain rfl : xk = x1 := by simpa using hE.out.symm.trans ex
   have x0l := dx.at_ ex0
   obtain ⟨d, hd1, hd2, hd3⟩ := shl_or xk s t (shrW x0 t) Hst.out.1 (shrW_lt x0 s t Hst.out.1 x0l)
   have hor : bits .or .u64 ((shlW xk s : Nat) : Int) ((shrW x0 t : Nat) : Int) = (d : Int) := by
    rw [bits_or_u64_nat _ _ (shlW_lt _ _) (shrW_le _ _ x0l), hd1]
   have HE := Qq (Qj ex (Qj ex0 hd3))
   have kw : IntKind.i64.wrap (j : Int) = (j : Int) := by rw [IntKind.wrap_i64]; omega
   have p0 : (0 : Int) < (j : Int) + 1 := by omega
   have p1 : (0 : Int) <= (j : Int) := by omega
   have p5 : (0 : Int) <= (j : Int) + 1 := by omega
   have p2 : (j : Int) < (n : Int) + 1 := by omega
   have p3 : (j : Int) + 1 < (n : Int) + 1 := by omega
   have p4 : ((j : Int) + 1).toNat = j + 1 := by omega
   clear ex ex0 hd1 hd3
   have HK := Qq (Qj hzk hxk)
   clear hzk hxk
   go_wp2
   go_still_tail 17, (by kernel_rfl)
   change wpList _ _ _ _ _ wr.drew
   go_wp2
   go_roundw
   case rel =>
    refine ⟨j, x0, d :: hs, by omega, by go_num, (hU.drewN 1).setCell (fun _ => ⟨rfl, by omega, by omega⟩) _, (HK.out.1.drewN 1).set _ _ _, U64.src_down (nq := 1) HK.out.2 lx (by omega) okx,
     U64.dst_down (nq := 1) hR kz0, by have := hL.out; show _ = _; simp; omega, Digs.cons hd2 hD, HE.out.2.1, ?_⟩
    show _ = _
    refine lsh_step hC.out HE.out.2.2 (val_drop_at (b := B64) HE.out.1) ?_
    rw [show n - j = (n - (j + 1)) + 1 by omega, Nat.pow_succ, Nat.mul_comm]
   case measure => simp [intOf]
theorem lshVU_g_any (bz oz cz bx ox cx n s : Nat) (xs : List Nat) (w : World) (hn : n <= 1099511627776) (hs : s < 64)
  (lx : xs.length = n) (hz : Live w bz oz n) (hx : U64 w bx ox xs) (dx : Digs B64 xs) (okx : DnOk bz oz bx ox n) :
  Calls Tryz.prog 126 #[.slice (some ⟨bz, oz, none⟩) n cz, .slice (some ⟨bx, ox, none⟩) n cx, .int .u64 (s : Int)] w fun e w' =>
   ∃ (c : Nat) (rs : List Nat), e = .returned (.int .u64 (c : Int)) /\ Upd (Rg bz oz (oz + n)) w w' /\ U64 w' bz oz rs /\ rs.length = n /\ Digs B64 rs ∧
    val B64 xs * 2 ^ s = val B64 rs + c * B64 ^ n /\ c < 2 ^ s := by
 by_cases h0 : s = 0
 .
  subst h0
  have q1 : ((0 : Int) == 0) = true := rfl
  go_enter Tryz.func126, Tryz.ntmps126
  go_wp2_with (with_reducible refine wpList_copy64 rfl (.tmp 17) (.tmp 18) 55 55 rfl 81 uWords sWord _ _ n cz n cx bz oz bx ox rfl rfl xs (by rw [lx]; exact (Nat.min_self n).symm) (fun _ => ⟨rfl, rfl⟩) hx (by rw [lx]; exact hz) ?_; intro w2 hu2 hx2)
  go_ret
  exact ⟨0, xs, rfl, by rw [<- lx]; exact hu2, hx2, lx, dx, by simp, by simp⟩
 .
  cases n with
  | zero =>
   have q1 : ((s : Int) == 0) = false := beq_eq_false_iff_ne.2 (by omega)
   have q2 : ((0 : Int) == 0) = true := rfl
   go_enter Tryz.func126, Tryz.ntmps126
   go_wp2
   go_ret
   have : xs = [] := List.eq_nil_of_length_eq_zero lx
   subst this
   exact ⟨0, [], rfl, Upd.refl _ _, U64.nil _ _ _, rfl, Digs.nil, by simp, Nat.two_pow_pos s⟩
  | succ n =>
   have ext : xs[n]? = some (xs[n]'(by omega)) := List.getElem?_eq_getElem (by omega)
   refine (lshVU_g_pos bz oz cz bx ox cx n s (64 - s) _ xs w hn (by omega) (by omega) (by omega) lx hz hx dx okx ext).mono fun e w' h => ?_
   obtain ⟨rs, he, hU, hR, hl, hD, hv⟩ := h
   exact ⟨_, rs, he, hU, hR, hl, hD, hv, shrW_lt _ s (64 - s) (by omega) (dx.at_ ext)⟩
theorem lshVU_any (bz oz cz bx ox cx n s : Nat) (xs : List Nat) (w : World) (hn : n <= 1099511627776) (hs : s < 64)
  (lx : xs.length = n) (hz : Live w bz oz n) (hx : U64 w bx ox xs) (dx : Digs B64 xs) (okx : DnOk bz oz bx ox n) :
  Calls Tryz.prog 106 #[.slice (some ⟨bz, oz, none⟩) n cz, .slice (some ⟨bx, ox, none⟩) n cx, .int .u64 (s : Int)] w fun e w' =>
   ∃ (c : Nat) (rs : List Nat), e = .returned (.int .u64 (c : Int)) /\ Upd (Rg bz oz (oz + n)) w w' /\ U64 w' bz oz rs /\ rs.length = n /\ Digs B64 rs ∧
    val B64 xs * 2 ^ s = val B64 rs + c * B64 ^ n /\ c < 2 ^ s := by
 go_enter Tryz.func106, Tryz.ntmps106
 go_wp2_with (go_at_call 126; refine (lshVU_g_any bz oz cz bx ox cx n s xs w hn hs lx hz hx dx okx).mono ?_; rintro e w' ⟨c, rs, rfl, H⟩)
 go_ret
 exact ⟨c, rs, rfl, H⟩
theorem shr_or (x y s t : Nat) (hst : s + t = 64) (hx : x < B64) : ∃ d, shrW x s ||| shlW y t = d /\ d < B64 /\ d = shrW x s + (y % 2 ^ s) * 2 ^ t := by
 have hB : B64 = 2 ^ s * 2 ^ t := by rw [<- Nat.pow_add, hst]; rfl
 have hps : 0 < 2 ^ s := Nat.two_pow_pos s
 have hlo : y % 2 ^ s < 2 ^ s := Nat.mod_lt _ hps
 have h1 : shrW x s < 2 ^ t := shrW_lt x t s (by omega) hx
 have e1 : shlW y t = (y % 2 ^ s) * 2 ^ t := by
  unfold shlW
  have e0 : y * 2 ^ t = (y % 2 ^ s) * 2 ^ t + B64 * (y / 2 ^ s) := by
   have h1 := Nat.mod_add_div y (2 ^ s)
   rw [hB]
   conv => lhs; rw [<- h1]
   rw [Nat.add_mul]; congr 1
   grind
  have hl2 : (y % 2 ^ s + 1) * 2 ^ t <= 2 ^ s * 2 ^ t := Nat.mul_le_mul_right _ hlo
  rw [<- hB, Nat.add_mul] at hl2
  have := Nat.two_pow_pos t
  rw [e0, Nat.add_mul_mod_self_left]
  exact Nat.mod_eq_of_lt (by omega)
 refine ⟨shrW x s + (y % 2 ^ s) * 2 ^ t, ?_, ?_, rfl⟩
 .
  rw [e1, Nat.or_comm, Nat.mul_comm (y % 2 ^ s), Nat.add_comm]
  exact (Nat.two_pow_add_eq_or_of_lt h1 _).symm
 .
  have : (y % 2 ^ s + 1) * 2 ^ t <= 2 ^ s * 2 ^ t := Nat.mul_le_mul_right _ hlo
  rw [hB, Nat.add_mul] at *
  omega
theorem rsh_step {T T' R r0 p S t q y d B : Nat} (hI : T = R * S + r0 + p * S * q) (hd : d = q + (y % S) * t) (hB : B = S * t) (hT : T' = T + p * B * y) :
  T' = (R + p * d) * S + r0 + p * B * S * (y / S) := by
 have h1 := Nat.mod_add_div y S
 subst hd; subst hB; subst hT
 rw [hI]
 generalize y % S = m at *
 generalize y / S = v at *
 subst h1
 grind
theorem rshVU_g_pos (bz oz cz bx ox cx n s t x0 : Nat) (xs : List Nat) (w : World) (hn : n + 1 <= 1099511627776) (hst : s + t = 64) (hs0 : 0 < s) (ht0 : 0 < t)
  (lx : xs.length = n + 1) (hz : Live w bz oz (n + 1)) (hx : U64 w bx ox xs) (dx : Digs B64 xs) (okx : UpOk bz oz bx ox (n + 1)) (ex0 : xs[0]? = some x0) :
  Calls Tryz.prog 129 #[.slice (some ⟨bz, oz, none⟩) (n + 1) cz, .slice (some ⟨bx, ox, none⟩) (n + 1) cx, .int .u64 (s : Int)] w fun e w' =>
   ∃ (rs : List Nat), e = .returned (.int .u64 ((shlW x0 t : Nat) : Int)) /\ Upd (Rg bz oz (oz + (n + 1))) w w' /\ U64 w' bz oz rs /\ rs.length = n + 1 /\ Digs B64 rs ∧
    val B64 xs = val B64 rs * 2 ^ s + x0 % 2 ^ s := by
 have k0 := hx 0 (by omega)
 have hx0 : xs[0]'(by omega) = x0 := by
  obtain ⟨_, h⟩ := List.getElem?_eq_some_iff.1 ex0
  exact h
 rw [hx0] at k0
 simp only [Nat.add_zero] at k0
 have cx0 := k0.cell
 have q1 : ((s : Int) == 0) = false := beq_eq_false_iff_ne.2 (by omega)
 have q2 : ((n : Int) + 1 == 0) = false := beq_eq_false_iff_ne.2 (by omega)
 have q8 : (0 : Int) < (n : Int) + 1 := by omega
 have q3 := and63 s (by omega)
 have q4 := and63 t (by omega)
 have q5 : IntKind.u64.wrap (64 - (s : Int)) = (t : Int) := by rw [IntKind.wrap_u64]; omega
 have q6 := shrW_form s (by omega)
 have q7 := shlW_form t (by omega)
 have Hst := Qq (Qj hst (Qj ex0 hx0))
 clear hst ex0 hx0 k0
 go_enter Tryz.func129, Tryz.ntmps129
 go_wp2
 clear cx0
 go_loopw [8] (fun i wr => ∃ (j xj : Nat) (rs : List Nat), j <= n /\ i = .int .i64 ((j : Int) + 1) /\ Upd (Rg bz oz (oz + (n + 1))) w wr /\ Live wr bz oz (n + 1) /\ U64 wr bx (ox + j) (xs.drop j)
   /\ U64 wr bz oz rs /\ Hid (rs.length = j) /\ Digs B64 rs /\ Hid (xs[j]? = some xj) /\ Hid (val B64 (xs.take (j + 1)) = val B64 rs * 2 ^ s + x0 % 2 ^ s + B64 ^ j * 2 ^ s * (xj / 2 ^ s)))
  (fun i _ => n + 1 - (intOf i).toNat)
 case atStart =>
  refine ⟨0, x0, [], Nat.zero_le _, by go_num, Upd.refl _ _, hz, by simpa using hx, U64.nil _ _ _, rfl, Digs.nil, Hst.out.2.1, ?_⟩
  show _ = _
  have ht := Yj (b := B64) Hst.out.2.1
  rw [ht]
  have := Nat.mod_add_div x0 (2 ^ s)
  simp
  omega
 case round =>
  obtain ⟨j, xj, rs, hj, rfl, hU, hzk, hxk, hR, hL, hD, hE, hC⟩ := hrel
  have xjl := dx.at_ hE.out
  obtain ⟨x1, ex, cx1, _⟩ := hxk.at_ lx (by omega)
  obtain rfl : xj = x1 := by simpa using hE.out.symm.trans ex
  obtain ⟨zj, czj, fzj, kzj⟩ := hzk.at_ (k := j) (by omega)
  clear ex
  by_cases hlt : j < n
  .
   have hxk1 := hxk.drop 1
   rw [List.drop_drop, Nat.add_assoc] at hxk1
   obtain ⟨y, ey, cy, _⟩ := hxk1.at_ lx (by omega)
   obtain ⟨d, hd1, hd2, hd3⟩ := shr_or xj y s t Hst.out.1 xjl
   have hor : bits .or .u64 ((shrW xj s : Nat) : Int) ((shlW y t : Nat) : Int) = (d : Int) := by
    rw [bits_or_u64_nat _ _ (shrW_le _ _ xjl) (shlW_lt _ _), hd1]
   have HE := Qq (Qj ey hd3)
   have kw : IntKind.i64.wrap (j : Int) = (j : Int) := by rw [IntKind.wrap_i64]; omega
   have p1 : (0 : Int) <= (j : Int) := by omega
   have p2 : (j : Int) < (n : Int) + 1 := by omega
   have p3 : (j : Int) + 1 < (n : Int) + 1 := by omega
   have p4 : ((j : Int) + 1).toNat = j + 1 := by omega
   have p5 : (0 : Int) <= (j : Int) + 1 := by omega
   clear ey hd1 hd3
   have HK := Qq (Qj hzk hxk)
   clear hzk hxk hxk1
   go_wp2
   go_still_tail 18, (by kernel_rfl)
   change wpList _ _ _ _ _ wr.drew
   go_wp2
   go_roundw
   case rel =>
    refine ⟨j + 1, y, rs ++ [d], by omega, by go_num, (hU.drewN 1).setCell (fun _ => ⟨rfl, by omega, by omega⟩) _, (HK.out.1.drewN 1).set _ _ _, U64.src_step (nq := 1) HK.out.2 lx okx,
     U64.dst_step (nq := 1) hR hL kzj rfl, by show _ = _; rw [List.length_append, hL.out]; rfl, hD.snoc hd2, HE.out.1, ?_⟩
    show _ = _
    rw [Yi, hL.out, Nat.pow_succ]
    refine rsh_step hC.out HE.out.2 (by rw [<- Nat.pow_add, Hst.out.1]; rfl) ?_
    rw [Yj (b := B64) HE.out.1, Nat.pow_succ]
   case measure => simp [intOf]; omega
  .
   have : j = n := by omega
   subst this
   have p1 : (0 : Int) <= (j : Int) := by omega
   have p2 : (j : Int) < (j : Int) + 1 := by omega
   have HK := Qq (Qj hzk hxk)
   clear hzk hxk
   go_wp2
   go_ret
   have h1 := hC.out
   rw [List.take_of_length_le (by omega)] at h1
   refine ⟨rs ++ [shrW xj s], rfl, hU.setCell (fun _ => ⟨rfl, by omega, by omega⟩) _, U64.dst_step (nq := 0) hR hL kzj rfl, by rw [List.length_append, hL.out]; rfl, hD.snoc (shrW_le _ _ xjl), ?_⟩
   rw [h1, Yi, hL.out, Nat.add_mul, Nat.mul_right_comm]
   unfold shrW; omega
theorem rshVU_g_any (bz oz cz bx ox cx n s : Nat) (xs : List Nat) (w : World) (hn : n <= 1099511627776) (hs : s < 64)
  (lx : xs.length = n) (hz : Live w bz oz n) (hx : U64 w bx ox xs) (dx : Digs B64 xs) (okx : UpOk bz oz bx ox n) :
  Calls Tryz.prog 129 #[.slice (some ⟨bz, oz, none⟩) n cz, .slice (some ⟨bx, ox, none⟩) n cx, .int .u64 (s : Int)] w fun e w' =>
   ∃ (c : Nat) (rs : List Nat), e = .returned (.int .u64 (c : Int)) /\ Upd (Rg bz oz (oz + n)) w w' /\ U64 w' bz oz rs /\ rs.length = n /\ Digs B64 rs ∧
    val B64 rs = val B64 xs / 2 ^ s := by
 by_cases h0 : s = 0
 .
  subst h0
  have q1 : ((0 : Int) == 0) = true := rfl
  go_enter Tryz.func129, Tryz.ntmps129
  go_wp2_with (with_reducible refine wpList_copy64 rfl (.tmp 17) (.tmp 18) 55 55 rfl 81 uWords sWord _ _ n cz n cx bz oz bx ox rfl rfl xs (by rw [lx]; exact (Nat.min_self n).symm) (fun _ => ⟨rfl, rfl⟩) hx (by rw [lx]; exact hz) ?_; intro w2 hu2 hx2)
  go_ret
  exact ⟨0, xs, rfl, by rw [<- lx]; exact hu2, hx2, lx, dx, by simp⟩
 .
  cases n with
  | zero =>
   have q1 : ((s : Int) == 0) = false := beq_eq_false_iff_ne.2 (by omega)
   have q2 : ((0 : Int) == 0) = true := rfl
   go_enter Tryz.func129, Tryz.ntmps129
   go_wp2
   go_ret
   have : xs = [] := List.eq_nil_of_length_eq_zero lx
   subst this
   exact ⟨0, [], rfl, Upd.refl _ _, U64.nil _ _ _, rfl, Digs.nil, by simp⟩
  | succ n =>
   have ext : xs[0]? = some (xs[0]'(by omega)) := List.getElem?_eq_getElem (by omega)
   refine (rshVU_g_pos bz oz cz bx ox cx n s (64 - s) _ xs w hn (by omega) (by omega) (by omega) lx hz hx dx okx ext).mono fun e w' h => ?_
   obtain ⟨rs, he, hU, hR, hl, hD, hv⟩ := h
   refine ⟨_, rs, he, hU, hR, hl, hD, ?_⟩
   rw [hv, Nat.mul_comm, Nat.mul_add_div (Nat.two_pow_pos s), Nat.div_eq_of_lt (Nat.mod_lt _ (Nat.two_pow_pos s)), Nat.add_zero]
theorem rshVU_any (bz oz cz bx ox cx n s : Nat) (xs : List Nat) (w : World) (hn : n <= 1099511627776) (hs : s < 64)
  (lx : xs.length = n) (hz : Live w bz oz n) (hx : U64 w bx ox xs) (dx : Digs B64 xs) (okx : UpOk bz oz bx ox n) :
  Calls Tryz.prog 109 #[.slice (some ⟨bz, oz, none⟩) n cz, .slice (some ⟨bx, ox, none⟩) n cx, .int .u64 (s : Int)] w fun e w' =>
   ∃ (c : Nat) (rs : List Nat), e = .returned (.int .u64 (c : Int)) /\ Upd (Rg bz oz (oz + n)) w w' /\ U64 w' bz oz rs /\ rs.length = n /\ Digs B64 rs ∧
    val B64 rs = val B64 xs / 2 ^ s := by
 go_enter Tryz.func109, Tryz.ntmps109
 go_wp2_with (go_at_call 129; refine (rshVU_g_any bz oz cz bx ox cx n s xs w hn hs lx hz hx dx okx).mono ?_; rintro e w' ⟨c, rs, rfl, H⟩)
 go_ret
 exact ⟨c, rs, rfl, H⟩
structure Loc where
 A : Option Addr
 c : Nat
 b : Nat
 o : Nat
@[reducible] def Loc.mk1 (b o c : Nat) : Loc := ⟨some ⟨b, o, none⟩, c, b, o⟩
def Loc.Ok (w : World) (l : Loc) : Prop := l.c <= 9223372036854775807 /\ (0 < l.c -> l.A = some ⟨l.b, l.o, none⟩ /\ Live w l.b l.o l.c)
theorem Loc.Ok.upd {F : Nat -> Nat -> Prop} {w w' : World} {l : Loc} (h : l.Ok w) (u : Upd F w w') : l.Ok w' := ⟨h.1, fun h0 => ⟨(h.2 h0).1, (h.2 h0).2.upd u⟩⟩
theorem Loc.Ok.nil (w : World) (b o : Nat) : Loc.Ok w ⟨none, 0, b, o⟩ := ⟨Nat.zero_le _, fun h => absurd h (Nat.lt_irrefl 0)⟩
theorem Loc.Ok.live {w : World} {l : Loc} (h : l.Ok w) : Live w l.b l.o l.c := by
 rcases Nat.eq_zero_or_pos l.c with h0 | h0
 . rw [h0]; exact Live.nil _ _ _
 . exact (h.2 h0).2
theorem Loc.Ok.mk1 {w : World} {b o c : Nat} (hc : c <= 9223372036854775807) (h : Live w b o c) : (Loc.mk1 b o c).Ok w := ⟨hc, fun _ => ⟨rfl, h⟩⟩
theorem Loc.Ok.free {w : World} {l : Loc} (h : l.Ok w) (h0 : 0 < l.c) : Free w l.b := (h.2 h0).2.free h0
structure VecV (w : World) (l : Loc) (xs : List Nat) : Prop where
 ok : l.Ok w
 le : xs.length <= l.c
 at_ : U64 w l.b l.o xs
 dig : Digs B64 xs
theorem VecV.upd {F : Nat -> Nat -> Prop} {w w' : World} {l : Loc} {xs : List Nat} (h : VecV w l xs) (u : Upd F w w') (hF : ∀ i, i < xs.length -> ¬ F l.b (l.o + i)) : VecV w' l xs :=
 ⟨h.ok.upd u, h.le, h.at_.upd u hF, h.dig⟩
theorem VecV.upd0 {w w' : World} {l : Loc} {xs : List Nat} (h : VecV w l xs) (u : Upd NoF w w') : VecV w' l xs := h.upd u (fun _ _ h => h)
theorem VecV.addr {w : World} {l : Loc} {xs : List Nat} (h : VecV w l xs) (h0 : 0 < xs.length) : l.A = some ⟨l.b, l.o, none⟩ := (h.ok.2 (Nat.lt_of_lt_of_le h0 h.le)).1
structure VecR (w : World) (l : Loc) (xs : List Nat) : Prop where
 addr : 0 < xs.length -> l.A = some ⟨l.b, l.o, none⟩
 le : xs.length <= l.c
 at_ : R64 w l.b l.o xs
 dig : Digs B64 xs
theorem VecV.r {w : World} {l : Loc} {xs : List Nat} (h : VecV w l xs) : VecR w l xs := ⟨h.addr, h.le, h.at_.r, h.dig⟩
instance {w : World} {l : Loc} {xs : List Nat} : Coe (VecV w l xs) (VecR w l xs) := ⟨VecV.r⟩
theorem VecR.upd {F : Nat -> Nat -> Prop} {w w' : World} {l : Loc} {xs : List Nat} (h : VecR w l xs) (u : Upd F w w') (hF : ∀ i, i < xs.length -> ¬ F l.b (l.o + i)) : VecR w' l xs :=
 ⟨h.addr, h.le, h.at_.upd u hF, h.dig⟩
theorem VecR.upd0 {w w' : World} {l : Loc} {xs : List Nat} (h : VecR w l xs) (u : Upd NoF w w') : VecR w' l xs := h.upd u (fun _ _ h => h)
theorem VecR.own {w : World} {l : Loc} {xs : List Nat} (h : VecR w l xs) (ok : l.Ok w) : VecV w l xs := ⟨ok, h.le, h.at_.own ok.live h.le, h.dig⟩
@[reducible] def NatV (w : World) (l : Loc) (N : Nat) : Prop := VecV w l (digs N)
@[reducible] def NatR (w : World) (l : Loc) (N : Nat) : Prop := VecR w l (digs N)
theorem NatV.zero {w : World} {l : Loc} (h : l.Ok w) : NatV w l 0 := by
 unfold NatV
 rw [Yg]
 exact ⟨h, Nat.zero_le _, U64.nil _ _ _, Digs.nil⟩
theorem VecV.norm {w : World} {l : Loc} {xs : List Nat} (h : VecV w l xs) : NatV w l (val B64 xs) :=
 ⟨h.ok, Nat.le_trans (digs_len_le h.dig) h.le, by rw [digs_eq_take h.dig]; exact h.at_.take _, Yc _⟩
def From (w : World) (z r : Loc) (need : Nat) : Prop := (need <= z.c /\ r = z) \/ (z.c < need /\ w.heap.size <= r.b /\ r.o = 0)
def ZF (z : Loc) (need : Nat) : Nat -> Nat -> Prop := fun b i => b = z.b /\ z.o <= i /\ i < z.o + need /\ i < z.o + z.c
theorem From.up {w : World} {z : Loc} {b o c need xb xo n : Nat} {xs : List Nat} (hF : From w z (Loc.mk1 b o c) need) (ok : need <= z.c -> UpOk z.b z.o xb xo n) (hx : R64 w xb xo xs) (hl : xs.length = n) : UpOk b o xb xo n := by
 rcases hF with ⟨h1, h2⟩ | ⟨h1, h2, h3⟩
 . cases z; cases h2; exact ok h1
 .
  by_cases h0 : n = 0
  . unfold UpOk; omega
  .
   have := hx.lt (by omega)
   simp only at h2
   left; omega
theorem norm_end {xs : List Nat} {k : Nat} (hk : k <= xs.length) (dx : Digs B64 xs) (hv : val B64 (xs.take k) = val B64 xs) (hn : k = 0 \/ ∃ x, xs[k - 1]? = some x /\ x ≠ 0) : (digs (val B64 xs)).length = k := by
 have hN : Norm (xs.take k) := by
  rcases hn with h0 | ⟨x, hx, h0⟩
  . subst h0; exact Norm.nil
  .
   unfold Norm
   rw [List.getLast?_take]
   intro h
   by_cases hk0 : k = 0
   . simp [hk0] at h
   .
    rw [if_neg hk0, hx] at h
    simp at h
    exact h0 h
 rw [digs_take dx k hv hN, List.length_take]; omega
theorem norm_any (A : Option Addr) (b o c : Nat) (xs : List Nat) (w : World) (hA : 0 < xs.length -> A = some ⟨b, o, none⟩) (hc : xs.length <= c) (hc2 : c <= 9223372036854775807) (hx : U64 w b o xs) (dx : Digs B64 xs) :
  Calls Tryz.prog 81 #[.slice A xs.length c] w fun e w' => e = .returned (.slice A (digs (val B64 xs)).length c) /\ w' = w := by
 obtain ⟨n, hn⟩ : ∃ n, xs.length = n := ⟨_, rfl⟩
 rw [hn] at hA hc ⊢
 have Hn := Qq hn
 clear hn
 have hlt : ∀ k, k < n -> A = some ⟨b, o, none⟩ := fun k hk => hA (by omega)
 clear hA
 go_enter Tryz.func81, Tryz.ntmps81
 go_wp2
 go_loop [3] (fun i => ∃ k : Nat, k <= n /\ i = .int .i64 k /\ Hid (val B64 (xs.take k) = val B64 xs)) (fun i => (intOf i).toNat)
 case atStart => exact ⟨n, Nat.le_refl _, rfl, by show _ = _; rw [List.take_of_length_le (by rw [Hn.out]; omega)]⟩
 case round =>
  obtain ⟨k, hk, rfl, hV⟩ := hrel
  cases k with
  | zero =>
   have hend := Qq (norm_end (k := 0) (by omega) dx hV.out (Or.inl rfl))
   have q1 : ((0 : Nat) : Int) = 0 := rfl
   go_wp2
   go_ret
   rw [hend.out]
   exact ⟨by cases A <;> simp, rfl⟩
  | succ j =>
   obtain rfl := hlt j (by omega)
   obtain ⟨x, ex, cx, _⟩ := U64.at_ (k := j) (hx.drop j) Hn.out (by omega)
   have p1 : (0 : Int) < (j : Int) + 1 := by omega
   have p2 : (j : Int) < (n : Int) := by omega
   have p3 : (0 : Int) <= (j : Int) := by omega
   have kw : IntKind.i64.wrap (j : Int) = (j : Int) := by rw [IntKind.wrap_i64]; omega
   by_cases h0 : x = 0
   .
    have q1 : ((x : Int) == 0) = true := beq_iff_eq.2 (by omega)
    have HV : Hid (val B64 (xs.take j) = val B64 xs) := by
     show _ = _
     have h1 := hV.out
     rw [Yj ex, h0] at h1
     simpa using h1
    clear ex h0 hV hlt
    go_wp2
    go_round
    case rel => exact ⟨j, by omega, by go_num, HV⟩
    case measure => simp [intOf]
   .
    have q1 : ((x : Int) == 0) = false := beq_eq_false_iff_ne.2 (by omega)
    have hend := Qq (norm_end (k := j + 1) (by rw [Hn.out]; omega) dx hV.out (Or.inr ⟨x, by simpa using ex, h0⟩))
    clear ex h0 hV hlt
    go_wp2
    go_ret
    rw [hend.out]
    exact ⟨by go_num, rfl⟩
theorem norm_len (b o c n : Nat) (xs : List Nat) (w : World) (hl : xs.length = n) (hc : n <= c) (hc2 : c <= 9223372036854775807) (hx : U64 w b o xs) (dx : Digs B64 xs) :
  Calls Tryz.prog 81 #[.slice (some ⟨b, o, none⟩) n c] w fun e w' => e = .returned (.slice (some ⟨b, o, none⟩) (digs (val B64 xs)).length c) /\ w' = w := by
 subst hl
 exact norm_any _ b o c xs w (fun _ => rfl) hc hc2 hx dx
theorem iWord : ∃ i, Tryz.prog.info? 81 = some i /\ i.zero = some (.int .u64 0) /\ i.size = 1 /\ i.bytes = 8 := info_parts iWord3
theorem make_zero (z : Loc) (nz : Nat) (w : World) :
  Calls Tryz.prog 88 #[.slice z.A nz z.c, .int .i64 0] w fun e w' => e = .returned (.slice z.A 0 z.c) /\ w' = w := by
 have q0 : (0 : Int) <= (z.c : Int) := by omega
 go_enter Tryz.func88, Tryz.ntmps88
 go_wp2
 go_ret
 exact ⟨by cases z.A <;> simp, rfl⟩
theorem make_pos (z : Loc) (nz n : Nat) (N : Int) (w : World) (hz : z.Ok w) (hN : N = (n : Int)) (hn0 : 0 < n) (hn : n <= 1099511627776) :
  Calls Tryz.prog 88 #[.slice z.A nz z.c, .int .i64 N] w fun e w' =>
   ∃ b o c, e = .returned (.slice (some ⟨b, o, none⟩) n c) /\ From w z (Loc.mk1 b o c) n /\ (Loc.mk1 b o c).Ok w' /\ n <= c /\ Upd NoF w w' := by
 subst hN
 have p0 : (0 : Int) < (n : Int) := by omega
 have p9 : (n : Int) <= 1099511627776 := by omega
 obtain ⟨i0, i1, i2, i3, i4⟩ := iWord
 by_cases h : n <= z.c
 .
  obtain ⟨hA, hL⟩ := hz.2 (by omega)
  obtain ⟨A, c, b, o⟩ := z
  simp only at hA h hL
  subst hA
  have p1 : (n : Int) <= (c : Int) := by omega
  go_enter Tryz.func88, Tryz.ntmps88
  go_wp2
  go_ret
  exact ⟨b, o, c, rfl, Or.inl ⟨h, rfl⟩, hz, h, Upd.refl _ _⟩
 .
  have p1 : ¬ (n : Int) <= (z.c : Int) := by omega
  by_cases h1 : n = 1
  .
   subst h1
   go_enter Tryz.func88, Tryz.ntmps88
   go_wp2_with (with_reducible refine wpList_make64 rfl (.const (.int .i64 1)) (.const (.int .i64 1)) 56 rfl 81 i0 uNat rfl i1 i2 i3 i4 .i64 .i64 1 1 1 1 rfl rfl rfl rfl (Nat.le_refl _) (by omega) ?_; intro w2 hu2 hx2)
   go_ret
   exact ⟨w.heap.size, 0, 1, rfl, Or.inr ⟨by omega, Nat.le_refl _, rfl⟩, Loc.Ok.mk1 (by omega) hx2.live, Nat.le_refl _, hu2⟩
  .
   have p2 : ((n : Int) == 1) = false := beq_eq_false_iff_ne.2 (by omega)
   go_enter Tryz.func88, Tryz.ntmps88
   go_wp2_with (with_reducible refine wpList_make64 rfl (.tmp 15) (.tmp 17) 56 rfl 81 i0 uNat rfl i1 i2 i3 i4 .i64 .i64 _ _ n (n + 4) rfl rfl rfl (by omega) (by omega) (by omega) ?_; intro w2 hu2 hx2)
   go_ret
   exact ⟨w.heap.size, 0, n + 4, rfl, Or.inr ⟨by omega, Nat.le_refl _, rfl⟩, Loc.Ok.mk1 (by omega) (by have := hx2.live; rwa [List.length_replicate] at this), by omega, hu2⟩
def Ya (w : World) (z : Loc) (need N : Nat) (e : Ending) (w' : World) : Prop :=
 ∃ r : Loc, e = .returned (.slice r.A (digs N).length r.c) /\ (r = z \/ w.heap.size <= r.b) /\ (need <= z.c -> r = z) /\ Upd (ZF z need) w w' /\ NatV w' r N
theorem Ya.zero {w w' : World} {z : Loc} {need : Nat} (h : z.Ok w) (u : Upd (ZF z need) w w') : Ya w z need 0 (.returned (.slice z.A 0 z.c)) w' :=
 ⟨z, by rw [Yg]; rfl, Or.inl rfl, fun _ => rfl, u, NatV.zero (h.upd u)⟩
theorem Ya.made {w w1 w2 : World} {z : Loc} {need n b o c N : Nat} (hF : From w z (Loc.mk1 b o c) n) (hnn : n <= need) (hnn2 : need <= z.c -> n <= z.c) (u1 : Upd NoF w w1) (u2 : Upd (Rg b o (o + n)) w1 w2)
  (hr : NatV w2 (Loc.mk1 b o c) N) (hneed : n = need) : Ya w z need N (.returned (.slice (some ⟨b, o, none⟩) (digs N).length c)) w2 := by
 subst hneed
 refine ⟨Loc.mk1 b o c, rfl, ?_, ?_, u1.then u2 (fun _ _ _ h => h.elim) ?_, hr⟩
 .
  rcases hF with ⟨h1, h2⟩ | ⟨h1, h2, h3⟩
  . exact Or.inl h2
  . exact Or.inr h2
 .
  intro h
  rcases hF with ⟨h1, h2⟩ | ⟨h1, h2, h3⟩
  . exact h2
  . omega
 .
  rintro b' i hb ⟨rfl, h1, h2⟩
  rcases hF with ⟨g1, g2⟩ | ⟨g1, g2, g3⟩
  .
   cases z; cases g2
   simp only at g1
   exact ⟨rfl, h1, h2, by simp only; omega⟩
  . simp only at g2; omega
theorem Ya.mono {w w' : World} {z : Loc} {need need' N : Nat} {e : Ending} (h : Ya w z need N e w') (hn : need <= need') : Ya w z need' N e w' := by
 obtain ⟨r, h1, h2, h3, h4, h5⟩ := h
 exact ⟨r, h1, h2, fun h => h3 (by omega), h4.mono (fun b i _ ⟨k1, k2, k3, k4⟩ => ⟨k1, k2, by omega, k4⟩), h5⟩
theorem setWord_any (z : Loc) (nz x : Nat) (w : World) (hz : z.Ok w) (hx : x < B64) :
  Calls Tryz.prog 84 #[.slice z.A nz z.c, .int .u64 (x : Int)] w fun e w' => Ya w z 1 x e w' := by
 by_cases h0 : x = 0
 .
  subst h0
  have q1 : ((0 : Int) == 0) = true := rfl
  have q0 : (0 : Int) <= (z.c : Int) := by omega
  go_enter Tryz.func84, Tryz.ntmps84
  go_wp2
  go_ret
  have h := Ya.zero (need := 1) hz (Upd.refl _ w)
  exact h
 .
  have q1 : ((x : Int) == 0) = false := beq_eq_false_iff_ne.2 (by omega)
  have p0 : (0 : Int) < ((1 : Nat) : Int) := by omega
  go_enter Tryz.func84, Tryz.ntmps84
  go_wp2_with (go_at_call 88; refine (make_pos z nz 1 _ _ hz rfl (by omega) (by omega)).mono ?_; rintro e w1 ⟨b, o, c, rfl, hF, hO, hc, hU⟩; obtain ⟨v0, c0, f0, k0⟩ := hO.live.at_ (k := 0) (by simp only; omega); simp only [Nat.add_zero] at c0 f0 k0)
  go_ret
  have e1 : (digs x).length = 1 := by rw [digs_small hx h0]; rfl
  have h := Ya.made (need := 1) (N := x) hF (Nat.le_refl _) (fun h => h) hU ((Upd.refl _ w1).setCell (fun _ => ⟨rfl, Nat.le_refl _, by omega⟩) (.int .u64 (x : Int)))
   ⟨hO.upd ((Upd.refl (Rg b o (o + 1)) w1).setCell (fun _ => ⟨rfl, Nat.le_refl _, by omega⟩) _), by rw [e1]; exact hc, by rw [digs_small hx h0]; exact U64.cons (k0.set _) (U64.nil _ _ _), Yc x⟩ rfl
  rw [e1] at h
  exact h
theorem set_any (z x : Loc) (nz X : Nat) (w : World) (hz : z.Ok w) (hx : NatR w x X) (hn : (digs X).length <= 1099511627776) :
  Calls Tryz.prog 67 #[.slice z.A nz z.c, .slice x.A (digs X).length x.c] w fun e w' => Ya w z (digs X).length X e w' := by
 obtain ⟨n, hn0⟩ : ∃ n, (digs X).length = n := ⟨_, rfl⟩
 rw [hn0] at hn ⊢
 have Hn := Qq hn0
 clear hn0
 by_cases h0 : n = 0
 .
  subst h0
  go_enter Tryz.func67, Tryz.ntmps67
  go_wp2_with (first | (go_at_call 88; refine (make_zero z nz _).mono ?_; rintro e w1 ⟨rfl, hw⟩; cases hw.symm) | (with_reducible refine wpList_copy_nothing rfl (.tmp 9) (.tmp 10) 56 56 rfl 81 uNat sWord z.A x.A 0 z.c 0 x.c rfl rfl rfl ?_))
  go_ret
  have e0 := Zg.1 Hn.out
  subst e0
  exact Ya.zero hz (Upd.refl _ _)
 .
  have hA := hx.addr (by have := Hn.out; omega)
  obtain ⟨xA, xc, xb, xo⟩ := x
  simp only at hA
  subst hA
  go_enter Tryz.func67, Tryz.ntmps67
  go_wp2_with (first | (go_at_call 88; refine (make_pos z nz n _ _ hz rfl (by omega) hn).mono ?_; rintro e w1 ⟨b, o, c, rfl, hF, hO, hc, hU⟩) | (with_reducible refine wpList_copy64 rfl (.tmp 9) (.tmp 10) 56 56 rfl 81 uNat sWord (some ⟨b, o, none⟩) (some ⟨xb, xo, none⟩) n c n xc b o xb xo rfl rfl (digs X) (by rw [Hn.out]; exact (Nat.min_self n).symm) (fun _ => ⟨rfl, rfl⟩) (hx.upd0 hU).at_ (by rw [Hn.out]; exact hO.live.le hc) ?_; intro w2 hu2 hx2))
  go_ret
  rw [Hn.out] at hu2
  have h := Ya.made (need := n) (N := X) hF (Nat.le_refl _) (fun h => h) hU hu2 ⟨hO.upd hu2, by rw [Hn.out]; exact hc, hx2, Yc X⟩ rfl
  rw [Hn.out] at h
  exact h
def Drew (w w' : World) : Prop := ∃ q, w' = w.drewN q
theorem Drew.refl (w : World) : Drew w w := ⟨0, rfl⟩
theorem Drew.step {w w1 : World} (h : Drew w w1) (n : Nat) : Drew w (w1.drewN n) := by
 obtain ⟨q, rfl⟩ := h
 exact ⟨q + n, by rw [World.drewN_drewN]⟩
theorem Drew.upd {w w' : World} (h : Drew w w') : Upd NoF w w' := by
 obtain ⟨q, rfl⟩ := h
 exact (Upd.refl _ w).drewN q
def cmpN (a b : Nat) : Int := if a < b then -1 else if b < a then 1 else 0
theorem top_lt {xs ys : List Nat} {k x y : Nat} (hl : xs.length = ys.length) (dx : Digs B64 xs) (ht : xs.drop (k + 1) = ys.drop (k + 1)) (ex : xs[k]? = some x) (ey : ys[k]? = some y) (h : x < y) :
  val B64 xs < val B64 ys := by
 obtain ⟨hk, _⟩ := List.getElem?_eq_some_iff.1 ex
 rw [Zq xs k (by omega), Zq ys k (by omega), val_drop_at ex, val_drop_at ey, ht]
 have h1 := val_lt (xs.take k) (dx.take k)
 rw [List.length_take, Nat.min_eq_left (by omega)] at h1
 generalize val B64 (ys.drop (k + 1)) = T
 generalize B64 ^ k = p at *
 have h2 : p * (x + B64 * T + 1) <= p * (y + B64 * T) := Nat.mul_le_mul_left _ (by omega)
 rw [Nat.mul_add, Nat.mul_one] at h2
 omega
theorem drop_step {xs ys : List Nat} {k x : Nat} (ht : xs.drop (k + 1) = ys.drop (k + 1)) (ex : xs[k]? = some x) (ey : ys[k]? = some x) : xs.drop k = ys.drop k := by
 obtain ⟨hk, e1⟩ := List.getElem?_eq_some_iff.1 ex
 obtain ⟨hk2, e2⟩ := List.getElem?_eq_some_iff.1 ey
 rw [List.drop_eq_getElem_cons hk, List.drop_eq_getElem_cons hk2, e1, e2, ht]
theorem cmp_eq (bx ox cx b_y oy cy n : Nat) (xs ys : List Nat) (w : World) (hn : n + 1 <= 1099511627776) (lx : xs.length = n + 1) (ly : ys.length = n + 1)
  (hx : R64 w bx ox xs) (hy : R64 w b_y oy ys) (dx : Digs B64 xs) (dy : Digs B64 ys) :
  Calls Tryz.prog 71 #[.slice (some ⟨bx, ox, none⟩) (n + 1) cx, .slice (some ⟨b_y, oy, none⟩) (n + 1) cy] w fun e w' =>
   e = .returned (.int .i64 (cmpN (val B64 xs) (val B64 ys))) /\ Drew w w' := by
 have p0 : ((n : Int) + 1 == 0) = false := beq_eq_false_iff_ne.2 (by omega)
 go_enter Tryz.func71, Tryz.ntmps71
 go_wp2
 go_loopw [7] (fun i wr => ∃ k q : Nat, k <= n /\ i = .int .i64 k /\ wr = w.drewN q /\ Hid (xs.drop (k + 1) = ys.drop (k + 1))) (fun i _ => (intOf i).toNat)
 case atStart => exact ⟨n, 0, Nat.le_refl _, rfl, rfl, by show _ = _; rw [List.drop_of_length_le (by omega), List.drop_of_length_le (by omega)]⟩
 case round =>
  obtain ⟨k, q, hk, rfl, rfl, hT⟩ := hrel
  obtain ⟨x, ex, cx0, _⟩ := R64.at_ (k := k) (hx.drop k) lx (by omega)
  obtain ⟨y, ey, cy0, _⟩ := R64.at_ (k := k) (hy.drop k) ly (by omega)
  have p2 : (k : Int) < (n : Int) + 1 := by omega
  have p3 : (0 : Int) <= (k : Int) := by omega
  have HE := Qq (Qj ex ey)
  clear ex ey
  by_cases hgo : 0 < k /\ x = y
  .
   obtain ⟨hk0, rfl⟩ := hgo
   obtain ⟨j, rfl⟩ : ∃ j, k = j + 1 := ⟨k - 1, by omega⟩
   have p4 : (0 : Int) < (j : Int) + 1 := by omega
   have p5 : (0 : Int) <= (j : Int) + 1 := by omega
   have p6 : (j : Int) + 1 < (n : Int) + 1 := by omega
   have p7 : ((j : Int) + 1).toNat = j + 1 := by omega
   go_wp2_with fail
   go_quiet (fail)
   go_wp2
   go_roundw
   case rel => exact ⟨j, _, by omega, by go_num, rfl, drop_step hT.out HE.out.1 HE.out.2⟩
   case measure => simp [intOf]
  .
   have hlow : k = 0 \/ x ≠ y := by omega
   rcases Nat.lt_trichotomy x y with hlt | heq | hgt
   .
    have hr : Hid (cmpN (val B64 xs) (val B64 ys) = -1) := by
     show _ = _
     have := top_lt (by omega) dx hT.out HE.out.1 HE.out.2 hlt
     unfold cmpN; rw [if_pos this]
    have q1 : (x : Int) < (y : Int) := by omega
    have q2 : ((x : Int) == (y : Int)) = false := beq_eq_false_iff_ne.2 (by omega)
    have q4 : (x == y) = false := beq_eq_false_iff_ne.2 (by omega)
    have q5 : ¬ x = y := by omega
    cases k with
    | zero =>
     have q0 : ((0 : Nat) : Int) = 0 := rfl
     simp only [Nat.add_zero] at cx0 cy0
     go_wp2_with fail
     go_quiet (fail)
     go_wp2_with fail
     go_quiet (fail)
     go_wp2_with fail
     go_ret
     exact ⟨by rw [hr.out]; rfl, by repeat (first | exact ⟨_, rfl⟩ | refine Drew.step ?_ _)⟩
    | succ j =>
     have p4 : (0 : Int) < (j : Int) + 1 := by omega
     have p5 : (0 : Int) <= (j : Int) + 1 := by omega
     have p6 : (j : Int) + 1 < (n : Int) + 1 := by omega
     have p7 : ((j : Int) + 1).toNat = j + 1 := by omega
     go_wp2_with fail
     go_quiet (fail)
     go_wp2_with fail
     go_quiet (fail)
     go_wp2_with fail
     go_ret
     exact ⟨by rw [hr.out]; rfl, by repeat (first | exact ⟨_, rfl⟩ | refine Drew.step ?_ _)⟩
   .
    obtain rfl : k = 0 := by omega
    subst heq
    have hr : Hid (cmpN (val B64 xs) (val B64 ys) = 0) := by
     show _ = _
     have := drop_step hT.out HE.out.1 HE.out.2
     rw [List.drop_zero, List.drop_zero] at this
     rw [this]; unfold cmpN; simp
    have q0 : ((0 : Nat) : Int) = 0 := rfl
    simp only [Nat.add_zero] at cx0 cy0
    go_wp2_with fail
    go_quiet (fail)
    go_wp2_with fail
    go_quiet (fail)
    go_wp2_with fail
    go_quiet (fail)
    go_wp2_with fail
    go_ret
    exact ⟨by rw [hr.out]; rfl, by repeat (first | exact ⟨_, rfl⟩ | refine Drew.step ?_ _)⟩
   .
    have hr : Hid (cmpN (val B64 xs) (val B64 ys) = 1) := by
     show _ = _
     have := top_lt (by omega) dy hT.out.symm HE.out.2 HE.out.1 hgt
     unfold cmpN; rw [if_neg (by omega), if_pos this]
    have q1 : (y : Int) < (x : Int) := by omega
    have q3 : ¬ (x : Int) < (y : Int) := by omega
    have q2 : ((x : Int) == (y : Int)) = false := beq_eq_false_iff_ne.2 (by omega)
    have q4 : (x == y) = false := beq_eq_false_iff_ne.2 (by omega)
    have q5 : ¬ x = y := by omega
    cases k with
    | zero =>
     have q0 : ((0 : Nat) : Int) = 0 := rfl
     simp only [Nat.add_zero] at cx0 cy0
     go_wp2_with fail
     go_quiet (fail)
     go_wp2_with fail
     go_quiet (fail)
     go_wp2_with fail
     go_quiet (fail)
     go_wp2_with fail
     go_ret
     exact ⟨by rw [hr.out]; rfl, by repeat (first | exact ⟨_, rfl⟩ | refine Drew.step ?_ _)⟩
    | succ j =>
     have p4 : (0 : Int) < (j : Int) + 1 := by omega
     have p5 : (0 : Int) <= (j : Int) + 1 := by omega
     have p6 : (j : Int) + 1 < (n : Int) + 1 := by omega
     have p7 : ((j : Int) + 1).toNat = j + 1 := by omega
     go_wp2_with fail
     go_quiet (fail)
     go_wp2_with fail
     go_quiet (fail)
     go_wp2_with fail
     go_quiet (fail)
     go_wp2_with fail
     go_ret
     exact ⟨by rw [hr.out]; rfl, by repeat (first | exact ⟨_, rfl⟩ | refine Drew.step ?_ _)⟩
theorem cmp_vec (x y : Loc) (xs ys : List Nat) (w : World) (hx : VecR w x xs) (hy : VecR w y ys) (hn : xs.length <= 1099511627776)
  (h1 : xs.length < ys.length -> val B64 xs < val B64 ys) (h2 : ys.length < xs.length -> val B64 ys < val B64 xs) :
  Calls Tryz.prog 71 #[.slice x.A xs.length x.c, .slice y.A ys.length y.c] w fun e w' =>
   e = .returned (.int .i64 (cmpN (val B64 xs) (val B64 ys))) /\ Drew w w' := by
 obtain ⟨m, hm⟩ : ∃ m, xs.length = m := ⟨_, rfl⟩
 obtain ⟨n, hk⟩ : ∃ n, ys.length = n := ⟨_, rfl⟩
 rcases Nat.lt_trichotomy m n with hlt | heq | hgt
 .
  have hr : Hid (cmpN (val B64 xs) (val B64 ys) = -1) := by
   show _ = _
   have := h1 (by omega)
   unfold cmpN; rw [if_pos this]
  rw [hm, hk]
  have q1 : (m : Int) < (n : Int) := by omega
  have q2 : decide (m < n) = true := decide_eq_true hlt
  have q3 : ((m : Int) == (n : Int)) = false := beq_eq_false_iff_ne.2 (by omega)
  clear hm hk h1 h2 hx hy hn
  go_enter Tryz.func71, Tryz.ntmps71
  go_wp2
  go_ret
  exact ⟨by rw [hr.out]; rfl, Drew.refl _⟩
 .
  subst heq
  by_cases h0 : m = 0
  .
   subst h0
   have hr : Hid (cmpN (val B64 xs) (val B64 ys) = 0) := by
    show _ = _
    rw [List.eq_nil_of_length_eq_zero hm, List.eq_nil_of_length_eq_zero hk]; unfold cmpN; simp
   rw [hm, hk]
   clear hm hk h1 h2 hx hy hn
   go_enter Tryz.func71, Tryz.ntmps71
   go_wp2
   go_ret
   exact ⟨by rw [hr.out]; rfl, Drew.refl _⟩
  .
   obtain ⟨xA, xc, xb, xo⟩ := x
   obtain ⟨yA, yc, yb, yo⟩ := y
   have e1 := hx.addr (by omega)
   have e2 := hy.addr (by omega)
   simp only at e1 e2
   subst e1; subst e2
   obtain ⟨k, rfl⟩ : ∃ k, m = k + 1 := ⟨m - 1, by omega⟩
   have h := cmp_eq xb xo xc yb yo yc k xs ys w (by omega) hm hk hx.at_ hy.at_ hx.dig hy.dig
   rw [hm, hk]; exact h
 .
  have hr : Hid (cmpN (val B64 xs) (val B64 ys) = 1) := by
   show _ = _
   have := h2 (by omega)
   unfold cmpN; rw [if_neg (by omega), if_pos this]
  rw [hm, hk]
  have q1 : (n : Int) < (m : Int) := by omega
  have q2 : ¬ (m : Int) < (n : Int) := by omega
  have q3 : ((m : Int) == (n : Int)) = false := beq_eq_false_iff_ne.2 (by omega)
  clear hm hk h1 h2 hx hy hn
  go_enter Tryz.func71, Tryz.ntmps71
  go_wp2
  go_ret
  exact ⟨by rw [hr.out]; rfl, Drew.refl _⟩
theorem lt_of_len {X Y : Nat} (h : (digs X).length < (digs Y).length) : X < Y := by
 rcases Nat.lt_or_ge X Y with h1 | h1
 . exact h1
 . have := Zn h1; omega
theorem cmp_any (x y : Loc) (X Y : Nat) (w : World) (hx : NatR w x X) (hy : NatR w y Y) (hn : (digs X).length <= 1099511627776) :
  Calls Tryz.prog 71 #[.slice x.A (digs X).length x.c, .slice y.A (digs Y).length y.c] w fun e w' => e = .returned (.int .i64 (cmpN X Y)) /\ Drew w w' := by
 have h := cmp_vec x y _ _ w hx hy hn (fun h => by rw [Zv, Zv]; exact lt_of_len h) (fun h => by rw [Zv, Zv]; exact lt_of_len h)
 rw [Zv, Zv] at h
 exact h
def aliasB (x y : Loc) : Bool := decide (0 < x.c /\ 0 < y.c /\ x.b = y.b /\ x.o + x.c = y.o + y.c)
theorem eql_words {w : World} {b o b' o' : Nat} (ha : Free w b) (hb : Free w b') {r : Bool} (hr : ((⟨b, o, none⟩ : Addr) == ⟨b', o', none⟩) = r) :
  (binOp .eql 113 (.pointer (some ⟨b, o, none⟩)) (.pointer (some ⟨b', o', none⟩))).run Tryz.prog w = .ok (.bool r) w := by
 obtain ⟨i, hi, _, h2, _⟩ := iWord
 exact run_eql_ptr (a := ⟨b, o, none⟩) (b := ⟨b', o', none⟩) uPWord hi (by omega) ha hb hr
theorem addr_beq (b o b' o' : Nat) : ((⟨b, o, none⟩ : Addr) == ⟨b', o', none⟩) = decide (b = b' /\ o = o') := by
 rw [Bool.eq_iff_iff, beq_iff_eq, decide_eq_true_iff]
 simp
theorem alias_any (x y : Loc) (nx ny : Nat) (w : World) (hx : x.Ok w) (hy : y.Ok w) :
  Calls Tryz.prog 66 #[.slice x.A nx x.c, .slice y.A ny y.c] w fun e w' => e = .returned (.bool (aliasB x y)) /\ Drew w w' := by
 obtain ⟨xA, xc, xb, xo⟩ := x
 obtain ⟨yA, yc, yb, yo⟩ := y
 by_cases h0 : xc = 0
 .
  subst h0
  have hr : aliasB ⟨xA, 0, xb, xo⟩ ⟨yA, yc, yb, yo⟩ = false := by simp [aliasB]
  rw [hr]
  have q0 : decide ((0 : Int) < 0) = false := rfl
  clear hr hx hy
  go_enter Tryz.func66, Tryz.ntmps66
  go_wp2_with fail
  go_quiet (fail)
  go_wp2_with fail
  go_ret
  exact ⟨rfl, by repeat (first | exact ⟨_, rfl⟩ | refine Drew.step ?_ _)⟩
 .
  by_cases h1 : yc = 0
  .
   subst h1
   have hr : aliasB ⟨xA, xc, xb, xo⟩ ⟨yA, 0, yb, yo⟩ = false := by simp [aliasB]
   rw [hr]
   have p0 : 0 < xc := by omega
   have p1 : decide (0 < xc) = true := decide_eq_true p0
   have q0 : decide ((0 : Int) < 0) = false := rfl
   clear hr hx hy
   go_enter Tryz.func66, Tryz.ntmps66
   go_wp2_with fail
   go_quiet (fail)
   go_wp2_with fail
   go_ret
   exact ⟨rfl, by repeat (first | exact ⟨_, rfl⟩ | refine Drew.step ?_ _)⟩
  .
   obtain ⟨hxA, hxL⟩ := hx.2 (by simp only; omega)
   obtain ⟨hyA, hyL⟩ := hy.2 (by simp only; omega)
   simp only at hxA hyA hxL hyL
   subst hxA; subst hyA
   obtain ⟨k, rfl⟩ : ∃ k, xc = k + 1 := ⟨xc - 1, by omega⟩
   obtain ⟨l, rfl⟩ : ∃ l, yc = l + 1 := ⟨yc - 1, by omega⟩
   have hk := hx.1
   have hl := hy.1
   simp only at hk hl
   obtain ⟨r, hr⟩ : ∃ r, aliasB ⟨some ⟨xb, xo, none⟩, k + 1, xb, xo⟩ ⟨some ⟨yb, yo, none⟩, l + 1, yb, yo⟩ = r := ⟨_, rfl⟩
   have hb : ((⟨xb, xo + k, none⟩ : Addr) == ⟨yb, yo + l, none⟩) = r := by
    rw [addr_beq, <- hr]
    unfold aliasB
    rw [decide_eq_decide]
    simp only
    omega
   have hp : ∀ nq, (binOp .eql 113 (.pointer (some ⟨xb, xo + k, none⟩)) (.pointer (some ⟨yb, yo + l, none⟩))).run Tryz.prog (w.drewN nq) = .ok (.bool r) (w.drewN nq) :=
    fun nq => eql_words (w := w.drewN nq) (hxL.free (by omega)) (hyL.free (by omega)) hb
   have Hr := Qq hr
   clear hr hb hx hy hxL hyL
   have p0 : (0 : Int) < (k : Int) + 1 := by omega
   have p1 : (0 : Int) < (l : Int) + 1 := by omega
   have p2 : (0 : Int) <= (k : Int) + 1 := by omega
   have p3 : (0 : Int) <= (l : Int) + 1 := by omega
   have p4 : (k : Int) < (k : Int) + 1 := by omega
   have p5 : (l : Int) < (l : Int) + 1 := by omega
   have p6 : (0 : Int) <= (k : Int) := by omega
   have p7 : (0 : Int) <= (l : Int) := by omega
   have kw : IntKind.i64.wrap (k : Int) = (k : Int) := by rw [IntKind.wrap_i64]; omega
   have lw : IntKind.i64.wrap (l : Int) = (l : Int) := by rw [IntKind.wrap_i64]; omega
   go_enter Tryz.func66, Tryz.ntmps66
   go_wp2_with fail
   go_quiet (fail)
   go_wp2_with fail
   go_ret
   exact ⟨by rw [Hr.out]; rfl, by repeat (first | exact ⟨_, rfl⟩ | refine Drew.step ?_ _)⟩
theorem UpOk.le {bz oz bs os n m : Nat} (h : UpOk bz oz bs os n) (hm : m <= n) : UpOk bz oz bs os m := by unfold UpOk at *; omega
theorem UpOk.sub {bz oz bs os n k m : Nat} (h : UpOk bz oz bs os n) (hm : k + m <= n) : UpOk bz (oz + k) bs (os + k) m := by unfold UpOk at *; omega
theorem U64.behind {w w1 : World} {b o xb xo n m : Nat} {xs : List Nat} (hx : U64 w xb (xo + n) (xs.drop n)) (hl : xs.length = m) (hn : n <= m) (ok : UpOk b o xb xo m) (u : Upd (Rg b o (o + n)) w w1) : U64 w1 xb (xo + n) (xs.drop n) :=
 hx.upd u (fun i hi ⟨e, h1, h2⟩ => by rw [List.length_drop] at hi; unfold UpOk at ok; omega)
theorem add_split {A B D R S c d p q N : Nat} (h1 : A + B = R + c * p) (h2 : D + c = S + d * q) (hN : N = A + p * D) : N + B = R + p * (S + q * d) := by
 subst hN
 have : A + p * D + B = R + p * (D + c) := by rw [Nat.mul_add, Nat.mul_comm p c]; omega
 rw [this, h2, Nat.mul_comm d q]
theorem add_gt (z : Loc) (nz xb xo xc b_y oy yc m n : Nat) (xs ys : List Nat) (w : World) (hz : z.Ok w) (lx : xs.length = m) (ly : ys.length = n) (hnm : n < m) (hn0 : 0 < n) (hm : m + 1 <= 1099511627776)
  (hx : U64 w xb xo xs) (hy : R64 w b_y oy ys) (dx : Digs B64 xs) (dy : Digs B64 ys) (hxc : m <= xc) (hyc : n <= yc)
  (okx : m + 1 <= z.c -> UpOk z.b z.o xb xo m) (oky : m + 1 <= z.c -> UpOk z.b z.o b_y oy n) :
  Calls Tryz.prog 68 #[.slice z.A nz z.c, .slice (some ⟨xb, xo, none⟩) m xc, .slice (some ⟨b_y, oy, none⟩) n yc] w fun e w' => Ya w z (m + 1) (val B64 xs + val B64 ys) e w' := by
 have p1 : ¬ (m : Int) < (n : Int) := by omega
 have p2 : decide (m < n) = false := decide_eq_false (by omega)
 have p3 : ((m : Int) == 0) = false := beq_eq_false_iff_ne.2 (by omega)
 have p4 : ((n : Int) == 0) = false := beq_eq_false_iff_ne.2 (by omega)
 have p5 : (n : Int) <= (xc : Int) := by omega
 have p6 : (n : Int) <= (yc : Int) := by omega
 have p7 : (n : Int) < (m : Int) := by omega
 have p8 : decide (n < m) = true := decide_eq_true hnm
 have p9 : (n : Int) <= (m : Int) := by omega
 have q1 : n < xc := by omega
 have H := Qq (Qj lx (Qj ly (Qj hx (Qj hy (Qj okx oky)))))
 clear lx ly hx hy okx oky
 go_enter Tryz.func68, Tryz.ntmps68
 go_wp2_with (go_at_call 88; refine (make_pos z nz (m + 1) _ _ hz rfl (by omega) hm).mono ?_; rintro e w1 ⟨b, o, c, rfl, hF, hO, hc, hU⟩; have r1 : n < c := (by omega); have r2 : (n : Int) <= (c : Int) := (by omega); have r3 : (m : Int) <= (c : Int) := (by omega))
 have hx1 := H.out.2.2.1.upd hU (fun _ _ h => h)
 have hy1 := H.out.2.2.2.1.upd hU (fun _ _ h => h)
 have ukx := hF.up H.out.2.2.2.2.1 H.out.2.2.1.r H.out.1
 have uky := hF.up H.out.2.2.2.2.2 H.out.2.2.2.1 H.out.2.1
 have hL : Live w1 b o c := hO.live
 have HH := Qq (Qj hx1 (Qj hy1 (Qj hF hO)))
 clear hx1 hy1 hF hO
 go_still_tail 9, (by kernel_rfl)
 change wpList _ _ _ _ _ w1.drew
 go_wp2_with (go_at_call 89; refine (addVV_any b o c xb xo xc b_y oy yc n (xs.take n) ys w1.drew (by omega) (by rw [List.length_take, H.out.1]; omega) H.out.2.1 (hL.drew.le (by omega)) (HH.out.1.drew.take n) HH.out.2.1.drew (dx.take n) dy (ukx.le (by omega)) uky).mono ?_; rintro e w2 ⟨c1, r1s, rfl, hU2, hR1, hl1, hD1, hv1, hc1⟩)
 go_still_tail 8, (by kernel_rfl)
 change wpList _ _ _ _ _ w2.drew
 have hx2 : U64 w2 xb (xo + n) (xs.drop n) := U64.behind (HH.out.1.drop n).drew H.out.1 (by omega) ukx hU2
 have hL2 := (hL.drew.upd hU2)
 have HC := Qq (Qj hv1 (Qj hl1 hx2))
 clear hv1 hl1 hx2
 go_wp2_with fail
 refine (addVW_any b (o + n) (c - n) xb (xo + n) (xc - n) (m - n) c1 (xs.drop n) w2.drew (by omega) (by omega) (by omega) (by rw [List.length_drop, H.out.1]) (hL2.drew.sub n (m - n) (by omega)) HC.out.2.2.drew (dx.drop n) (by rw [Zs]; omega) (ukx.sub (by omega))).mono ?_
 rintro e w3 ⟨c2, r2s, rfl, hU3, hR2, hl2, hD2, hv2, hc2, _⟩
 have hL3 := (hL2.drew.upd hU3)
 obtain ⟨v0, k0, k1, k2⟩ := hL3.at_ (k := m) (by omega)
 have kk : (m : Int) < (m : Int) + 1 := by omega
 have hR1 : U64 w3 b o r1s := hR1.drew.upd hU3 (fun i hi h => by have := h.2.1; have := HC.out.2.1; omega)
 have HD := Qq (Qj HC.out.1 (Qj HC.out.2.1 (Qj hl2 hv2)))
 have hR : U64 (w3.setCell ⟨b, o + m, none⟩ (.int .u64 (c2 : Int))) b o (r1s ++ (r2s ++ [c2])) := by
  refine (hR1.far _ (by have := HD.out.2.1; omega)).append ?_
  rw [HD.out.2.1]
  refine (hR2.far _ (by have := HD.out.2.2.1; omega)).snoc ?_
  rw [HD.out.2.2.1, show o + n + (m - n) = o + m by omega]
  exact k2.set _
 have hlen : (r1s ++ (r2s ++ [c2])).length = m + 1 := by
  rw [List.length_append, List.length_append, HD.out.2.1, HD.out.2.2.1]; simp; omega
 have hval : val B64 (r1s ++ (r2s ++ [c2])) = val B64 xs + val B64 ys := by
  rw [val_append, Yi, HD.out.2.1, HD.out.2.2.1]
  exact (add_split HD.out.1 HD.out.2.2.2 (Zq xs n (by rw [H.out.1]; omega))).symm
 have hdig : Digs B64 (r1s ++ (r2s ++ [c2])) := hD1.append (hD2.snoc hc2)
 have hUp : Upd (Rg b o (o + (m + 1))) w1 (w3.setCell ⟨b, o + m, none⟩ (.int .u64 (c2 : Int))) := by
  refine Upd.setCell ((((Upd.refl _ w1).drew.trans (hU2.mono ?_)).drew).trans (hU3.mono ?_)) (fun _ => ⟨rfl, by omega, by omega⟩) _
  . rintro b' i _ ⟨rfl, k1, k2⟩; exact ⟨rfl, k1, by omega⟩
  . rintro b' i _ ⟨rfl, k1, k2⟩; exact ⟨rfl, by omega, by omega⟩
 have HN := Qq (Qj hlen hval)
 have hfin := Ya.made (need := m + 1) (N := val B64 xs + val B64 ys) HH.out.2.2.1 (Nat.le_refl _) (fun h => h) hU hUp
  ⟨HH.out.2.2.2.upd hUp, by have := digs_len_le hdig; rw [HN.out.2, HN.out.1] at this; simp only; omega, by rw [<- HN.out.2, digs_eq_take hdig]; exact hR.take _, Yc _⟩ rfl
 have HF := Qq hfin
 have hc63 := HH.out.2.2.2.1
 clear hlen hval hfin hl2 hv2 hR1 hR2 hUp hL3 k2
 go_wp2_with (go_at_call 81; refine (norm_len b o c (m + 1) _ _ HN.out.1 hc hc63 hR hdig).mono ?_; rintro e w4 ⟨rfl, hw4⟩; cases hw4.symm)
 go_ret
 rw [HN.out.2]
 exact HF.out
theorem add_eq (z : Loc) (nz xb xo xc b_y oy yc m : Nat) (xs ys : List Nat) (w : World) (hz : z.Ok w) (lx : xs.length = m) (ly : ys.length = m) (hn0 : 0 < m) (hm : m + 1 <= 1099511627776)
  (hx : U64 w xb xo xs) (hy : R64 w b_y oy ys) (dx : Digs B64 xs) (dy : Digs B64 ys) (hxc : m <= xc) (hyc : m <= yc)
  (okx : m + 1 <= z.c -> UpOk z.b z.o xb xo m) (oky : m + 1 <= z.c -> UpOk z.b z.o b_y oy m) :
  Calls Tryz.prog 68 #[.slice z.A nz z.c, .slice (some ⟨xb, xo, none⟩) m xc, .slice (some ⟨b_y, oy, none⟩) m yc] w fun e w' => Ya w z (m + 1) (val B64 xs + val B64 ys) e w' := by
 have p1 : decide (m < m) = false := decide_eq_false (by omega)
 have p3 : ((m : Int) == 0) = false := beq_eq_false_iff_ne.2 (by omega)
 have p5 : (m : Int) <= (xc : Int) := by omega
 have p6 : (m : Int) <= (yc : Int) := by omega
 have H := Qq (Qj lx (Qj ly (Qj hx (Qj hy (Qj okx oky)))))
 clear lx ly hx hy okx oky
 go_enter Tryz.func68, Tryz.ntmps68
 go_wp2_with (go_at_call 88; refine (make_pos z nz (m + 1) _ _ hz rfl (by omega) hm).mono ?_; rintro e w1 ⟨b, o, c, rfl, hF, hO, hc, hU⟩; have r3 : (m : Int) <= (c : Int) := (by omega))
 have hx1 := H.out.2.2.1.upd hU (fun _ _ h => h)
 have hy1 := H.out.2.2.2.1.upd hU (fun _ _ h => h)
 have ukx := hF.up H.out.2.2.2.2.1 H.out.2.2.1.r H.out.1
 have uky := hF.up H.out.2.2.2.2.2 H.out.2.2.2.1 H.out.2.1
 have hL : Live w1 b o c := hO.live
 have HH := Qq (Qj hx1 (Qj hy1 (Qj hF hO)))
 clear hx1 hy1 hF hO
 go_still_tail 9, (by kernel_rfl)
 change wpList _ _ _ _ _ w1.drew
 go_wp2_with fail
 refine (addVV_any b o c xb xo xc b_y oy yc m xs ys w1.drew (by omega) H.out.1 H.out.2.1 (hL.drew.le (by omega)) HH.out.1.drew HH.out.2.1.drew dx dy ukx uky).mono ?_
 rintro e w2 ⟨c1, r1s, rfl, hU2, hR1, hl1, hD1, hv1, hc1⟩
 have hL2 := (hL.drew.upd hU2)
 obtain ⟨v0, k0, k1, k2⟩ := hL2.at_ (k := m) (by omega)
 have kk : (m : Int) < (m : Int) + 1 := by omega
 have HD := Qq (Qj hv1 hl1)
 clear hv1 hl1
 go_wp2_with fail
 have hR : U64 (w2.setCell ⟨b, o + m, none⟩ (.int .u64 (c1 : Int))) b o (r1s ++ [c1]) := by
  refine (hR1.far _ (by have := HD.out.2; omega)).snoc ?_
  rw [HD.out.2]
  exact k2.set _
 have hlen : (r1s ++ [c1]).length = m + 1 := by
  rw [List.length_append, HD.out.2]; rfl
 have hval : val B64 (r1s ++ [c1]) = val B64 xs + val B64 ys := by
  rw [Yi, HD.out.2, HD.out.1, Nat.mul_comm]
 have hdig : Digs B64 (r1s ++ [c1]) := hD1.snoc (by rw [Zs]; omega)
 have hUp : Upd (Rg b o (o + (m + 1))) w1 (w2.setCell ⟨b, o + m, none⟩ (.int .u64 (c1 : Int))) := by
  refine Upd.setCell (((Upd.refl _ w1).drew.trans (hU2.mono ?_))) (fun _ => ⟨rfl, by omega, by omega⟩) _
  rintro b' i _ ⟨rfl, k1, k2⟩; exact ⟨rfl, k1, by omega⟩
 have HN := Qq (Qj hlen hval)
 have hfin := Ya.made (need := m + 1) (N := val B64 xs + val B64 ys) HH.out.2.2.1 (Nat.le_refl _) (fun h => h) hU hUp
  ⟨HH.out.2.2.2.upd hUp, by have := digs_len_le hdig; rw [HN.out.2, HN.out.1] at this; simp only; omega, by rw [<- HN.out.2, digs_eq_take hdig]; exact hR.take _, Yc _⟩ rfl
 have HF := Qq hfin
 have hc63 := HH.out.2.2.2.1
 clear hlen hval hfin hR1 hUp hL2 k2
 go_wp2_with (go_at_call 81; refine (norm_len b o c (m + 1) _ _ HN.out.1 hc hc63 hR hdig).mono ?_; rintro e w4 ⟨rfl, hw4⟩; cases hw4.symm)
 go_ret
 rw [HN.out.2]
 exact HF.out
theorem add_ge (z x y : Loc) (nz X Y : Nat) (w : World) (hz : z.Ok w) (hx : NatR w x X) (hxo : Y ≠ 0 -> x.Ok w) (hy : NatR w y Y) (hl : (digs Y).length <= (digs X).length) (hm : (digs X).length + 1 <= 1099511627776)
  (okx : (digs X).length + 1 <= z.c -> UpOk z.b z.o x.b x.o (digs X).length) (oky : (digs X).length + 1 <= z.c -> UpOk z.b z.o y.b y.o (digs Y).length) :
  Calls Tryz.prog 68 #[.slice z.A nz z.c, .slice x.A (digs X).length x.c, .slice y.A (digs Y).length y.c] w fun e w' => Ya w z ((digs X).length + 1) (X + Y) e w' := by
 by_cases h0 : Y = 0
 .
  subst h0
  have e0 : (digs 0).length = 0 := by rw [Yg]; rfl
  rw [e0]
  obtain ⟨m, hm0⟩ : ∃ m, (digs X).length = m := ⟨_, rfl⟩
  by_cases h1 : X = 0
  .
   subst h1
   rw [e0]
   go_enter Tryz.func68, Tryz.ntmps68
   go_wp2
   go_ret
   exact Ya.zero hz (Upd.refl _ _)
  .
   have hm1 : 0 < m := by
    rcases Nat.eq_zero_or_pos m with h | h
    . rw [h] at hm0; exact absurd (Zg.1 hm0) h1
    . exact h
   have hset := set_any z x nz X w hz hx (by omega)
   rw [hm0] at hset ⊢
   have p2 : decide (m < 0) = false := decide_eq_false (by omega)
   have p3 : ((m : Int) == 0) = false := beq_eq_false_iff_ne.2 (by omega)
   have p4 : ¬ (m : Int) < 0 := by omega
   have HS := Qq hset
   clear hset hm0
   go_enter Tryz.func68, Tryz.ntmps68
   go_wp2_with fail
   refine HS.out.mono ?_
   rintro e w1 h1
   obtain ⟨r, rfl, h2⟩ := h1
   go_wp2
   go_ret
   rw [Nat.add_zero]
   exact Ya.mono ⟨r, rfl, h2⟩ (Nat.le_succ _)
 .
  have hn0 : 0 < (digs Y).length := by
   rcases Nat.eq_zero_or_pos (digs Y).length with h | h
   . exact absurd (Zg.1 h) h0
   . exact h
  have hx : NatV w x X := hx.own (hxo h0)
  have e1 := hx.addr (by omega)
  have e2 := hy.addr (by omega)
  clear hxo
  obtain ⟨xA, xc, xb, xo⟩ := x
  obtain ⟨yA, yc, yb, yo⟩ := y
  simp only at e1 e2
  subst e1; subst e2
  rcases Nat.lt_or_ge (digs Y).length (digs X).length with h | h
  .
   have := add_gt z nz xb xo xc yb yo yc _ _ _ _ w hz rfl rfl h hn0 hm hx.at_ hy.at_ hx.dig hy.dig hx.le hy.le okx oky
   rw [Zv, Zv] at this
   exact this
  .
   have he : (digs Y).length = (digs X).length := by omega
   rw [he] at oky ⊢
   have := add_eq z nz xb xo xc yb yo yc _ _ _ w hz rfl he (by omega) hm hx.at_ hy.at_ hx.dig hy.dig hx.le (by rw [<- he]; exact hy.le) okx oky
   rw [Zv, Zv] at this
   exact this
theorem add_anyR (z x y : Loc) (nz X Y : Nat) (w : World) (hz : z.Ok w) (hx : NatV w x X) (hy : NatR w y Y) (hyo : y.Ok w \/ (digs Y).length <= 1) (hm : (digs X).length + 1 <= 1099511627776) (hn : (digs Y).length + 1 <= 1099511627776)
  (okx : UpOk z.b z.o x.b x.o (digs X).length) (oky : UpOk z.b z.o y.b y.o (digs Y).length) :
  Calls Tryz.prog 68 #[.slice z.A nz z.c, .slice x.A (digs X).length x.c, .slice y.A (digs Y).length y.c] w fun e w' => Ya w z (max (digs X).length (digs Y).length + 1) (X + Y) e w' := by
 rcases Nat.lt_or_ge (digs X).length (digs Y).length with h | h
 .
  have HA := Qq (add_ge z y x nz Y X w hz hy (fun hX => hyo.elim id (fun h1 => absurd (Zg.1 (by omega)) hX)) hx (by omega) hn (fun _ => oky) (fun _ => okx))
  have e : max (digs X).length (digs Y).length = (digs Y).length := by omega
  rw [e]
  obtain ⟨m, hm0⟩ : ∃ m, (digs X).length = m := ⟨_, rfl⟩
  obtain ⟨n, hn0⟩ : ∃ n, (digs Y).length = n := ⟨_, rfl⟩
  rw [hm0, hn0] at HA h ⊢
  have p1 : decide (m < n) = true := decide_eq_true h
  have p2 : (m : Int) < (n : Int) := by omega
  clear hm0 hn0
  go_enter Tryz.func68, Tryz.ntmps68
  go_wp2_with fail
  refine HA.out.mono ?_
  rintro e w1 h1
  obtain ⟨r, rfl, h2⟩ := h1
  go_wp2
  go_ret
  rw [Nat.add_comm X Y]
  exact ⟨r, rfl, h2⟩
 .
  have e : max (digs X).length (digs Y).length = (digs X).length := by omega
  rw [e]
  exact add_ge z x y nz X Y w hz hx (fun _ => hx.ok) hy h hm (fun _ => okx) (fun _ => oky)
theorem add_any (z x y : Loc) (nz X Y : Nat) (w : World) (hz : z.Ok w) (hx : NatV w x X) (hy : NatV w y Y) (hm : (digs X).length + 1 <= 1099511627776) (hn : (digs Y).length + 1 <= 1099511627776)
  (okx : UpOk z.b z.o x.b x.o (digs X).length) (oky : UpOk z.b z.o y.b y.o (digs Y).length) :
  Calls Tryz.prog 68 #[.slice z.A nz z.c, .slice x.A (digs X).length x.c, .slice y.A (digs Y).length y.c] w fun e w' => Ya w z (max (digs X).length (digs Y).length + 1) (X + Y) e w' :=
 add_anyR z x y nz X Y w hz hx hy (Or.inl hy.ok) hm hn okx oky
theorem sub_split {A Y R D S c d p q N : Nat} (h1 : A + c * p = Y + R) (h2 : D + d * q = c + S) (hN : N = A + p * D) : N + d * (p * q) = Y + (R + p * S) := by
 subst hN
 have e : p * (D + d * q) = p * (c + S) := by rw [h2]
 rw [Nat.mul_add, Nat.mul_add, Nat.mul_comm p c] at e
 have e2 : d * (p * q) = p * (d * q) := by grind
 rw [e2]; omega
theorem no_borrow {N d P Y R : Nat} (h : N + d * P = Y + R) (hR : R < P) (hY : Y <= N) : d = 0 := by
 rcases Nat.eq_zero_or_pos d with h0 | h0
 . exact h0
 .
  have : 1 * P <= d * P := Nat.mul_le_mul_right _ h0
  omega
theorem sub_gt (z : Loc) (nz xb xo xc b_y oy yc m n : Nat) (xs ys : List Nat) (w : World) (hz : z.Ok w) (lx : xs.length = m) (ly : ys.length = n) (hnm : n < m) (hn0 : 0 < n) (hm : m <= 1099511627776)
  (hx : U64 w xb xo xs) (hy : U64 w b_y oy ys) (dx : Digs B64 xs) (dy : Digs B64 ys) (hxc : m <= xc) (hyc : n <= yc)
  (okx : m <= z.c -> UpOk z.b z.o xb xo m) (oky : m <= z.c -> UpOk z.b z.o b_y oy n) (hle : val B64 ys <= val B64 xs) :
  Calls Tryz.prog 69 #[.slice z.A nz z.c, .slice (some ⟨xb, xo, none⟩) m xc, .slice (some ⟨b_y, oy, none⟩) n yc] w fun e w' => Ya w z m (val B64 xs - val B64 ys) e w' := by
 have p1 : ¬ (m : Int) < (n : Int) := by omega
 have p2 : decide (m < n) = false := decide_eq_false (by omega)
 have p3 : ((m : Int) == 0) = false := beq_eq_false_iff_ne.2 (by omega)
 have p4 : ((n : Int) == 0) = false := beq_eq_false_iff_ne.2 (by omega)
 have p5 : (n : Int) <= (xc : Int) := by omega
 have p6 : (n : Int) <= (yc : Int) := by omega
 have p7 : (n : Int) < (m : Int) := by omega
 have p8 : decide (n < m) = true := decide_eq_true hnm
 have p9 : (n : Int) <= (m : Int) := by omega
 have q1 : n < xc := by omega
 have H := Qq (Qj lx (Qj ly (Qj hx (Qj hy (Qj okx (Qj oky hle))))))
 clear lx ly hx hy okx oky hle
 go_enter Tryz.func69, Tryz.ntmps69
 go_wp2_with fail
 refine (make_pos z nz m _ _ hz rfl (by omega) hm).mono ?_
 rintro e w1 ⟨b, o, c, rfl, hF, hO, hc, hU⟩
 have r1 : n < c := by omega
 have r2 : (n : Int) <= (c : Int) := by omega
 have hx1 := H.out.2.2.1.upd hU (fun _ _ h => h)
 have hy1 := H.out.2.2.2.1.upd hU (fun _ _ h => h)
 have ukx := hF.up H.out.2.2.2.2.1 H.out.2.2.1.r H.out.1
 have uky := hF.up H.out.2.2.2.2.2.1 H.out.2.2.2.1.r H.out.2.1
 have hL : Live w1 b o c := hO.live
 have HH := Qq (Qj hx1 (Qj hy1 (Qj hF hO)))
 clear hx1 hy1 hF hO
 go_wp2_with fail
 go_still_tail 9, (by kernel_rfl)
 change wpList _ _ _ _ _ w1.drew
 go_wp2_with fail
 refine (subVV_any b o c xb xo xc b_y oy yc n (xs.take n) ys w1.drew (by omega) (by rw [List.length_take, H.out.1]; omega) H.out.2.1 (hL.drew.le (by omega)) (HH.out.1.drew.take n) HH.out.2.1.drew (dx.take n) dy (ukx.le (by omega)) uky).mono ?_
 rintro e w2 ⟨c1, r1s, rfl, hU2, hR1, hl1, hD1, hv1, hc1⟩
 have hx2 : U64 w2 xb (xo + n) (xs.drop n) := U64.behind (HH.out.1.drop n).drew H.out.1 (by omega) ukx hU2
 have hL2 := (hL.drew.upd hU2)
 have HC := Qq (Qj hv1 (Qj hl1 hx2))
 clear hv1 hl1 hx2
 go_wp2_with fail
 go_still_tail 7, (by kernel_rfl)
 change wpList _ _ _ _ _ w2.drew
 go_wp2_with fail
 refine (subVW_any b (o + n) (c - n) xb (xo + n) (xc - n) (m - n) c1 (xs.drop n) w2.drew (by omega) (by omega) (by omega) (by rw [List.length_drop, H.out.1]) (hL2.drew.sub n (m - n) (by omega)) HC.out.2.2.drew (dx.drop n) (by rw [Zs]; omega) (ukx.sub (by omega))).mono ?_
 rintro e w3 ⟨c2, r2s, rfl, hU3, hR2, hl2, hD2, hv2, hc2, _⟩
 have hsum := sub_split HC.out.1 hv2 (Zq xs n (by rw [H.out.1]; omega))
 have hlen : (r1s ++ r2s).length = m := by
  rw [List.length_append, HC.out.2.1, hl2]; omega
 have hdig : Digs B64 (r1s ++ r2s) := hD1.append hD2
 have hval0 : val B64 (r1s ++ r2s) = val B64 r1s + B64 ^ n * val B64 r2s := by rw [val_append, HC.out.2.1]
 rw [<- hval0, <- Nat.pow_add, show n + (m - n) = m by omega] at hsum
 have hlt := val_lt _ hdig
 rw [hlen] at hlt
 have h0 := no_borrow hsum hlt H.out.2.2.2.2.2.2
 subst h0
 have hval : val B64 (r1s ++ r2s) = val B64 xs - val B64 ys := by omega
 have hR : U64 w3 b o (r1s ++ r2s) := by
  refine (hR1.drew.upd hU3 (fun i hi h => by have := h.2.1; have := HC.out.2.1; omega)).append ?_
  rw [HC.out.2.1]; exact hR2
 have hUp : Upd (Rg b o (o + m)) w1 w3 := by
  refine ((((Upd.refl _ w1).drew.trans (hU2.mono ?_)).drew).trans (hU3.mono ?_))
  . rintro b' i _ ⟨rfl, k1, k2⟩; exact ⟨rfl, k1, by omega⟩
  . rintro b' i _ ⟨rfl, k1, k2⟩; exact ⟨rfl, by omega, by omega⟩
 have HN := Qq (Qj hlen hval)
 have hfin := Ya.made (need := m) (N := val B64 xs - val B64 ys) HH.out.2.2.1 (Nat.le_refl _) (fun h => h) hU hUp
  ⟨HH.out.2.2.2.upd hUp, by have := digs_len_le hdig; rw [HN.out.2, HN.out.1] at this; simp only; omega, by rw [<- HN.out.2, digs_eq_take hdig]; exact hR.take _, Yc _⟩ rfl
 have HF := Qq hfin
 have hc63 := HH.out.2.2.2.1
 have q9 : ((0 : Nat) : Int) = 0 := rfl
 clear hlen hval hfin hl2 hv2 hR1 hR2 hUp hsum hval0 hlt
 go_wp2_with fail
 refine (norm_len b o c m _ _ HN.out.1 hc hc63 hR hdig).mono ?_
 rintro e w4 ⟨rfl, hw4⟩
 cases hw4.symm
 go_wp2
 go_ret
 rw [HN.out.2]
 exact HF.out
theorem sub_eq (z : Loc) (nz xb xo xc b_y oy yc m : Nat) (xs ys : List Nat) (w : World) (hz : z.Ok w) (lx : xs.length = m) (ly : ys.length = m) (hn0 : 0 < m) (hm : m <= 1099511627776)
  (hx : U64 w xb xo xs) (hy : U64 w b_y oy ys) (dx : Digs B64 xs) (dy : Digs B64 ys) (hxc : m <= xc) (hyc : m <= yc)
  (okx : m <= z.c -> UpOk z.b z.o xb xo m) (oky : m <= z.c -> UpOk z.b z.o b_y oy m) (hle : val B64 ys <= val B64 xs) :
  Calls Tryz.prog 69 #[.slice z.A nz z.c, .slice (some ⟨xb, xo, none⟩) m xc, .slice (some ⟨b_y, oy, none⟩) m yc] w fun e w' => Ya w z m (val B64 xs - val B64 ys) e w' := by
 have p1 : decide (m < m) = false := decide_eq_false (by omega)
 have p3 : ((m : Int) == 0) = false := beq_eq_false_iff_ne.2 (by omega)
 have p5 : (m : Int) <= (xc : Int) := by omega
 have p6 : (m : Int) <= (yc : Int) := by omega
 have H := Qq (Qj lx (Qj ly (Qj hx (Qj hy (Qj okx (Qj oky hle))))))
 clear lx ly hx hy okx oky hle
 go_enter Tryz.func69, Tryz.ntmps69
 go_wp2_with fail
 refine (make_pos z nz m _ _ hz rfl (by omega) hm).mono ?_
 rintro e w1 ⟨b, o, c, rfl, hF, hO, hc, hU⟩
 have r2 : (m : Int) <= (c : Int) := by omega
 have hx1 := H.out.2.2.1.upd hU (fun _ _ h => h)
 have hy1 := H.out.2.2.2.1.upd hU (fun _ _ h => h)
 have ukx := hF.up H.out.2.2.2.2.1 H.out.2.2.1.r H.out.1
 have uky := hF.up H.out.2.2.2.2.2.1 H.out.2.2.2.1.r H.out.2.1
 have hL : Live w1 b o c := hO.live
 have HH := Qq (Qj hx1 (Qj hy1 (Qj hF hO)))
 clear hx1 hy1 hF hO
 go_wp2_with fail
 go_still_tail 9, (by kernel_rfl)
 change wpList _ _ _ _ _ w1.drew
 go_wp2_with fail
 refine (subVV_any b o c xb xo xc b_y oy yc m xs ys w1.drew (by omega) H.out.1 H.out.2.1 (hL.drew.le (by omega)) HH.out.1.drew HH.out.2.1.drew dx dy ukx uky).mono ?_
 rintro e w2 ⟨c1, r1s, rfl, hU2, hR1, hl1, hD1, hv1, hc1⟩
 have hlt := val_lt _ hD1
 rw [hl1] at hlt
 have h0 := no_borrow hv1 hlt H.out.2.2.2.2.2.2
 subst h0
 have hval : val B64 r1s = val B64 xs - val B64 ys := by omega
 have hlen := hl1
 have hdig := hD1
 have hR := hR1
 have hUp : Upd (Rg b o (o + m)) w1 w2 := (Upd.refl _ w1).drew.trans hU2
 have HN := Qq (Qj hlen hval)
 have hfin := Ya.made (need := m) (N := val B64 xs - val B64 ys) HH.out.2.2.1 (Nat.le_refl _) (fun h => h) hU hUp
  ⟨HH.out.2.2.2.upd hUp, by have := digs_len_le hdig; rw [HN.out.2, HN.out.1] at this; simp only; omega, by rw [<- HN.out.2, digs_eq_take hdig]; exact hR.take _, Yc _⟩ rfl
 have HF := Qq hfin
 have hc63 := HH.out.2.2.2.1
 have q9 : ((0 : Nat) : Int) = 0 := rfl
 clear hlen hval hfin hR1 hUp hlt hl1 hv1
 go_wp2_with fail
 refine (norm_len b o c m _ _ HN.out.1 hc hc63 hR hdig).mono ?_
 rintro e w4 ⟨rfl, hw4⟩
 cases hw4.symm
 go_wp2
 go_ret
 rw [HN.out.2]
 exact HF.out
theorem sub_any (z x y : Loc) (nz X Y : Nat) (w : World) (hz : z.Ok w) (hx : NatV w x X) (hy : NatV w y Y) (hle : Y <= X) (hm : (digs X).length <= 1099511627776)
  (okx : (digs X).length <= z.c -> UpOk z.b z.o x.b x.o (digs X).length) (oky : (digs X).length <= z.c -> UpOk z.b z.o y.b y.o (digs Y).length) :
  Calls Tryz.prog 69 #[.slice z.A nz z.c, .slice x.A (digs X).length x.c, .slice y.A (digs Y).length y.c] w fun e w' => Ya w z (digs X).length (X - Y) e w' := by
 have hl := Zn hle
 by_cases h0 : Y = 0
 .
  subst h0
  have e0 : (digs 0).length = 0 := by rw [Yg]; rfl
  rw [e0]
  obtain ⟨m, hm0⟩ : ∃ m, (digs X).length = m := ⟨_, rfl⟩
  by_cases h1 : X = 0
  .
   subst h1
   rw [e0]
   go_enter Tryz.func69, Tryz.ntmps69
   go_wp2
   go_ret
   exact Ya.zero hz (Upd.refl _ _)
  .
   have hm1 : 0 < m := by
    rcases Nat.eq_zero_or_pos m with h | h
    . rw [h] at hm0; exact absurd (Zg.1 hm0) h1
    . exact h
   have hset := set_any z x nz X w hz hx (by omega)
   rw [hm0] at hset ⊢
   have p2 : decide (m < 0) = false := decide_eq_false (by omega)
   have p3 : ((m : Int) == 0) = false := beq_eq_false_iff_ne.2 (by omega)
   have p4 : ¬ (m : Int) < 0 := by omega
   have HS := Qq hset
   clear hset hm0 okx oky hm hl
   go_enter Tryz.func69, Tryz.ntmps69
   go_wp2_with fail
   refine HS.out.mono ?_
   rintro e w1 h1
   obtain ⟨r, rfl, h2⟩ := h1
   go_wp2
   go_ret
   rw [Nat.sub_zero]
   exact ⟨r, rfl, h2⟩
 .
  have hn0 : 0 < (digs Y).length := by
   rcases Nat.eq_zero_or_pos (digs Y).length with h | h
   . exact absurd (Zg.1 h) h0
   . exact h
  have e1 := hx.addr (by omega)
  have e2 := hy.addr (by omega)
  obtain ⟨xA, xc, xb, xo⟩ := x
  obtain ⟨yA, yc, yb, yo⟩ := y
  simp only at e1 e2
  subst e1; subst e2
  have hv : val B64 (digs Y) <= val B64 (digs X) := by rw [Zv, Zv]; exact hle
  rcases Nat.lt_or_ge (digs Y).length (digs X).length with h | h
  .
   have := sub_gt z nz xb xo xc yb yo yc _ _ _ _ w hz rfl rfl h hn0 hm hx.at_ hy.at_ hx.dig hy.dig hx.le hy.le okx oky hv
   rw [Zv, Zv] at this
   exact this
  .
   have he : (digs Y).length = (digs X).length := by omega
   rw [he] at oky ⊢
   have := sub_eq z nz xb xo xc yb yo yc _ _ _ w hz rfl he (by omega) hm hx.at_ hy.at_ hx.dig hy.dig hx.le (by rw [<- he]; exact hy.le) okx oky hv
   rw [Zv, Zv] at this
   exact this
end Go.Proofs.YthkklkjldpcbkaaGreatDoor
