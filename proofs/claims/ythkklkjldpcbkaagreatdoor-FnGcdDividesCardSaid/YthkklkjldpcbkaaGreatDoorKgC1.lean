/- For the claim of laws.FnGcdDivides: Range, RangeI. -/
import Derived.Test.YthkklkjldpcbkaaGreatDoorKgB2
set_option linter.unusedVariables false
set_option linter.unusedSimpArgs false
namespace Go.Proofs.YthkklkjldpcbkaaGreatDoor
open Go.RowKit
def rng (a : Nat) : Nat → Nat
 | 0 => 1
 | n + 1 => rng a n * (a + n)
theorem rng_ne (a : Nat) (h : 1 ≤ a) : ∀ n, rng a n ≠ 0
 | 0 => by show (1 : Nat) ≠ 0; omega
 | n + 1 => Nat.mul_ne_zero (rng_ne a h n) (by omega)
@[reducible] def nilL : Loc := ⟨none, 0, 0, 0⟩
theorem nilL_ok (w : World) : nilL.Ok w := Loc.Ok.nil w 0 0
theorem nilL_rel (x : Loc) : Rel nilL x := Or.inr (Or.inl rfl)
theorem ZF.nil {k b i : Nat} (h : ZF nilL k b i) : NoF b i := by obtain ⟨_, h2, _, h4⟩ := h; simp only at h2 h4; omega
theorem setUint64_any (z : Loc) (nz x : Nat) (w : World) (hz : z.Ok w) (hx : x < B64) :
  Calls Tryz.prog 72 #[.slice z.A nz z.c, .int .u64 (x : Int)] w fun e w' => NatRes w z 1 x e w' := by
 have HW := Lib.hid (setWord_any z nz x w hz hx)
 have hx' : (x : Int) < 18446744073709551616 := by rw [B64_eq] at hx; omega
 clear hx
 go_enter Tryz.func72, Tryz.ntmps72
 go_wp2_with fail
 refine HW.out.mono ?_
 rintro e w1 ⟨r, rfl, h⟩
 have HH := Lib.hid h
 clear h
 go_wp2_with fail
 go_ret
 exact ⟨r, rfl, HH.out⟩
set_option maxRecDepth 1000000 in
theorem SetInt64_any (zb x : Nat) (lz : Loc) (s : Bool) (nz : Nat) (w : World) (hz : IntD w zb lz s nz) (hx : x < 9223372036854775808) :
  Calls Tryz.prog 74 #[.pointer (some ⟨zb, 0, none⟩), .int .i64 (x : Int)] w fun e w' => e = .returned (.pointer (some ⟨zb, 0, none⟩)) ∧ IntRes w zb lz 1 (x : Int) w' := by
 have c1 := hz.neg.cell
 have c2 := hz.neg.frozen
 have c3 := hz.abs.cell
 have c4 := hz.abs.frozen
 have HS := Lib.hid (setUint64_any lz nz x w hz.ok (by rw [B64_eq]; omega))
 have HX := Lib.hid hz
 have q1 : ¬ (x : Int) < 0 := by omega
 have q2 : (0 : Int) ≤ (x : Int) := by omega
 clear hz
 go_enter Tryz.func74, Tryz.ntmps74
 go_wp2_with fail
 refine HS.out.mono ?_
 rintro e w1 ⟨r, rfl, h1, h2, h3, h4⟩
 have d1 := (HX.out.keep HX.out.ok h3).abs.cell
 have d2 := (HX.out.keep HX.out.ok h3).abs.frozen
 have d3 := (HX.out.keep HX.out.ok h3).neg.cell
 have d4 := (HX.out.keep HX.out.ok h3).neg.frozen
 have hm := IntRes.made HX.out h1 h2 h3 h4 (v := (x : Int)) (by omega)
 rw [decide_eq_false (by omega : ¬ (x : Int) < 0)] at hm
 have HM := Lib.hid hm
 clear h1 h2 h3 h4 c1 c2 c3 c4 hm
 go_wp2_with fail
 go_ret
 exact ⟨rfl, HM.out⟩
def RngPost (w : World) (N sb ns : Nat) (J : SI) (e : Ending) (w' : World) : Prop :=
 ∃ (r : Loc) (J' : SI), e = .returned (.slice r.A (digs N).length r.c) ∧ (0 < r.c → w.heap.size ≤ r.b) ∧ NatV w' r N ∧ StkV w' sb ns J' ∧ SI.Le w sb J J' ∧ Off J' sb ns r ∧ Upd (J.K sb ns) w w'
def RngPost0 (w : World) (N : Nat) (e : Ending) (w' : World) : Prop :=
 ∃ r : Loc, e = .returned (.slice r.A (digs N).length r.c) ∧ (0 < r.c → w.heap.size ≤ r.b) ∧ NatV w' r N ∧ Upd NoF w w'
theorem NatRes.rng {w w' : World} {k N : Nat} {e : Ending} (h : NatRes w nilL k N e w') : RngPost0 w N e w' := by
 obtain ⟨r, h1, h2, h3, h4, h5⟩ := h
 exact ⟨r, h1, fun h0 => h2.elim (fun h => by subst h; exact absurd h0 (Nat.lt_irrefl 0)) id, h5, h4.mono (fun _ _ _ h => ZF.nil h)⟩
theorem RngPost0.stk {w w' : World} {N sb ns : Nat} {J : SI} {e : Ending} (h : RngPost0 w N e w') (hs : StkV w sb ns J) : RngPost w N sb ns J e w' := by
 obtain ⟨r, h1, h2, h3, h4⟩ := h
 exact ⟨r, J, h1, h2, h3, hs.upd0 h4, SI.Le.refl _ _ _, fun i hi => Off.new hs (h2 (by omega)) i hi, h4.mono (fun _ _ _ h => h.elim)⟩
theorem MulPost.rng {w w' : World} {k N sb ns : Nat} {J : SI} {R : Prop} {e : Ending} (h : MulPost w nilL R k N sb ns J e w') : RngPost w N sb ns J e w' := by
 obtain ⟨r, rs, J', h1, h2, h3, h4, h5, h6, h7, h8, h9, h10, h11, h12, h13⟩ := h
 refine ⟨r, J', h1, fun h0 => h2.elim (fun h => by subst h; exact absurd h0 (Nat.lt_irrefl 0)) id, ?_, h11, h12, h13, h10.mono (fun b i _ h => h.elim (fun h => (ZF.nil h).elim) id)⟩
 have hv := (show VecV w' r rs from ⟨h9, h5, h6, h7⟩).norm
 rwa [h8] at hv
theorem MulRes.rng {w w' : World} {k N : Nat} {R : Prop} {e : Ending} (h : MulRes w nilL R k N NoF e w') : RngPost0 w N e w' := by
 obtain ⟨r, rs, h1, h2, h3, h4, h5, h6, h7, h8, h9, h10⟩ := h
 refine ⟨r, h1, fun h0 => h2.elim (fun h => by subst h; exact absurd h0 (Nat.lt_irrefl 0)) id, ?_, h10.mono (fun b i _ h => h.elim (fun h => ZF.nil h) id)⟩
 have hv := (show VecV w' r rs from ⟨h9, h5, h6, h7⟩).norm
 rwa [h8] at hv
end Go.Proofs.YthkklkjldpcbkaaGreatDoor
namespace Go.Proofs.YthkklkjldpcbkaaGreatDoor
open Go.RowKit
def NewInt (w : World) (zb : Nat) (v : Int) (w' : World) : Prop := ∃ l : Loc, IntV w' zb l v ∧ (0 < l.c → w.heap.size ≤ l.b) ∧ Upd (Blk zb) w w'
theorem IntRes.new {w w' : World} {zb k : Nat} {v : Int} (h : IntRes w zb nilL k v w') : NewInt w zb v w' := by
 obtain ⟨r, h1, _, h3, h4⟩ := h
 exact ⟨r, h4, fun h0 => h1.elim (fun h => by subst h; exact absurd h0 (Nat.lt_irrefl 0)) id, h3.mono (fun b i _ h => h.elim id (fun h => (ZF.nil h).elim))⟩
theorem RngPost0.made {w w1 : World} {zb N : Nat} {r : Loc} {v : Int} (hz : IntD w zb nilL false 0) (h : 0 < r.c → w.heap.size ≤ r.b) (hN : NatV w1 r N) (u : Upd NoF w w1) (hv : v.natAbs = N) :
  NewInt w zb v ((w1.setCell ⟨zb, 1, none⟩ (.slice r.A (digs N).length r.c)).setCell ⟨zb, 0, none⟩ (.bool (decide (v < 0)))) := by
 subst hv
 have hs := IntV.stored (v := v) (hz.upd u (fun _ h => h)) hN
 exact ⟨r, hs.1, h, u.then hs.2 (fun _ _ _ h => h.elim) (fun _ _ _ h => h)⟩
end Go.Proofs.YthkklkjldpcbkaaGreatDoor
