/- For the claim of laws.FnInverse: Range, RangeI. -/
import Derived.Test.YthkklkjldpcbkaaGreatDoorLiB2
set_option linter.unusedVariables false
set_option linter.unusedSimpArgs false
namespace Go.Proofs.YthkklkjldpcbkaaGreatDoor
open Go.RowKit
def rng (a : Nat) : Nat -> Nat
 | 0 => 1
 | n + 1 => rng a n * (a + n)
theorem rng_ne (a : Nat) (h : 1 <= a) : ∀ n, rng a n ≠ 0
 | 0 => by show (1 : Nat) ≠ 0; omega
 | n + 1 => Nat.mul_ne_zero (rng_ne a h n) (by omega)
@[reducible] def nilL : Loc := ⟨none, 0, 0, 0⟩
theorem nilL_ok (w : World) : nilL.Ok w := Loc.Ok.nil w 0 0
theorem nilL_rel (x : Loc) : Rel nilL x := Or.inr (Or.inl rfl)
theorem setUint64_any (z : Loc) (nz x : Nat) (w : World) (hz : z.Ok w) (hx : x < B64) :
  Calls Tryz.prog 72 #[.slice z.A nz z.c, .int .u64 (x : Int)] w fun e w' => Ya w z 1 x e w' := by
 have HW := Qq (setWord_any z nz x w hz hx)
 have hx' : (x : Int) < 18446744073709551616 := by rw [Zs] at hx; omega
 clear hx
 go_enter Tryz.func72, Tryz.ntmps72
 go_wp2_with fail
 refine HW.out.mono ?_
 rintro e w1 ⟨r, rfl, h⟩
 have HH := Qq h
 clear h
 go_wp2_with fail
 go_ret
 exact ⟨r, rfl, HH.out⟩
set_option maxRecDepth 1000000 in
theorem SetInt64_any (zb x : Nat) (lz : Loc) (s : Bool) (nz : Nat) (w : World) (hz : IntD w zb lz s nz) (hx : x < 9223372036854775808) :
  Calls Tryz.prog 74 #[.pointer (some ⟨zb, 0, none⟩), .int .i64 (x : Int)] w fun e w' => e = .returned (.pointer (some ⟨zb, 0, none⟩)) /\ Yb w zb lz 1 (x : Int) w' := by
 have c1 := hz.neg.cell
 have c2 := hz.neg.frozen
 have c3 := hz.abs.cell
 have c4 := hz.abs.frozen
 have HS := Qq (setUint64_any lz nz x w hz.ok (by rw [Zs]; omega))
 have HX := Qq hz
 have q1 : ¬ (x : Int) < 0 := by omega
 have q2 : (0 : Int) <= (x : Int) := by omega
 clear hz
 go_enter Tryz.func74, Tryz.ntmps74
 go_wp2_with fail
 refine HS.out.mono ?_
 rintro e w1 ⟨r, rfl, h1, h2, h3, h4⟩
 have d1 := (HX.out.keep HX.out.ok h3).abs.cell
 have d2 := (HX.out.keep HX.out.ok h3).abs.frozen
 have d3 := (HX.out.keep HX.out.ok h3).neg.cell
 have d4 := (HX.out.keep HX.out.ok h3).neg.frozen
 have hm := Yb.made HX.out h1 h2 h3 h4 (v := (x : Int)) (by omega)
 rw [decide_eq_false (by omega : ¬ (x : Int) < 0)] at hm
 have HM := Qq hm
 clear h1 h2 h3 h4 c1 c2 c3 c4 hm
 go_wp2_with fail
 go_ret
 exact ⟨rfl, HM.out⟩
end Go.Proofs.YthkklkjldpcbkaaGreatDoor
