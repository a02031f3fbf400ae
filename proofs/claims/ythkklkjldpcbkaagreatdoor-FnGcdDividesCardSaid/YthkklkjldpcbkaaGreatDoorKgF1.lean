/- For the claim of laws.FnGcdDivides: BitLen, Lsh, SqrtM, Sqrt, ISqrt, Guard, Answer, ImplSqrt. -/
import Derived.Test.YthkklkjldpcbkaaGreatDoorKgD1
import Derived.Test.YthkklkjldpcbkaaGreatDoorKgA2
import Derived.Test.YthkklkjldpcbkaaGreatDoorKgD6
import Derived.Test.YthkklkjldpcbkaaGreatDoorKgA1
import Derived.Test.YthkklkjldpcbkaaGreatDoorKgC1
import Derived.Test.YthkklkjldpcbkaaGreatDoorKgD3
import Derived.WalkLawsBesides
import Derived.Test.YthkklkjldpcbkaaGreatDoorKgB2
import Derived.Recover
import Derived.Defers
import Derived.Test.YthkklkjldpcbkaaGreatDoorKgB4
set_option linter.unusedVariables false
set_option linter.unusedSimpArgs false
namespace Go.Proofs.YthkklkjldpcbkaaGreatDoor
open Go.RowKit
theorem NatRes.vec {w w1 w2 : World} {z : Loc} {need n b o c N : Nat} {rs : List Nat} (hF : From w z (Loc.mk1 b o c) n) (hc : n ≤ c) (hO : (Loc.mk1 b o c).Ok w1) (u1 : Upd NoF w w1) (u2 : Upd (Rg b o (o + n)) w1 w2)
  (hR : U64 w2 b o rs) (hl : rs.length = n) (hD : Digs B64 rs) (hv : val B64 rs = N) (hneed : n = need) : NatRes w z need N (.returned (.slice (some ⟨b, o, none⟩) (digs N).length c)) w2 := by
 subst hv
 exact NatRes.made (need := need) hF (by omega) (fun h => by omega) u1 u2 ⟨hO.upd u2, Nat.le_trans (digs_len_le hD) (by rw [hl]; exact hc), by rw [digs_eq_take hD]; exact hR.take _, digs_digs _⟩ hneed
end Go.Proofs.YthkklkjldpcbkaaGreatDoor
namespace Go.Proofs.YthkklkjldpcbkaaGreatDoor
def IsRoot (x r : Nat) : Prop := r * r ≤ x ∧ x < (r + 1) * (r + 1)
theorem IsRoot.le {x r : Nat} (h : IsRoot x r) : r ≤ x := by
 rcases Nat.eq_zero_or_pos r with h0 | h0
 · omega
 ·
  have := Nat.mul_le_mul_left r h0
  rw [Nat.mul_one] at this
  exact Nat.le_trans this h.1
def BitI (a out i : Nat) : Prop := out * out ≤ a ∧ a < (out + 2 ^ i) * (out + 2 ^ i)
theorem BitI.start {a b : Nat} (h : a < 2 ^ b) : BitI a 0 ((b + 1) / 2 + 1) := by
 refine ⟨by omega, ?_⟩
 have h1 : 2 ^ b ≤ 2 ^ ((b + 1) / 2 + 1) * 2 ^ ((b + 1) / 2 + 1) := by
  rw [← Nat.pow_add]
  exact Nat.pow_le_pow_right (by omega) (by omega)
 rw [Nat.zero_add]; omega
theorem BitI.set {a out i : Nat} (h : BitI a out (i + 1)) (hc : (out + 2 ^ i) * (out + 2 ^ i) ≤ a) : BitI a (out + 2 ^ i) i := by
 refine ⟨hc, ?_⟩
 have := h.2
 rwa [Nat.pow_succ, show out + 2 ^ i * 2 = out + 2 ^ i + 2 ^ i by omega] at this
theorem BitI.skip {a out i : Nat} (h : BitI a out (i + 1)) (hc : a < (out + 2 ^ i) * (out + 2 ^ i)) : BitI a out i := ⟨h.1, hc⟩
theorem BitI.end_ {a out : Nat} (h : BitI a out 0) : IsRoot a out := h
theorem IsRoot.pos {x r : Nat} (h : IsRoot x r) (hx : 1 ≤ x) : 1 ≤ r := by
 rcases Nat.eq_zero_or_pos r with h0 | h0
 · subst h0; have := h.2; omega
 · exact h0
end Go.Proofs.YthkklkjldpcbkaaGreatDoor
namespace Go.Proofs.YthkklkjldpcbkaaGreatDoor
open Go.RowKit
def NatOne (w : World) : Prop := ∃ lo : Loc, CellT 56 w 1 0 (.slice lo.A 1 lo.c) ∧ NatR w lo 1
structure SqI (w0 w : World) (x z1 z2 : Loc) (X Z1 Z2 sb : Nat) (J : SI) : Prop where
 up : Upd NoF w0 w
 v1 : NatV w z1 Z1
 v2 : NatV w z2 Z2
 ap : Apart z1 z2
 n1 : z1.c = 0 ∨ w0.heap.size ≤ z1.b
 n2 : z2.c = 0 ∨ w0.heap.size ≤ z2.b
 st : StkV w sb 0 J
 sb0 : w0.heap.size ≤ sb
 k : ∀ n b i, J.K sb n b i → w0.heap.size ≤ b
 o1 : Off J sb 0 z1
 o2 : Off J sb 0 z2
theorem SqI.old {w0 w : World} {x z1 z2 : Loc} {X Z1 Z2 sb : Nat} {J : SI} (h : SqI w0 w x z1 z2 X Z1 Z2 sb J) {l : Loc} {N : Nat} (hl : NatV w0 l N) : NatV w l N := hl.upd0 h.up
theorem SqI.off {w0 w : World} {x z1 z2 : Loc} {X Z1 Z2 sb : Nat} {J : SI} (h : SqI w0 w x z1 z2 X Z1 Z2 sb J) {l : Loc} (hl : l.Ok w0) : Off J sb 0 l := fun i hi k => by
 have h1 := h.k _ _ _ k
 have h2 := (hl.free (by omega)).lt
 omega
theorem SqI.swap {w0 w : World} {x z1 z2 : Loc} {X Z1 Z2 sb : Nat} {J : SI} (h : SqI w0 w x z1 z2 X Z1 Z2 sb J) : SqI w0 w x z2 z1 X Z2 Z1 sb J :=
 ⟨h.up, h.v2, h.v1, h.ap.symm, h.n2, h.n1, h.st, h.sb0, h.k, h.o2, h.o1⟩
theorem SqI.put {w0 w w' : World} {x z1 z2 r : Loc} {X Z1 Z2 sb N need : Nat} {J : SI} (h : SqI w0 w x z1 z2 X Z1 Z2 sb J) (hr : r = z2 ∨ w.heap.size ≤ r.b) (u : Upd (ZF z2 need) w w') (hv : NatV w' r N) : SqI w0 w' x z1 r X Z1 N sb J := by
 have hz1 : ∀ i, i < z1.c → ¬ ZF z2 need z1.b (z1.o + i) := fun i hi => h.ap.symm.zf hi
 have hs := h.up.size
 refine ⟨h.up.then u (fun _ _ _ k => k) ?_, h.v1.upd u (fun i hi k => hz1 i (Nat.lt_of_lt_of_le hi h.v1.le) k), hv, ?_, h.n1, ?_, h.st.upd u (fun b i k => h.o2.zf b i k), h.sb0, h.k, h.o1, ?_⟩
 ·
  rintro b i hb ⟨k1, k2, k3, k4⟩
  rcases h.n2 with h2 | h2 <;> omega
 ·
  rcases hr with rfl | hr
  · exact h.ap
  · exact Apart.new h.v1.ok hr
 ·
  rcases hr with rfl | hr
  · exact h.n2
  · exact Or.inr (by omega)
 ·
  rcases hr with rfl | hr
  · exact h.o2
  · exact Off.new h.st hr
theorem SqI.upd0 {w0 w w' : World} {x z1 z2 : Loc} {X Z1 Z2 sb : Nat} {J : SI} (h : SqI w0 w x z1 z2 X Z1 Z2 sb J) (u : Upd NoF w w') : SqI w0 w' x z1 z2 X Z1 Z2 sb J :=
 ⟨h.up.trans u, h.v1.upd0 u, h.v2.upd0 u, h.ap, h.n1, h.n2, h.st.upd0 u, h.sb0, h.k, h.o1, h.o2⟩
end Go.Proofs.YthkklkjldpcbkaaGreatDoor
namespace Go.Proofs.YthkklkjldpcbkaaGreatDoor
open Go.RowKit
set_option maxRecDepth 100000 in
theorem idle (p : Addr) (b : Value) (w : World) (hc : w.cell? p = some b) (hz : w.frozen? p = false) :
  CallsD Tryz.prog 58 #[.pointer (some p)] .returning w fun e u' w' => e = .returned (.tuple #[]) ∧ u' = .returning ∧ w' = w.setCell p (.bool false) := by
 refine callsD_of_wpS Tryz.func58 rfl fun c₀ cs hu => ?_
 apply wpS_region
 simp [wpOpsS, go_sem, recoverD, hu, Tryz.ntmps58, hc, hz, bodyPostS, results, Tryz.results58]
 cases c₀
 simp_all
theorem RdU.one {w : World} {g i : Nat} {v x : Value} {A : Option Addr} {xs : List Nat} (h : RdU w A xs) (c0 : w.cell? ⟨g, i, none⟩ = some v) (n1 : ∀ k, v ≠ .int .u64 k) : RdU (w.setCell ⟨g, i, none⟩ x) A xs := fun h0 => by
 obtain ⟨ad, rfl, hcell⟩ := h h0
 refine ⟨ad, rfl, fun j hj => ?_⟩
 have h1 := hcell j hj
 have h8 : (⟨g, i, none⟩ : Addr) ≠ ad.add j := fun e => by rw [← e, c0] at h1; exact n1 _ (Option.some.inj h1)
 rw [World.cell?_setCell_other _ _ _ _ h8]
 exact h1
def Gd (g : Nat) (w w' : World) : Prop := Upd (Blk g) w w' ∧ ∀ A xs, RdU w A xs → RdU w' A xs
theorem Gd.set {g : Nat} {w w' : World} {b x : Value} (h : Gd g w w') (c : w'.cell? ⟨g, 0, none⟩ = some b) (n : ∀ k, b ≠ .int .u64 k) : Gd g w (w'.setCell ⟨g, 0, none⟩ x) :=
 ⟨h.1.setCell (fun _ => rfl) _, fun A xs k => (h.2 A xs k).one c n⟩
theorem Gd.refl (g : Nat) (w : World) : Gd g w w := ⟨Upd.refl _ _, fun _ _ h => h⟩
@[reducible] def gW (w : World) : World := w.alloc (.cells #[.bool false] 4)
set_option maxRecDepth 100000 in
theorem guarded_ret (f : FuncId) (cap : Array Value) (w : World) (F : Nat → Nat → Prop) (Q : World → Prop) (hF : ¬ F w.heap.size 0) (hcf : ∀ w, (callFunc f cap).run Tryz.prog w = .ok (.enter f cap) w)
  (h : Calls Tryz.prog f cap (gW w) fun e w' => e = .returned (.tuple #[]) ∧ Upd F (gW w) w' ∧ Q w') :
  Calls Tryz.prog 39 #[.func (Fn.func f) #[] cap] w fun e w' => e = .returned (.bool false) ∧ ∃ w1, Q w1 ∧ Upd F (gW w) w1 ∧ Gd w.heap.size w1 w' := by
 have hmf : ∀ (fn : Fn) (first cap : Array Value) (w : World), (Instr.makeFunc fn first cap).run Tryz.prog w = .ok (.func fn first cap) w := fun _ _ _ _ => rfl
 go_enter_defers Tryz.func39, Tryz.ntmps39
 go_wp2_with fail
 refine h.mono ?_
 rintro e w1 ⟨rfl, hU, hQ⟩
 have cb : CellT 4 w1 w.heap.size 0 (.bool false) := CellT.upd ⟨_, heap_alloc_new w _, by simp⟩ hU hF
 have c1 := cb.cell
 have c2 := cb.frozen
 have d1 := (cb.set (.bool false)).cell
 have d2 := (cb.set (.bool false)).frozen
 have d3 := ((cb.set (.bool false)).set (.bool false)).cell
 have HQ := Lib.hid (And.intro hQ hU)
 clear hQ hU cb h
 go_wp2_with fail
 refine leaves_cons (f := 58) (args := #[.pointer (some ⟨w.heap.size, 0, none⟩)]) (by simp) (by simp [go_sem]) ?_
 refine (idle ⟨w.heap.size, 0, none⟩ _ _ d1 d2).mono ?_
 rintro e u' w2 ⟨rfl, rfl, rfl⟩
 refine ⟨.bool false, ?_, rfl, w1, HQ.out.1, HQ.out.2, ((Gd.refl _ _).set c1 (fun _ h => by cases h)).set d1 (fun _ h => by cases h)⟩
 simp [results, Tryz.results39, go_sem, d3]
end Go.Proofs.YthkklkjldpcbkaaGreatDoor
namespace Go.Proofs.YthkklkjldpcbkaaGreatDoor
open Go.RowKit
structure BoxF (w w4 : World) (g : Nat) (fv : Value) : Prop where
 up : Upd NoF w w4
 size : w4.heap.size = g + 4
 f : CellT 71 w4 g 0 fv
 r0 : CellT 24 w4 (g + 1) 0 (.bool false)
 r1 : CellT 24 w4 (g + 1) 1 (.slice none 0 0)
 o0 : CellT 24 w4 (g + 2) 0 (.bool false)
 o1 : CellT 24 w4 (g + 2) 1 (.slice none 0 0)
 c : CellT 3 w4 (g + 3) 0 (.int .i64 0)
theorem BoxF.upd {w w4 : World} {g : Nat} {fv : Value} (h : BoxF w w4 g fv) (w5 : World) (u : Upd NoF w4 w5) (hs : w5.heap.size = g + 4) : BoxF w w5 g fv :=
 ⟨h.up.trans u, hs, h.f.upd u (fun h => h), h.r0.upd u (fun h => h), h.r1.upd u (fun h => h), h.o0.upd u (fun h => h), h.o1.upd u (fun h => h), h.c.upd u (fun h => h)⟩
end Go.Proofs.YthkklkjldpcbkaaGreatDoor
namespace Go.Proofs.YthkklkjldpcbkaaGreatDoor
open Go.RowKit
theorem NatOne.upd {w w' : World} (h : NatOne w) (u : Upd NoF w w') : NatOne w' := by
 obtain ⟨lo, h1, h2⟩ := h
 exact ⟨lo, h1.upd u (fun h => h), h2.upd u (fun _ _ h => h)⟩
end Go.Proofs.YthkklkjldpcbkaaGreatDoor
