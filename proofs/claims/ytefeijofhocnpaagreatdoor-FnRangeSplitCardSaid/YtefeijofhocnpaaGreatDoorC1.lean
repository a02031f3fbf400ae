/- For the claim of laws.FnRange: Range, RangeI, ImplRange. -/
import Derived.Test.YtefeijofhocnpaaGreatDoorB2
import Derived.Test.YtefeijofhocnpaaGreatDoorB5
set_option linter.unusedVariables false
set_option linter.unusedSimpArgs false
/- nat.setUint64, Int.SetInt64 (of a natural number), nat.mulRange. -/
namespace Go.Proofs.YtefeijofhocnpaaGreatDoor
open Go.RowKit

/-- the product of n numbers from a on -/
def rng (a : Nat) : Nat → Nat
  | 0 => 1
  | n + 1 => rng a n * (a + n)
theorem rng_one (a : Nat) : rng a 1 = a := by show 1 * (a + 0) = a; omega
theorem rng_two (a : Nat) : rng a 2 = a * (a + 1) := by show 1 * (a + 0) * (a + 1) = _; rw [Nat.one_mul]; rfl
theorem rng_add (a m : Nat) : ∀ n, rng a (m + n) = rng a m * rng (a + m) n
  | 0 => (Nat.mul_one _).symm
  | n + 1 => by show rng a (m + n) * (a + (m + n)) = rng a m * (rng (a + m) n * (a + m + n)); rw [rng_add a m n, Nat.mul_assoc, Nat.add_assoc]
theorem rng_ne (a : Nat) (h : 1 ≤ a) : ∀ n, rng a n ≠ 0
  | 0 => by show (1 : Nat) ≠ 0; omega
  | n + 1 => Nat.mul_ne_zero (rng_ne a h n) (by omega)
theorem rng_le (a : Nat) : ∀ n, a + n ≤ B64 → rng a n ≤ B64 ^ n
  | 0, _ => Nat.le_refl _
  | n + 1, h => by rw [Nat.pow_succ]; exact Nat.mul_le_mul (rng_le a n (by omega)) (by omega)
theorem rng_digs (a n : Nat) (h : a + n < B64) : (digs (rng a (n + 1))).length ≤ n + 1 := by
  refine digs_len_of_lt ?_
  rw [Nat.pow_succ]
  exact Nat.lt_of_le_of_lt (Nat.mul_le_mul_right _ (rng_le a n (by omega))) ((Nat.mul_lt_mul_left (Nat.pow_pos B64_pos)).2 h)

/-- nowhere -/
@[reducible] def nilL : Loc := ⟨none, 0, 0, 0⟩
theorem nilL_ok (w : World) : nilL.Ok w := Loc.Ok.nil w 0 0
theorem nilL_rel (x : Loc) : Rel nilL x := Or.inr (Or.inl rfl)
theorem ZF.nil {k b i : Nat} (h : ZF nilL k b i) : NoF b i := by obtain ⟨_, h2, _, h4⟩ := h; simp only at h2 h4; omega

theorem setUint64_any (z : Loc) (nz x : Nat) (w : World) (hz : z.Ok w) (hx : x < B64) :
    Calls Tryz.prog 103 #[.slice z.A nz z.c, .int .u64 (x : Int)] w fun e w' => NatRes w z 1 x e w' := by
  have HW := Lib.hid (setWord_any z nz x w hz hx)
  have hx' : (x : Int) < 18446744073709551616 := by rw [B64_eq] at hx; omega
  clear hx
  go_enter Tryz.func103, Tryz.ntmps103
  go_wp2_with fail
  refine HW.out.mono ?_
  rintro e w1 ⟨r, rfl, h⟩
  have HH := Lib.hid h
  clear h
  go_wp2_with fail
  go_ret
  exact ⟨r, rfl, HH.out⟩

set_option maxRecDepth 1000000 in
theorem SetInt64_any (zb x : Nat) (lz : Loc) (s : Bool) (nz : Nat) (w : World) (hz : IntD w zb lz s nz) (hx : x < 9223372036854775808) :
    Calls Tryz.prog 77 #[.pointer (some ⟨zb, 0, none⟩), .int .i64 (x : Int)] w fun e w' => e = .returned (.pointer (some ⟨zb, 0, none⟩)) ∧ IntRes w zb lz 1 (x : Int) w' := by
  have c1 := hz.neg.cell
  have c2 := hz.neg.frozen
  have c3 := hz.abs.cell
  have c4 := hz.abs.frozen
  have HS := Lib.hid (setUint64_any lz nz x w hz.ok (by rw [B64_eq]; omega))
  have HX := Lib.hid hz
  have q1 : ¬ (x : Int) < 0 := by omega
  have q2 : (0 : Int) ≤ (x : Int) := by omega
  clear hz
  go_enter Tryz.func77, Tryz.ntmps77
  go_wp2_with fail
  refine HS.out.mono ?_
  rintro e w1 ⟨r, rfl, h1, h2, h3, h4⟩
  have d1 := (HX.out.keep HX.out.ok h3).abs.cell
  have d2 := (HX.out.keep HX.out.ok h3).abs.frozen
  have d3 := (HX.out.keep HX.out.ok h3).neg.cell
  have d4 := (HX.out.keep HX.out.ok h3).neg.frozen
  have hm := IntRes.made HX.out h1 h2 h3 h4 (v := (x : Int)) (by omega)
  rw [decide_eq_false (by omega : ¬ (x : Int) < 0)] at hm
  have HM := Lib.hid hm
  clear h1 h2 h3 h4 c1 c2 c3 c4 hm
  go_wp2_with fail
  go_ret
  exact ⟨rfl, HM.out⟩

/-- what mulRange has left: the number N in a place of its own -/
def RngPost (w : World) (N sb ns : Nat) (J : SI) (e : Ending) (w' : World) : Prop :=
  ∃ (r : Loc) (J' : SI), e = .returned (.slice r.A (digs N).length r.c) ∧ (0 < r.c → w.heap.size ≤ r.b) ∧ NatV w' r N ∧ StkV w' sb ns J' ∧ SI.Le w sb J J' ∧ Off J' sb ns r ∧ Upd (J.K sb ns) w w'
/-- the same without a stack -/
def RngPost0 (w : World) (N : Nat) (e : Ending) (w' : World) : Prop :=
  ∃ r : Loc, e = .returned (.slice r.A (digs N).length r.c) ∧ (0 < r.c → w.heap.size ≤ r.b) ∧ NatV w' r N ∧ Upd NoF w w'

theorem NatRes.rng {w w' : World} {k N : Nat} {e : Ending} (h : NatRes w nilL k N e w') : RngPost0 w N e w' := by
  obtain ⟨r, h1, h2, h3, h4, h5⟩ := h
  exact ⟨r, h1, fun h0 => h2.elim (fun h => by subst h; exact absurd h0 (Nat.lt_irrefl 0)) id, h5, h4.mono (fun _ _ _ h => ZF.nil h)⟩
theorem RngPost0.stk {w w' : World} {N sb ns : Nat} {J : SI} {e : Ending} (h : RngPost0 w N e w') (hs : StkV w sb ns J) : RngPost w N sb ns J e w' := by
  obtain ⟨r, h1, h2, h3, h4⟩ := h
  exact ⟨r, J, h1, h2, h3, hs.upd0 h4, SI.Le.refl _ _ _, fun i hi => Off.new hs (h2 (by omega)) i hi, h4.mono (fun _ _ _ h => h.elim)⟩
theorem MulPost.rng {w w' : World} {k N sb ns : Nat} {J : SI} {R : Prop} {e : Ending} (h : MulPost w nilL R k N sb ns J e w') : RngPost w N sb ns J e w' := by
  obtain ⟨r, rs, J', h1, h2, h3, h4, h5, h6, h7, h8, h9, h10, h11, h12, h13⟩ := h
  refine ⟨r, J', h1, fun h0 => h2.elim (fun h => by subst h; exact absurd h0 (Nat.lt_irrefl 0)) id, ?_, h11, h12, h13, h10.mono (fun b i _ h => h.elim (fun h => (ZF.nil h).elim) id)⟩
  have hv := (show VecV w' r rs from ⟨h9, h5, h6, h7⟩).norm
  rwa [h8] at hv
theorem MulRes.rng {w w' : World} {k N : Nat} {R : Prop} {e : Ending} (h : MulRes w nilL R k N NoF e w') : RngPost0 w N e w' := by
  obtain ⟨r, rs, h1, h2, h3, h4, h5, h6, h7, h8, h9, h10⟩ := h
  refine ⟨r, h1, fun h0 => h2.elim (fun h => by subst h; exact absurd h0 (Nat.lt_irrefl 0)) id, ?_, h10.mono (fun b i _ h => h.elim (fun h => ZF.nil h) id)⟩
  have hv := (show VecV w' r rs from ⟨h9, h5, h6, h7⟩).norm
  rwa [h8] at hv

set_option maxRecDepth 1000000 in
theorem mulRange_one (S : Value) (a : Nat) (w : World) (h0 : 1 ≤ a) (hb : a < B64) :
    Calls Tryz.prog 78 #[.slice none 0 0, S, .int .u64 (a : Int), .int .u64 (a : Int)] w fun e w' => RngPost0 w a e w' := by
  have HS := Lib.hid ((setUint64_any nilL 0 a w (nilL_ok w) hb).mono (fun _ _ h => NatRes.rng h))
  have q1 : ((a : Int) == 0) = false := beq_eq_false_iff_ne.2 (by omega)
  have q2 : ¬ (a : Int) < (a : Int) := by omega
  have q3 : decide (a < a) = false := decide_eq_false (by omega)
  clear hb
  go_enter Tryz.func78, Tryz.ntmps78
  go_wp2_with fail
  refine HS.out.mono ?_
  rintro e w1 ⟨r, rfl, h⟩
  have HH := Lib.hid h
  clear h
  go_wp2_with fail
  go_ret
  exact ⟨r, rfl, HH.out⟩

set_option maxRecDepth 1000000 in
/-- two numbers, whatever the product asks of the stack -/
theorem mulRange_two (S : Value) (a b : Nat) (w : World) (h0 : 1 ≤ a) (hb : b = a + 1) (hb2 : b < B64) (Q : Loc → World → Prop)
    (HM : ∀ (w' : World) (x y : Loc), Upd NoF w w' → NatV w' x a → NatV w' y b → (0 < x.c → w.heap.size ≤ x.b) → (0 < y.c → w.heap.size ≤ y.b) →
      Calls Tryz.prog 92 #[.slice none 0 0, S, .slice x.A (digs a).length x.c, .slice y.A (digs b).length y.c] w' fun e w'' => ∃ r : Loc, e = .returned (.slice r.A (digs (a * b)).length r.c) ∧ Q r w'') :
    Calls Tryz.prog 78 #[.slice none 0 0, S, .int .u64 (a : Int), .int .u64 (b : Int)] w fun e w'' => ∃ r : Loc, e = .returned (.slice r.A (digs (a * b)).length r.c) ∧ Q r w'' := by
  have HS := Lib.hid ((setUint64_any nilL 0 a w (nilL_ok w) (by omega)).mono (fun _ _ h => NatRes.rng h))
  have HS2 := Lib.hid (fun w' => (setUint64_any nilL 0 b w' (nilL_ok w') hb2).mono (fun _ _ h => NatRes.rng h))
  have HM := Lib.hid HM
  have q1 : ((a : Int) == 0) = false := beq_eq_false_iff_ne.2 (by omega)
  have q2 : ¬ (b : Int) < (a : Int) := by omega
  have q3 : decide (b < a) = false := decide_eq_false (by omega)
  have q4 : ((a : Int) == (b : Int)) = false := beq_eq_false_iff_ne.2 (by omega)
  have q5 : IntKind.u64.wrap ((a : Int) + 1) = (b : Int) := by rw [IntKind.wrap_u64]; rw [B64_eq] at hb2; omega
  have q6 : ((a : Int) + 1) % 18446744073709551616 = (b : Int) := by rw [B64_eq] at hb2; omega
  clear hb2 hb
  go_enter Tryz.func78, Tryz.ntmps78
  go_wp2_with fail
  refine HS.out.mono ?_
  rintro e w1 ⟨x, rfl, x1, x2, x3⟩
  have HX := Lib.hid (And.intro x1 (And.intro x2 x3))
  clear x1 x2 x3
  go_wp2_with fail
  refine (HS2.out w1).mono ?_
  rintro e w2 ⟨y, rfl, y1, y2, y3⟩
  have HY := Lib.hid (And.intro y1 (And.intro y2 y3))
  clear y1 y2 y3
  go_wp2_with fail
  have hs := HX.out.2.2.size
  refine (HM.out w2 x y (HX.out.2.2.trans HY.out.2.2) (HX.out.2.1.upd0 HY.out.2.2) HY.out.2.1 HX.out.1 (fun h => by have := HY.out.1 h; omega)).mono ?_
  rintro e w3 ⟨r, rfl, h⟩
  have HH := Lib.hid h
  clear h
  go_wp2_with fail
  go_ret
  exact ⟨r, rfl, HH.out⟩

/-- two numbers of the stack's, multiplied -/
theorem rng_join {T : Int} {w w1 w2 : World} {N1 N2 sb ns : Nat} {J J1 J2 : SI} {r1 r2 : Loc} (hT : Thr w T)
    (a3 : NatV w1 r1 N1) (a5 : SI.Le w sb J J1) (a6 : Off J1 sb ns r1) (a7 : Upd (J.K sb ns) w w1) (a8 : StkV w sb ns J) (a9 : StkV w1 sb ns J1)
    (b3 : NatV w2 r2 N2) (b4 : StkV w2 sb ns J2) (b5 : SI.Le w1 sb J1 J2) (b6 : Off J2 sb ns r2) (b7 : Upd (J1.K sb ns) w1 w2)
    (hG : ns + G ((digs N1).length + (digs N2).length) ≤ 1099511627776) :
    Calls Tryz.prog 92 #[.slice none 0 0, .pointer (some ⟨sb, 0, none⟩), .slice r1.A (digs N1).length r1.c, .slice r2.A (digs N2).length r2.c] w2 fun e w' => RngPost w (N1 * N2) sb ns J e w' := by
  have hv1 : NatV w2 r1 N1 := a3.upd b7 (fun i hi => a6 i (Nat.lt_of_lt_of_le hi a3.le))
  have hT1 : Thr w1 T := hT.upd a7 (a8.no hT (by decide) (by decide) (by decide))
  have hT2 : Thr w2 T := hT1.upd b7 (a9.no hT1 (by decide) (by decide) (by decide))
  have u12 : Upd (J.K sb ns) w w2 := a7.then b7 (fun _ _ _ h => h) (fun b i hb h => a5 _ b i hb h)
  have hL : SI.Le w sb J J2 := a5.trans b5 a7.size
  refine (mul_stk T _ _ nilL r1 r2 0 sb ns J2 (digs N1) (digs N2) w2 (nilL_ok w2) hv1 b3 rfl rfl (nilL_rel r1) (nilL_rel r2) hT2 b4 (fun i hi => absurd hi (Nat.not_lt_zero i)) (a6.le a3.ok b5) b6 hG).mono ?_
  intro e w' h
  rw [val_digs, val_digs] at h
  obtain ⟨r, J', h1, h2, h3, h4, h5, h6, h7⟩ := h.rng
  exact ⟨r, J', h1, fun h0 => by have := h2 h0; have := a7.size; have := b7.size; omega, h3, h4, hL.trans h5 u12.size, h6, u12.then h7 (fun _ _ _ h => h) (fun b i hb h => hL _ b i hb h)⟩

/-- what is asked of mulRange with a stack, of d + 1 numbers -/
def RngSpec (T : Int) (d : Nat) : Prop := ∀ (a b sb ns : Nat) (J : SI) (w : World), b = a + d → 1 ≤ a → b < B64 → Thr w T → StkV w sb ns J → ns + G (d + 1) ≤ 1099511627776 →
  Calls Tryz.prog 78 #[.slice none 0 0, .pointer (some ⟨sb, 0, none⟩), .int .u64 (a : Int), .int .u64 (b : Int)] w fun e w' => RngPost w (rng a (d + 1)) sb ns J e w'

set_option maxRecDepth 1000000 in
set_option maxHeartbeats 1600000 in
theorem mulRange_more (T : Int) (d : Nat) (hd : 2 ≤ d) (IH1 : RngSpec T (d / 2)) (IH2 : RngSpec T (d - d / 2 - 1)) : RngSpec T d := by
  intro a b sb ns J w hb h0 hb2 hT hS hG
  have hB : b < 18446744073709551616 := hb2
  have g1 : ns + G (d / 2 + 1) ≤ 1099511627776 := Nat.le_trans (Nat.add_le_add_left (G_mono (by omega)) _) hG
  have g2 : ns + G (d - d / 2 - 1 + 1) ≤ 1099511627776 := Nat.le_trans (Nat.add_le_add_left (G_mono (by omega)) _) hG
  have g3 : a + d / 2 < B64 := Nat.lt_of_le_of_lt (by omega) hb2
  have g4 : a + d / 2 + 1 + (d - d / 2 - 1) < B64 := Nat.lt_of_le_of_lt (by omega) hb2
  have H1 := Lib.hid (IH1 a (a + d / 2) sb ns J w rfl h0 g3 hT hS g1)
  have H2 := Lib.hid (fun J1 w1 hT1 hS1 => IH2 (a + d / 2 + 1) b sb ns J1 w1 (by omega) (by omega) hb2 hT1 hS1 g2)
  have hN : rng a (d + 1) = rng a (d / 2 + 1) * rng (a + d / 2 + 1) (d - d / 2 - 1 + 1) := by
    have := rng_add a (d / 2 + 1) (d - d / 2 - 1 + 1)
    rw [show d / 2 + 1 + (d - d / 2 - 1 + 1) = d + 1 by omega] at this
    exact this
  have l1 := rng_digs a (d / 2) g3
  have l2 := rng_digs (a + d / 2 + 1) (d - d / 2 - 1) g4
  rw [hN]
  have HG := Lib.hid (show ns + G ((digs (rng a (d / 2 + 1))).length + (digs (rng (a + d / 2 + 1) (d - d / 2 - 1 + 1))).length) ≤ 1099511627776 from Nat.le_trans (Nat.add_le_add_left (G_mono (by omega)) _) hG)
  have HT := Lib.hid (And.intro hT hS)
  generalize rng a (d / 2 + 1) = N1 at *
  generalize rng (a + d / 2 + 1) (d - d / 2 - 1 + 1) = N2 at *
  have q1 : ((a : Int) == 0) = false := beq_eq_false_iff_ne.2 (by omega)
  have q2 : ¬ (b : Int) < (a : Int) := by omega
  have q3 : decide (b < a) = false := decide_eq_false (by omega)
  have q4 : ((a : Int) == (b : Int)) = false := beq_eq_false_iff_ne.2 (by omega)
  have q5 : IntKind.u64.wrap ((a : Int) + 1) = (a : Int) + 1 := by rw [IntKind.wrap_u64]; omega
  have q6 : ((a : Int) + 1 == (b : Int)) = false := beq_eq_false_iff_ne.2 (by omega)
  have q7 : IntKind.u64.wrap ((b : Int) - (a : Int)) = (d : Int) := by rw [IntKind.wrap_u64]; omega
  obtain ⟨m, hm⟩ : ∃ m, a + d / 2 = m := ⟨_, rfl⟩
  rw [hm] at H1 H2
  have q8 : IntKind.u64.wrap ((a : Int) + (d : Int) / 2) = (m : Int) := by rw [IntKind.wrap_u64]; omega
  have q11 : IntKind.u64.wrap ((d : Int) / 2) = (d : Int) / 2 := by rw [IntKind.wrap_u64]; omega
  have q9 : IntKind.u64.wrap ((m : Int) + 1) = (m : Int) + 1 := by rw [IntKind.wrap_u64]; omega
  have q10 : ((m + 1 : Nat) : Int) = (m : Int) + 1 := by omega
  rw [q10] at H2
  clear hN l1 l2 IH1 IH2 hb hb2 hB hG hT hS hm q10 g1 g2 g3 g4
  go_enter Tryz.func78, Tryz.ntmps78
  go_wp2_with fail
  refine H1.out.mono ?_
  rintro e w1 ⟨r1, J1, rfl, a2, a3, a4, a5, a6, a7⟩
  have HA := Lib.hid (And.intro a2 (And.intro a3 (And.intro a4 (And.intro a5 (And.intro a6 a7)))))
  clear a2 a3 a4 a5 a6 a7
  go_wp2_with fail
  have hT1 : Thr w1 T := HT.out.1.upd HA.out.2.2.2.2.2 (HT.out.2.no HT.out.1 (by decide) (by decide) (by decide))
  refine (H2.out J1 w1 hT1 HA.out.2.2.1).mono ?_
  clear hT1
  rintro e w2 ⟨r2, J2, rfl, b2, b3, b4, b5, b6, b7⟩
  have HJ := Lib.hid (rng_join HT.out.1 HA.out.2.1 HA.out.2.2.2.1 HA.out.2.2.2.2.1 HA.out.2.2.2.2.2 HT.out.2 HA.out.2.2.1 b3 b4 b5 b6 b7 HG.out)
  clear b2 b3 b4 b5 b6 b7
  go_wp2_with fail
  refine HJ.out.mono ?_
  rintro e w3 ⟨r, J3, rfl, h⟩
  have HH := Lib.hid h
  clear h
  go_wp2_with fail
  go_ret
  exact ⟨r, J3, rfl, HH.out⟩

theorem mulRange_stk (T : Int) (d : Nat) : RngSpec T d := by
  induction d using Nat.strongRecOn with
  | ind d ih =>
    by_cases h0 : d = 0
    · subst h0
      intro a b sb ns J w hb h1 hb2 hT hS hG
      obtain rfl : b = a := by omega
      rw [rng_one]
      exact (mulRange_one _ b w h1 hb2).mono (fun _ _ h => h.stk hS)
    by_cases h1 : d = 1
    · subst h1
      intro a b sb ns J w hb h1 hb2 hT hS hG
      rw [show rng a (1 + 1) = a * b from by rw [rng_two, hb]]
      have la : (digs a).length ≤ 1 := digs_len_of_lt (by rw [Nat.pow_one]; omega)
      have lb : (digs b).length ≤ 1 := digs_len_of_lt (by rw [Nat.pow_one]; omega)
      refine (mulRange_two _ a b w h1 hb hb2 (fun r w' => RngPost w (a * b) sb ns J (.returned (.slice r.A (digs (a * b)).length r.c)) w') ?_).mono (fun e w' ⟨r, he, h⟩ => by rw [he]; exact h)
      intro w' x y u hx hy bx b_y
      have hs := u.size
      have off : ∀ l : Loc, (0 < l.c → w.heap.size ≤ l.b) → Off J sb ns l := fun l hl i hi => Off.new hS (hl (by omega)) i hi
      refine (rng_join hT (w := w) (w1 := w') (w2 := w') (J := J) (J1 := J) (J2 := J) (r1 := x) (r2 := y) hx (SI.Le.refl _ _ _) (off x bx) (u.mono (fun _ _ _ h => h.elim)) hS (hS.upd0 u) hy (hS.upd0 u) (SI.Le.refl _ _ _) (off y b_y) (Upd.refl _ _) (Nat.le_trans (Nat.add_le_add_left (G_mono (by omega)) _) hG)).mono ?_
      rintro e w'' ⟨r, J', rfl, h⟩
      exact ⟨r, rfl, r, J', rfl, h⟩
    · exact mulRange_more T d (by omega) (ih _ (by omega)) (ih _ (by omega))

/-- behind the deferred free -/
theorem rng_free {w w1 w2 w3 : World} {N sb : Nat} {J' : SI} {r : Loc} (u1 : Upd NoF w w1) (hsb : w.heap.size ≤ sb) (h2 : 0 < r.c → w1.heap.size ≤ r.b) (h3 : NatV w2 r N) (h5 : SI.Le w1 sb .none J') (h6 : Off J' sb 0 r) (h7 : Upd (SI.none.K sb 0) w1 w2) (u3 : Upd (J'.K sb 0) w2 w3) :
    RngPost0 w N (.returned (.slice r.A (digs N).length r.c)) w3 := by
  have hs := u1.size
  have u2 : Upd NoF w w2 := u1.then h7 (fun _ _ _ h => h) (fun b i hb h => by have : b = sb := h; omega)
  refine ⟨r, rfl, fun h => by have := h2 h; omega, h3.upd u3 (fun i hi => h6 i (Nat.lt_of_lt_of_le hi h3.le)), u2.then u3 (fun _ _ _ h => h) (fun b i hb h => ?_)⟩
  have : b = sb := h5 _ b i (by omega) h
  omega

set_option maxRecDepth 1000000 in
set_option maxHeartbeats 1600000 in
theorem mulRange_more0 (T : Int) (a b d : Nat) (w : World) (hd : 2 ≤ d) (hb : b = a + d) (h0 : 1 ≤ a) (hb2 : b < B64) (hT : Thr w T) (hG : G (d + 1) ≤ 1099511627776) :
    Calls Tryz.prog 78 #[.slice none 0 0, .pointer none, .int .u64 (a : Int), .int .u64 (b : Int)] w fun e w' => RngPost0 w (rng a (d + 1)) e w' := by
  have hB : b < 18446744073709551616 := hb2
  have g1 : 0 + G (d / 2 + 1) ≤ 1099511627776 := by rw [Nat.zero_add]; exact Nat.le_trans (G_mono (by omega)) hG
  have g2 : 0 + G (d - d / 2 - 1 + 1) ≤ 1099511627776 := by rw [Nat.zero_add]; exact Nat.le_trans (G_mono (by omega)) hG
  have g3 : a + d / 2 < B64 := Nat.lt_of_le_of_lt (by omega) hb2
  have g4 : a + d / 2 + 1 + (d - d / 2 - 1) < B64 := Nat.lt_of_le_of_lt (by omega) hb2
  have H1 := Lib.hid (fun sb J w1 hT1 hS1 => mulRange_stk T (d / 2) a (a + d / 2) sb 0 J w1 rfl h0 g3 hT1 hS1 g1)
  have H2 := Lib.hid (fun sb J1 w1 hT1 hS1 => mulRange_stk T (d - d / 2 - 1) (a + d / 2 + 1) b sb 0 J1 w1 (by omega) (by omega) hb2 hT1 hS1 g2)
  have hN : rng a (d + 1) = rng a (d / 2 + 1) * rng (a + d / 2 + 1) (d - d / 2 - 1 + 1) := by
    have := rng_add a (d / 2 + 1) (d - d / 2 - 1 + 1)
    rw [show d / 2 + 1 + (d - d / 2 - 1 + 1) = d + 1 by omega] at this
    exact this
  have l1 := rng_digs a (d / 2) g3
  have l2 := rng_digs (a + d / 2 + 1) (d - d / 2 - 1) g4
  rw [hN]
  have HG := Lib.hid (show 0 + G ((digs (rng a (d / 2 + 1))).length + (digs (rng (a + d / 2 + 1) (d - d / 2 - 1 + 1))).length) ≤ 1099511627776 from by rw [Nat.zero_add]; exact Nat.le_trans (G_mono (by omega)) hG)
  have HT := Lib.hid hT
  generalize rng a (d / 2 + 1) = N1 at *
  generalize rng (a + d / 2 + 1) (d - d / 2 - 1 + 1) = N2 at *
  have q1 : ((a : Int) == 0) = false := beq_eq_false_iff_ne.2 (by omega)
  have q2 : ¬ (b : Int) < (a : Int) := by omega
  have q3 : decide (b < a) = false := decide_eq_false (by omega)
  have q4 : ((a : Int) == (b : Int)) = false := beq_eq_false_iff_ne.2 (by omega)
  have q5 : IntKind.u64.wrap ((a : Int) + 1) = (a : Int) + 1 := by rw [IntKind.wrap_u64]; omega
  have q6 : ((a : Int) + 1 == (b : Int)) = false := beq_eq_false_iff_ne.2 (by omega)
  have q7 : IntKind.u64.wrap ((b : Int) - (a : Int)) = (d : Int) := by rw [IntKind.wrap_u64]; omega
  obtain ⟨m, hm⟩ : ∃ m, a + d / 2 = m := ⟨_, rfl⟩
  rw [hm] at H1 H2
  have q8 : IntKind.u64.wrap ((a : Int) + (d : Int) / 2) = (m : Int) := by rw [IntKind.wrap_u64]; omega
  have q11 : IntKind.u64.wrap ((d : Int) / 2) = (d : Int) / 2 := by rw [IntKind.wrap_u64]; omega
  have q9 : IntKind.u64.wrap ((m : Int) + 1) = (m : Int) + 1 := by rw [IntKind.wrap_u64]; omega
  have q10 : ((m + 1 : Nat) : Int) = (m : Int) + 1 := by omega
  rw [q10] at H2
  clear hN l1 l2 hb hb2 hB hG hT hm q10 g1 g2 g3 g4
  go_enter_defers Tryz.func78, Tryz.ntmps78
  go_wp2_with fail
  refine (getStack_any w).mono ?_
  rintro e wS ⟨sb, rfl, hsb, uS, hS⟩
  have hT0 : Thr wS T := HT.out.upd uS (fun _ h => h)
  have HB := Lib.hid (And.intro hsb (And.intro uS (And.intro hS hT0)))
  clear hsb uS hS hT0
  go_wp2_with fail
  refine (H1.out sb .none wS HB.out.2.2.2 HB.out.2.2.1).mono ?_
  rintro e w1 ⟨r1, J1, rfl, a2, a3, a4, a5, a6, a7⟩
  have HA := Lib.hid (And.intro a2 (And.intro a3 (And.intro a4 (And.intro a5 (And.intro a6 a7)))))
  clear a2 a3 a4 a5 a6 a7
  go_wp2_with fail
  have hT1 : Thr w1 T := HB.out.2.2.2.upd HA.out.2.2.2.2.2 (HB.out.2.2.1.no HB.out.2.2.2 (by decide) (by decide) (by decide))
  refine (H2.out sb J1 w1 hT1 HA.out.2.2.1).mono ?_
  clear hT1
  rintro e w2 ⟨r2, J2, rfl, b2, b3, b4, b5, b6, b7⟩
  have HJ := Lib.hid (rng_join HB.out.2.2.2 HA.out.2.1 HA.out.2.2.2.1 HA.out.2.2.2.2.1 HA.out.2.2.2.2.2 HB.out.2.2.1 HA.out.2.2.1 b3 b4 b5 b6 b7 HG.out)
  clear b2 b3 b4 b5 b6 b7
  go_wp2_with fail
  refine HJ.out.mono ?_
  rintro e w3 ⟨r, J3, rfl, h⟩
  have HH := Lib.hid h
  clear h
  go_wp2_with fail
  refine leaves_cons (f := 105) (args := #[.pointer (some ⟨sb, 0, none⟩)]) (by simp) (by simp [go_sem]) ?_
  refine (free_d sb 0 J3 .returning w3 HH.out.2.2.1).mono ?_
  rintro e u' w4 ⟨rfl, rfl, hS4, hU4⟩
  refine ⟨_, results_tmp rfl _ _ _, ?_⟩
  exact rng_free HB.out.2.1 (by have := HB.out.1; omega) HH.out.1 HH.out.2.1 HH.out.2.2.2.1 HH.out.2.2.2.2.1 HH.out.2.2.2.2.2 hU4

theorem mulRange_top (T : Int) (a b d : Nat) (w : World) (hb : b = a + d) (h0 : 1 ≤ a) (hb2 : b < B64) (hT : Thr w T) (hG : G (d + 1) ≤ 1099511627776) :
    Calls Tryz.prog 78 #[.slice none 0 0, .pointer none, .int .u64 (a : Int), .int .u64 (b : Int)] w fun e w' => RngPost0 w (rng a (d + 1)) e w' := by
  by_cases hd0 : d = 0
  · subst hd0
    obtain rfl : b = a := by omega
    rw [rng_one]
    exact mulRange_one _ b w h0 hb2
  by_cases hd1 : d = 1
  · subst hd1
    rw [show rng a (1 + 1) = a * b from by rw [rng_two, hb]]
    have la : (digs a).length ≤ 1 := digs_len_of_lt (by rw [Nat.pow_one]; omega)
    have lb : (digs b).length ≤ 1 := digs_len_of_lt (by rw [Nat.pow_one]; omega)
    refine (mulRange_two _ a b w h0 hb hb2 (fun r w' => RngPost0 w (a * b) (.returned (.slice r.A (digs (a * b)).length r.c)) w') ?_).mono (fun e w' ⟨r, he, h⟩ => by rw [he]; exact h)
    intro w' x y u hx hy bx b_y
    have hs := u.size
    refine (mul_top T _ _ nilL x y 0 (digs a) (digs b) w' (nilL_ok w') hx hy rfl rfl (nilL_rel x) (nilL_rel y) (hT.upd u (fun _ h => h)) (Nat.le_trans (G_mono (by omega)) hG)).mono ?_
    intro e w'' h
    rw [val_digs, val_digs] at h
    obtain ⟨r, rfl, h1, h2, h3⟩ := h.rng
    exact ⟨r, rfl, r, rfl, fun h => by have := h1 h; omega, h2, u.trans h3⟩
  · exact mulRange_more0 T a b d w (by omega) hb h0 hb2 hT hG
end Go.Proofs.YtefeijofhocnpaaGreatDoor

/- Int.MulRange, impl.Range. -/
namespace Go.Proofs.YtefeijofhocnpaaGreatDoor
open Go.RowKit

theorem and_one_i64 (d : Nat) (h : d < 9223372036854775808) : bits .and .i64 (d : Int) 1 = ((d % 2 : Nat) : Int) := by
  show IntKind.i64.wrap ((BitVec.ofInt 64 (d : Int) &&& BitVec.ofInt 64 ((1 : Nat) : Int)).toNat : Int) = _
  rw [BitVec.toNat_and, ofInt_u64 d (by omega), ofInt_u64 1 (by omega)]
  have e : d &&& 1 = d % 2 := Nat.and_one_is_mod d
  rw [e]
  exact Lib.wrap_i64_small _ (by omega)

/-- the product of n whole numbers from a on -/
def irng (a : Int) : Nat → Int
  | 0 => 1
  | n + 1 => irng a n * (a + n)
theorem irng_pos (a : Nat) : ∀ n, irng a n = (rng a n : Int)
  | 0 => rfl
  | n + 1 => by show irng a n * ((a : Int) + n) = ((rng a n * (a + n) : Nat) : Int); rw [irng_pos a n]; push_cast; rfl
theorem irng_zero (a : Int) (ha : a ≤ 0) : ∀ n : Nat, 0 < a + n → irng a n = 0
  | 0, h => by omega
  | n + 1, h => by
    show irng a n * (a + n) = 0
    by_cases h0 : 0 < a + n
    · rw [irng_zero a ha n h0, Int.zero_mul]
    · rw [show a + (n : Int) = 0 by omega, Int.mul_zero]
theorem irng_neg : ∀ (n A : Nat), irng (-((A + n : Nat) : Int) + 1) n = (if n % 2 = 0 then 1 else -1) * (rng A n : Int)
  | 0, A => rfl
  | n + 1, A => by
    have ih := irng_neg n (A + 1)
    have e1 : -((A + 1 + n : Nat) : Int) + 1 = -((A + (n + 1) : Nat) : Int) + 1 := by omega
    rw [e1] at ih
    have h2 := rng_add A 1 n
    rw [rng_one, Nat.add_comm 1 n] at h2
    show irng (-((A + (n + 1) : Nat) : Int) + 1) n * (-((A + (n + 1) : Nat) : Int) + 1 + n) = _
    rw [ih, h2, show -((A + (n + 1) : Nat) : Int) + 1 + (n : Int) = -(A : Int) by omega]
    push_cast
    by_cases h : n % 2 = 0
    · rw [if_pos h, if_neg (by omega)]; grind
    · rw [if_neg h, if_pos (by omega)]; grind

/-- what a method leaves that has set a new Int -/
def NewInt (w : World) (zb : Nat) (v : Int) (w' : World) : Prop := ∃ l : Loc, IntV w' zb l v ∧ (0 < l.c → w.heap.size ≤ l.b) ∧ Upd (Blk zb) w w'
theorem IntRes.new {w w' : World} {zb k : Nat} {v : Int} (h : IntRes w zb nilL k v w') : NewInt w zb v w' := by
  obtain ⟨r, h1, _, h3, h4⟩ := h
  exact ⟨r, h4, fun h0 => h1.elim (fun h => by subst h; exact absurd h0 (Nat.lt_irrefl 0)) id, h3.mono (fun b i _ h => h.elim id (fun h => (ZF.nil h).elim))⟩

/-- the two stores behind a product -/
theorem RngPost0.made {w w1 : World} {zb N : Nat} {r : Loc} {v : Int} (hz : IntD w zb nilL false 0) (h : 0 < r.c → w.heap.size ≤ r.b) (hN : NatV w1 r N) (u : Upd NoF w w1) (hv : v.natAbs = N) :
    NewInt w zb v ((w1.setCell ⟨zb, 1, none⟩ (.slice r.A (digs N).length r.c)).setCell ⟨zb, 0, none⟩ (.bool (decide (v < 0)))) := by
  subst hv
  have hs := IntV.stored (v := v) (hz.upd u (fun _ h => h)) hN
  exact ⟨r, hs.1, h, u.then hs.2 (fun _ _ _ h => h.elim) (fun _ _ _ h => h)⟩

theorem MulRange_empty (zb : Nat) (a b : Int) (w : World) (hz : IntD w zb nilL false 0) (h : b < a) :
    Calls Tryz.prog 52 #[.pointer (some ⟨zb, 0, none⟩), .int .i64 a, .int .i64 b] w fun e w' => e = .returned (.pointer (some ⟨zb, 0, none⟩)) ∧ NewInt w zb 1 w' := by
  have HS := Lib.hid ((SetInt64_any zb 1 nilL false 0 w hz (by omega)).mono (fun _ _ ⟨he, h⟩ => And.intro he (IntRes.new h)))
  have q1 : decide (b < a) = true := decide_eq_true h
  clear hz
  go_enter Tryz.func52, Tryz.ntmps52
  go_wp2_with fail
  refine HS.out.mono ?_
  rintro e w1 ⟨rfl, h1⟩
  have HM := Lib.hid h1
  clear h1
  go_wp2_with fail
  go_ret
  exact ⟨rfl, HM.out⟩

theorem MulRange_zero (zb : Nat) (a b : Int) (w : World) (hz : IntD w zb nilL false 0) (h : ¬ b < a) (ha : a ≤ 0) (hb : 0 ≤ b) :
    Calls Tryz.prog 52 #[.pointer (some ⟨zb, 0, none⟩), .int .i64 a, .int .i64 b] w fun e w' => e = .returned (.pointer (some ⟨zb, 0, none⟩)) ∧ NewInt w zb 0 w' := by
  have HS := Lib.hid ((SetInt64_any zb 0 nilL false 0 w hz (by omega)).mono (fun _ _ ⟨he, h⟩ => And.intro he (IntRes.new h)))
  have q1 : decide (b < a) = false := decide_eq_false h
  have q2 : decide (a ≤ 0) = true := decide_eq_true ha
  have q3 : decide (0 ≤ b) = true := decide_eq_true hb
  clear hz
  go_enter Tryz.func52, Tryz.ntmps52
  go_wp2_with fail
  refine HS.out.mono ?_
  rintro e w1 ⟨rfl, h1⟩
  have HM := Lib.hid h1
  clear h1
  go_wp2_with fail
  go_ret
  exact ⟨rfl, HM.out⟩

set_option maxRecDepth 1000000 in
theorem MulRange_pos (T : Int) (zb a b d : Nat) (w : World) (hz : IntD w zb nilL false 0) (hT : Thr w T) (hb : b = a + d) (h0 : 1 ≤ a) (hb2 : b < 9223372036854775808) (hd : d ≤ 1000) :
    Calls Tryz.prog 52 #[.pointer (some ⟨zb, 0, none⟩), .int .i64 (a : Int), .int .i64 (b : Int)] w fun e w' => e = .returned (.pointer (some ⟨zb, 0, none⟩)) ∧ NewInt w zb (rng a (d + 1) : Nat) w' := by
  have hG : G (d + 1) ≤ 1099511627776 := Nat.le_trans (G_mono (b := 1001) (by omega)) (by decide)
  have HR := Lib.hid (mulRange_top T a b d w hb h0 (by rw [B64_eq]; omega) hT hG)
  have HZ := Lib.hid hz
  have c1 := hz.abs.cell
  have q1 : ¬ (b : Int) < (a : Int) := by omega
  have q2 : decide (b < a) = false := decide_eq_false (by omega)
  have q3 : ¬ (a : Int) ≤ 0 := by omega
  have q4 : decide ((a : Int) ≤ 0) = false := decide_eq_false (by omega)
  have q5 : ¬ (a : Int) < 0 := by omega
  have q6 : decide ((a : Int) < 0) = false := decide_eq_false (by omega)
  have q7 : IntKind.u64.wrap (a : Int) = (a : Int) := by rw [IntKind.wrap_u64]; omega
  have q8 : IntKind.u64.wrap (b : Int) = (b : Int) := by rw [IntKind.wrap_u64]; omega
  clear hz hG hb hb2 hd hT
  go_enter Tryz.func52, Tryz.ntmps52
  go_wp2_with fail
  refine HR.out.mono ?_
  rintro e w1 ⟨r, rfl, h1, h2, h3⟩
  have hz1 := HZ.out.upd h3 (fun _ h => h)
  have d1 := hz1.abs.cell
  have d2 := hz1.abs.frozen
  have d3 := hz1.neg.cell
  have d4 := hz1.neg.frozen
  have hm := RngPost0.made HZ.out h1 h2 h3 (v := (rng a (d + 1) : Nat)) (by omega)
  rw [decide_eq_false (by omega)] at hm
  have HM := Lib.hid hm
  clear h1 h2 h3 hm hz1 c1
  go_wp2_with fail
  go_ret
  exact ⟨rfl, HM.out⟩

set_option maxRecDepth 1000000 in
/-- numbers below 0: A = -b, B = -a -/
theorem MulRange_neg (T : Int) (zb A B d : Nat) (a b : Int) (w : World) (hz : IntD w zb nilL false 0) (hT : Thr w T) (ea : a = -(B : Int)) (eb : b = -(A : Int)) (hb : B = A + d) (h0 : 1 ≤ A) (hb2 : B ≤ 9223372036854775808) (hd : d ≤ 1000) :
    Calls Tryz.prog 52 #[.pointer (some ⟨zb, 0, none⟩), .int .i64 a, .int .i64 b] w fun e w' => e = .returned (.pointer (some ⟨zb, 0, none⟩)) ∧ NewInt w zb ((if (d + 1) % 2 = 0 then 1 else -1) * (rng A (d + 1) : Int)) w' := by
  have hG : G (d + 1) ≤ 1099511627776 := Nat.le_trans (G_mono (b := 1001) (by omega)) (by decide)
  have HR := Lib.hid (mulRange_top T A B d w hb h0 (by rw [B64_eq]; omega) hT hG)
  have HZ := Lib.hid hz
  have c1 := hz.abs.cell
  have hne := rng_ne A h0 (d + 1)
  have q1 : ¬ b < a := by omega
  have q2 : decide (b < a) = false := decide_eq_false (by omega)
  have q3 : decide (a ≤ 0) = true := decide_eq_true (by omega)
  have q3' : a ≤ 0 := by omega
  have q4 : decide (0 ≤ b) = false := decide_eq_false (by omega)
  have q4' : ¬ 0 ≤ b := by omega
  have q5 : a < 0 := by omega
  have q6 : decide (a < 0) = true := decide_eq_true q5
  have e1 : IntKind.i64.wrap (b - a) = (d : Int) := by rw [IntKind.wrap_i64]; omega
  have e2 := and_one_i64 d (by omega)
  obtain ⟨ca, hca⟩ : ∃ ca, IntKind.i64.wrap (-a) = ca := ⟨_, rfl⟩
  obtain ⟨cb, hcb⟩ : ∃ cb, IntKind.i64.wrap (-b) = cb := ⟨_, rfl⟩
  have q7 : IntKind.u64.wrap cb = (A : Int) := by rw [← hcb, IntKind.wrap_u64, IntKind.wrap_i64]; omega
  have q8 : IntKind.u64.wrap ca = (B : Int) := by rw [← hca, IntKind.wrap_u64, IntKind.wrap_i64]; omega
  obtain ⟨s, hs⟩ : ∃ s, ((d : Int) % 2 == 0) = s := ⟨_, rfl⟩
  have hv : decide ((if (d + 1) % 2 = 0 then (1 : Int) else -1) * (rng A (d + 1) : Int) < 0) = s := by
    rw [← hs]
    by_cases h : d % 2 = 0
    · rw [if_neg (by omega), show (d : Int) % 2 = 0 by omega]; exact decide_eq_true (by omega)
    · rw [if_pos (by omega)]
      rw [show (d : Int) % 2 = 1 by omega]; exact decide_eq_false (by omega)
  have hn : ((if (d + 1) % 2 = 0 then (1 : Int) else -1) * (rng A (d + 1) : Int)).natAbs = rng A (d + 1) := by split <;> omega
  generalize (if (d + 1) % 2 = 0 then (1 : Int) else -1) * (rng A (d + 1) : Int) = v at *
  generalize rng A (d + 1) = N at *
  have HV := Lib.hid (And.intro hv (And.intro hn hs))
  clear hz hG hb hb2 hd hT hv hn hne ea eb h0 hs
  go_enter Tryz.func52, Tryz.ntmps52
  go_wp2_with fail
  refine HR.out.mono ?_
  rintro e w1 ⟨r, rfl, h1, h2, h3⟩
  have hz1 := HZ.out.upd h3 (fun _ h => h)
  have d1 := hz1.abs.cell
  have d2 := hz1.abs.frozen
  have d3 := hz1.neg.cell
  have d4 := hz1.neg.frozen
  have hm := RngPost0.made HZ.out h1 h2 h3 (v := v) HV.out.2.1
  rw [HV.out.1, ← HV.out.2.2] at hm
  have HM := Lib.hid hm
  clear h1 h2 h3 hm hz1 c1
  go_wp2_with fail
  go_ret
  exact ⟨rfl, HM.out⟩

/-- MulRange, whatever the ends -/
theorem MulRange_any (T : Int) (zb n : Nat) (a b : Int) (w : World) (hz : IntD w zb nilL false 0) (hT : Thr w T) (ha : -9223372036854775808 ≤ a) (hb : b < 9223372036854775808) (hn : n = (b - a + 1).toNat) (hn2 : n ≤ 1000) :
    Calls Tryz.prog 52 #[.pointer (some ⟨zb, 0, none⟩), .int .i64 a, .int .i64 b] w fun e w' => e = .returned (.pointer (some ⟨zb, 0, none⟩)) ∧ NewInt w zb (irng a n) w' := by
  by_cases h1 : b < a
  · have : n = 0 := by omega
    subst this
    exact MulRange_empty zb a b w hz h1
  by_cases h2 : a ≤ 0
  · by_cases h3 : 0 ≤ b
    · rw [irng_zero a h2 n (by omega)]
      exact MulRange_zero zb a b w hz h1 h2 h3
    · obtain ⟨A, hA⟩ : ∃ A : Nat, b = -(A : Int) := ⟨(-b).toNat, by omega⟩
      obtain ⟨B, hB⟩ : ∃ B : Nat, a = -(B : Int) := ⟨(-a).toNat, by omega⟩
      obtain ⟨d, hd⟩ : ∃ d, B = A + d := ⟨B - A, by omega⟩
      have e := irng_neg (d + 1) A
      rw [show -((A + (d + 1) : Nat) : Int) + 1 = a by omega] at e
      rw [show n = d + 1 by omega, e]
      exact MulRange_neg T zb A B d a b w hz hT hB hA hd (by omega) (by omega) (by omega)
  · obtain ⟨A, rfl⟩ : ∃ A : Nat, a = (A : Int) := ⟨a.toNat, by omega⟩
    obtain ⟨B, rfl⟩ : ∃ B : Nat, b = (B : Int) := ⟨b.toNat, by omega⟩
    obtain ⟨d, hd⟩ : ∃ d, B = A + d := ⟨B - A, by omega⟩
    rw [irng_pos, show n = d + 1 by omega]
    exact MulRange_pos T zb A B d w hz hT hd (by omega) (by omega) (by omega)
end Go.Proofs.YtefeijofhocnpaaGreatDoor

/- impl.Range. -/
namespace Go.Proofs.YtefeijofhocnpaaGreatDoor
open Go.RowKit

theorem irng_le (a : Int) : ∀ n : Nat, -9223372036854775808 ≤ a → a + n ≤ 9223372036854775808 → (irng a n).natAbs < B64 ^ n + (if n = 0 then 1 else 0)
  | 0, _, _ => by show (1 : Nat) < 1 + 1; omega
  | n + 1, h1, h2 => by
    have ih := irng_le a n h1 (by omega)
    show (irng a n * (a + n)).natAbs < _
    rw [Int.natAbs_mul, if_neg (by omega), Nat.add_zero, Nat.pow_succ]
    have hk : (a + (n : Int)).natAbs < B64 := by rw [B64_eq]; omega
    have hle : (irng a n).natAbs ≤ B64 ^ n := by
      by_cases h : n = 0
      · subst h; exact Nat.le_refl _
      · rw [if_neg h] at ih; omega
    exact Nat.lt_of_le_of_lt (Nat.mul_le_mul_right _ hle) ((Nat.mul_lt_mul_left (Nat.pow_pos B64_pos)).2 hk)
theorem irng_digs (a : Int) (n : Nat) (h1 : -9223372036854775808 ≤ a) (h2 : a + n ≤ 9223372036854775808) : (digs (irng a n).natAbs).length ≤ n + 1 := by
  refine digs_len_of_lt (Nat.lt_of_lt_of_le (irng_le a n h1 h2) ?_)
  by_cases h : n = 0
  · subst h; show 1 + 1 ≤ B64 ^ 1; rw [Nat.pow_one, B64_eq]; omega
  · rw [if_neg h]; exact Nat.pow_le_pow_right B64_pos (by omega)

set_option maxRecDepth 1000000 in
theorem implRange_any (T : Int) (a b : Int) (n : Nat) (w : World) (hT : Thr w T) (ha : -9223372036854775808 ≤ a) (ha2 : a < 9223372036854775808) (hb0 : -9223372036854775808 ≤ b) (hb : b < 9223372036854775808) (hn : n = (b - a + 1).toNat) (hn2 : n ≤ 1000) :
    Calls Tryz.prog 20 #[.int .i64 a, .int .i64 b] w fun e w' => ∃ v, e = .returned v ∧ NumI w' v (irng a n) ∧ Upd NoF w w' := by
  have hlen : (digs (irng a n).natAbs).length ≤ 1099511627776 := by
    by_cases h : a ≤ b
    · have := irng_digs a n ha (by omega); omega
    · have : n = 0 := by omega
      subst this
      have := irng_digs a 0 ha (by omega); omega
  have HM := Lib.hid (fun (zb : Nat) (w' : World) (hz : IntD w' zb nilL false 0) (u : Upd NoF w w') => MulRange_any T zb n a b w' hz (hT.upd u (fun _ h => h)) ha hb hn hn2)
  obtain ⟨ca, hca⟩ : ∃ c, IntKind.u64.wrap a = c := ⟨_, rfl⟩
  obtain ⟨cb, hcb⟩ : ∃ c, IntKind.u64.wrap b = c := ⟨_, rfl⟩
  obtain ⟨k, hk⟩ : ∃ k, IntKind.u64.wrap (cb - ca) = k := ⟨_, rfl⟩
  have e1 : a ≤ b → k < 1000 := fun h => by rw [← hk, ← hca, ← hcb, IntKind.wrap_u64, IntKind.wrap_u64, IntKind.wrap_u64]; omega
  have e2 : a ≤ b → ¬ 1000 ≤ k := fun h => by have := e1 h; omega
  have e3 : (decide (a ≤ b) && decide (1000 ≤ k)) = false := by
    by_cases h : a ≤ b
    · rw [decide_eq_false (e2 h), Bool.and_false]
    · rw [decide_eq_false h, Bool.false_and]
  have HL := Lib.hid hlen
  obtain ⟨V, hV⟩ : ∃ V, irng a n = V := ⟨_, rfl⟩
  rw [hV] at HM HL ⊢
  clear hn hn2 hb0 ha2 hT hV hlen e1 e2
  by_cases h : a ≤ b
  · have q1 : decide (a ≤ b) = true := decide_eq_true h
    have q2 : decide (1000 ≤ k) = false := by rw [q1, Bool.true_and] at e3; exact e3
    have q3 : ¬ 1000 ≤ k := by simpa using q2
    clear e3
    go_enter Tryz.func20, Tryz.ntmps20
    go_wp2_with fail
    have hB := boxes_NI w
    obtain ⟨g, hg⟩ : ∃ g, w.heap.size = g := ⟨_, rfl⟩
    obtain ⟨w2, hw2⟩ : ∃ w2, (w.alloc (.cells #[.bool false, .slice none 0 0] 33)).alloc (.cells #[.bool false, .slice none 0 0] 80) = w2 := ⟨_, rfl⟩
    rw [hw2, hg] at hB
    rw [hg, hw2]
    obtain ⟨u2, b1, b2, b3⟩ := hB
    refine (HM.out (g + 1) w2 b3 u2).mono ?_
    rintro e w3 ⟨rfl, l, hI, hl, hU⟩
    have u3 : Upd NoF w w3 := u2.then hU (fun _ _ _ h => h) (fun b i hb h => by have : b = g + 1 := h; omega)
    have HI := Lib.hid (And.intro u3 (And.intro (b1.upd hU (fun h => by have : g = g + 1 := h; omega)) (And.intro (b2.upd hU (fun h => by have : g = g + 1 := h; omega)) (And.intro hg (told_num (g + 1) l V w3 hI HL.out)))))
    clear hw2 hg u2 b1 b2 b3 hI hl hU u3
    go_wp2_with fail
    refine HI.out.2.2.2.2.mono ?_
    rintro e w4 ⟨v, rfl, ⟨A, c, rfl, n1, n3⟩, u4⟩
    have k1 := HI.out.2.1.upd u4 (fun h => h)
    have k2 := HI.out.2.2.1.upd u4 (fun h => h)
    have c0 := k1.cell
    have f0 := k1.frozen
    have c1 := k2.cell
    have f1 := k2.frozen
    obtain ⟨s1, s2, s3⟩ := stored_pair (w := w) (x1 := .bool (decide (V < 0))) (x2 := .slice A (digs V.natAbs).length c) k1 k2 (HI.out.1.trans u4) (by rw [HI.out.2.2.2.1]; omega)
    have s4 : RdU ((w4.setCell ⟨g, 0, none⟩ (.bool (decide (V < 0)))).setCell ⟨g, 1, none⟩ (.slice A (digs V.natAbs).length c)) A (digs V.natAbs) := n3.store k1 k2 (fun _ _ h => by cases h) (fun _ _ h => by cases h)
    have HE := Lib.hid (And.intro s1 (And.intro n1 s4))
    clear s1 n1 n3 s4 k1 k2 u4
    go_wp2_with fail
    refine bodyPost_ret (v := .agg #[.bool (decide (V < 0)), .slice A (digs V.natAbs).length c]) (by simp [results, Tryz.results20, go_sem, s2, s3]) rfl ?_
    exact ⟨_, rfl, ⟨A, c, rfl, HE.out.2.1, HE.out.2.2⟩, HE.out.1⟩
  · have q1 : decide (a ≤ b) = false := decide_eq_false h
    clear e3
    go_enter Tryz.func20, Tryz.ntmps20
    go_wp2_with fail
    have hB := boxes_NI w
    obtain ⟨g, hg⟩ : ∃ g, w.heap.size = g := ⟨_, rfl⟩
    obtain ⟨w2, hw2⟩ : ∃ w2, (w.alloc (.cells #[.bool false, .slice none 0 0] 33)).alloc (.cells #[.bool false, .slice none 0 0] 80) = w2 := ⟨_, rfl⟩
    rw [hw2, hg] at hB
    rw [hg, hw2]
    obtain ⟨u2, b1, b2, b3⟩ := hB
    refine (HM.out (g + 1) w2 b3 u2).mono ?_
    rintro e w3 ⟨rfl, l, hI, hl, hU⟩
    have u3 : Upd NoF w w3 := u2.then hU (fun _ _ _ h => h) (fun b i hb h => by have : b = g + 1 := h; omega)
    have HI := Lib.hid (And.intro u3 (And.intro (b1.upd hU (fun h => by have : g = g + 1 := h; omega)) (And.intro (b2.upd hU (fun h => by have : g = g + 1 := h; omega)) (And.intro hg (told_num (g + 1) l V w3 hI HL.out)))))
    clear hw2 hg u2 b1 b2 b3 hI hl hU u3
    go_wp2_with fail
    refine HI.out.2.2.2.2.mono ?_
    rintro e w4 ⟨v, rfl, ⟨A, c, rfl, n1, n3⟩, u4⟩
    have k1 := HI.out.2.1.upd u4 (fun h => h)
    have k2 := HI.out.2.2.1.upd u4 (fun h => h)
    have c0 := k1.cell
    have f0 := k1.frozen
    have c1 := k2.cell
    have f1 := k2.frozen
    obtain ⟨s1, s2, s3⟩ := stored_pair (w := w) (x1 := .bool (decide (V < 0))) (x2 := .slice A (digs V.natAbs).length c) k1 k2 (HI.out.1.trans u4) (by rw [HI.out.2.2.2.1]; omega)
    have s4 : RdU ((w4.setCell ⟨g, 0, none⟩ (.bool (decide (V < 0)))).setCell ⟨g, 1, none⟩ (.slice A (digs V.natAbs).length c)) A (digs V.natAbs) := n3.store k1 k2 (fun _ _ h => by cases h) (fun _ _ h => by cases h)
    have HE := Lib.hid (And.intro s1 (And.intro n1 s4))
    clear s1 n1 n3 s4 k1 k2 u4
    go_wp2_with fail
    refine bodyPost_ret (v := .agg #[.bool (decide (V < 0)), .slice A (digs V.natAbs).length c]) (by simp [results, Tryz.results20, go_sem, s2, s3]) rfl ?_
    exact ⟨_, rfl, ⟨A, c, rfl, HE.out.2.1, HE.out.2.2⟩, HE.out.1⟩
end Go.Proofs.YtefeijofhocnpaaGreatDoor
