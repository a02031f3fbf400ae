/- For the claim of laws.FnInverse: LehG, Gcd. -/
import Derived.Test.YthkklkjldpcbkaaGreatDoorLiG5
import Derived.Deep.DeepCutAuto
import Derived.BigQuiet
set_option linter.unusedVariables false
set_option linter.unusedSimpArgs false
set_option maxHeartbeats 16000000
set_option maxRecDepth 1000000
namespace Go.Proofs.YthkklkjldpcbkaaGreatDoor
open Go.RowKit
theorem Eu.le {X Y U V A B C D : Int} (h : Eu X Y U V A B C D) (hY : 0 <= Y) (hXY : Y <= X) : B <= A /\ 0 <= B /\ A <= X := by
 induction h with
 | refl => exact ⟨hXY, hY, Int.le_refl _⟩
 | step q _ hq h0 h1 ih => exact ⟨by omega, by omega, by omega⟩
def rev6 : Nat -> Nat
 | 0 => 5 | 1 => 4 | 2 => 3 | 3 => 2 | 4 => 1 | 5 => 0 | n + 6 => n + 6
theorem rev6_inv : ∀ n, rev6 (rev6 n) = n
 | 0 => rfl | 1 => rfl | 2 => rfl | 3 => rfl | 4 => rfl | 5 => rfl | _ + 6 => rfl
theorem Zl.rev6 {w0 w : World} {a b c d e f : Nat × Loc × SV} {R : List (Nat × Loc × SV)} (h : Zl w0 w (a :: b :: c :: d :: e :: f :: R)) : Zl w0 w (f :: e :: d :: c :: b :: a :: R) :=
 h.sub Go.Proofs.YthkklkjldpcbkaaGreatDoor.rev6 (fun i j _ _ h => by have := congrArg Go.Proofs.YthkklkjldpcbkaaGreatDoor.rev6 h; rwa [rev6_inv, rev6_inv] at this) (fun i _ => match i with
  | 0 => rfl | 1 => rfl | 2 => rfl | 3 => rfl | 4 => rfl | 5 => rfl | _ + 6 => rfl)
def pick02 : Nat -> Nat
 | 0 => 0 | 1 => 2 | n + 2 => n + 6
theorem Zl.pick02 {w0 w : World} {a b c d e f : Nat × Loc × SV} {R : List (Nat × Loc × SV)} (h : Zl w0 w (a :: b :: c :: d :: e :: f :: R)) : Zl w0 w (a :: c :: R) :=
 h.sub Go.Proofs.YthkklkjldpcbkaaGreatDoor.pick02 (fun i j _ _ h => by
  match i, j with
  | 0, 0 => rfl
  | 1, 1 => rfl
  | i + 2, j + 2 => have h : i + 6 = j + 6 := h; omega
  | 0, 1 => have h : 0 = 2 := h; omega
  | 1, 0 => have h : 2 = 0 := h; omega
  | 0, j + 2 => have h : 0 = j + 6 := h; omega
  | 1, j + 2 => have h : 2 = j + 6 := h; omega
  | i + 2, 0 => have h : i + 6 = 0 := h; omega
  | i + 2, 1 => have h : i + 6 = 2 := h; omega) (fun i _ => match i with
  | 0 => rfl | 1 => rfl | _ + 2 => rfl)
structure GL (w0 wr : World) (a b M : Nat) (R : List (Nat × Loc × SV)) (pA pB pU pV pq pr x y : Nat) (U V : Int) : Prop where
 gi : GI a b (x : Int) (y : Int) U V
 xM : x <= M
 bM : b <= M
 hM : (digs M).length <= 400
 ints : ∃ (lA lB lU lV lq lr : Loc) (q r : SV), Zl w0 wr ((pA, lA, sv (x : Int)) :: (pB, lB, sv (y : Int)) :: (pU, lU, sv U) :: (pV, lV, sv V) :: (pq, lq, q) :: (pr, lr, r) :: R)
section
variable {w0 wr w' : World} {a b M : Nat} {R : List (Nat × Loc × SV)} {pA pB pU pV pq pr x y : Nat} {U V : Int}
theorem GL.upd (h : GL w0 wr a b M R pA pB pU pV pq pr x y U V) (u : Upd NoF wr w') : GL w0 w' a b M R pA pB pU pV pq pr x y U V := by
 obtain ⟨h1, h2, h3, h4, lA, lB, lU, lV, lq, lr, q, r, h5⟩ := h
 exact ⟨h1, h2, h3, h4, lA, lB, lU, lV, lq, lr, q, r, h5.upd u⟩
theorem GL.val (h : GL w0 wr a b M R pA pB pU pV pq pr x y U V) : intAt wr pB = (y : Int) := by
 obtain ⟨lA, lB, lU, lV, lq, lr, q, r, h5⟩ := h.ints
 exact (h5.at_ 1 _ _ _ rfl).v.val
theorem GL.lens (h : GL w0 wr a b M R pA pB pU pV pq pr x y U V) : y <= x /\ (digs x).length <= (digs M).length /\ (digs y).length <= (digs M).length /\ (digs x).length <= 400 /\ (digs y).length <= 400 /\ (digs U.natAbs).length <= 400 /\ (digs V.natAbs).length <= 400 /\ (digs V.natAbs).length <= (digs M).length := by
 have h1 := h.gi.yx
 have h2 := h.gi.bU
 have h3 := h.gi.bV
 have h4 := h.xM
 have h5 := h.bM
 have h6 := h.hM
 have a1 := Zn h4
 have a2 := Zn (show y <= M by omega)
 have a3 := Zn (show U.natAbs <= M by omega)
 have a4 := Zn (show V.natAbs <= M by omega)
 exact ⟨by omega, a1, a2, by omega, by omega, by omega, by omega, a4⟩
theorem GL.eucl (h : GL w0 wr a b M R pA pB pU pV pq pr x y U V) (hy : y ≠ 0) {lB lr lV lU lq lA : Loc} {q : SV} (h' : Zl w0 w' ((pB, lB, sv (y : Int)) :: (pr, lr, sv ((x : Int).tmod (y : Int))) :: (pV, lV, sv V) :: (pU, lU, sv (U - (x : Int).tdiv (y : Int) * V)) :: (pq, lq, q) :: (pA, lA, sv (x : Int)) :: R)) :
  GL w0 w' a b M R pB pr pV pU pq pA y (x % y) V (U - (x : Int).tdiv (y : Int) * V) := by
 have e1 : (x : Int).tdiv (y : Int) = ((x / y : Nat) : Int) := rfl
 have e2 : (x : Int).tmod (y : Int) = ((x % y : Nat) : Int) := rfl
 have hd := Nat.div_add_mod x y
 have hl := Nat.mod_lt x (Nat.pos_of_ne_zero hy)
 have e3 : (x : Int) - ((x / y : Nat) : Int) * (y : Int) = ((x % y : Nat) : Int) := by
  have : ((y * (x / y) + x % y : Nat) : Int) = (x : Int) := by rw [hd]
  rw [Int.natCast_add, Int.natCast_mul, Int.mul_comm] at this
  omega
 have g := h.gi.step (q := ((x / y : Nat) : Int)) (Int.natCast_nonneg _) (by rw [e3]; omega) (by rw [e3]; omega)
 rw [e3] at g
 rw [e2] at h'
 have := h.gi.yx
 have := h.xM
 rw [e1] at h' ⊢
 exact ⟨g, by omega, h.bM, h.hM, _, _, _, _, _, _, _, _, h'⟩
theorem GL.leh (h : GL w0 wr a b M R pA pB pU pV pq pr x y U V) {ev : Bool} {u0 u1 v0 v1 : Nat}
  (hE : ∀ U V : Int, Eu (x : Int) (y : Int) U V (lsg ev * (v0 * (y : Int) - u0 * (x : Int))) (lsg ev * (u1 * (x : Int) - v1 * (y : Int))) (lsg ev * (v0 * V - u0 * U)) (lsg ev * (u1 * U - v1 * V)))
  (k1 : 0 < lsg ev * (u1 * (x : Int) - v1 * (y : Int))) (k3 : lsg ev * (u1 * (x : Int) - v1 * (y : Int)) < (y : Int)) :
  ∃ x' y' : Nat, lsg ev * (v0 * (y : Int) - u0 * (x : Int)) = (x' : Int) /\ lsg ev * (u1 * (x : Int) - v1 * (y : Int)) = (y' : Int) /\ y' < y /\ x' <= M /\ GI a b (x' : Int) (y' : Int) (lsg ev * (v0 * V - u0 * U)) (lsg ev * (u1 * U - v1 * V)) := by
 have g := h.gi.eu (hE U V)
 obtain ⟨l1, l2, l3⟩ := (hE U V).le h.gi.y0 h.gi.yx
 have := h.xM
 obtain ⟨x', hx'⟩ := Int.eq_ofNat_of_zero_le (show 0 <= lsg ev * (v0 * (y : Int) - u0 * (x : Int)) by omega)
 obtain ⟨y', hy'⟩ := Int.eq_ofNat_of_zero_le l2
 rw [hx', hy'] at g
 exact ⟨x', y', hx', hy', by omega, by omega, g⟩
end
theorem lt_B64_of_len {y : Nat} (h : (digs y).length <= 1) : y < B64 := by
 have h1 := Yf y
 have h3 := Nat.pow_le_pow_right Zy h
 rw [Nat.pow_one] at h3
 exact Nat.lt_of_lt_of_le h1 h3
theorem wmul_fin (e : Bool) (U V : Int) (ua va : Nat) : wmul (!e) U ua + wmul e V va = lsg (!e) * (ua * U - va * V) := by
 unfold wmul lsg
 cases e <;> simp <;> grind
theorem lt_of_get {α : Type} {L : List α} {i : Nat} {x : α} (h : L[i]? = some x) : i < L.length := by
 rcases Nat.lt_or_ge i L.length with h1 | h1
 . exact h1
 . rw [List.getElem?_eq_none h1] at h; cases h
theorem gcd_tail {a b U : Int} {M : Nat} (b0 : b ≠ 0) (hd : (b.natAbs : Int) ∣ (Nat.gcd a.natAbs b.natAbs : Int) - a.natAbs * U) (hU : U.natAbs <= b.natAbs) (aM : a.natAbs <= M) (bM : b.natAbs <= M) (hM : (digs M).length <= 400) :
  ((Nat.gcd a.natAbs b.natAbs : Int) - a.natAbs * U).tmod b = 0 /\ (digs ((Nat.gcd a.natAbs b.natAbs : Int) - a.natAbs * U).natAbs).length <= 900 /\ (digs a.natAbs).length <= 400 /\ (digs U.natAbs).length <= 400 /\ (digs (Nat.gcd a.natAbs b.natAbs : Int).natAbs).length <= 400 ∧
   (digs ((a.natAbs : Int) * U).natAbs).length <= 800 /\ 0 < M /\ (a < 0 -> -(a * U) = (a.natAbs : Int) * U) /\ (¬ a < 0 -> a * U = (a.natAbs : Int) * U) := by
 have hg : Nat.gcd a.natAbs b.natAbs <= M := Nat.le_trans (Nat.gcd_le_right _ (by omega)) bM
 have hM0 : 0 < M := by omega
 have hp : (a.natAbs : Int) * U = a.natAbs * U := rfl
 have e1 : ((a.natAbs : Int) * U).natAbs = a.natAbs * U.natAbs := by rw [Int.natAbs_mul, Int.natAbs_natCast]
 have h1 : a.natAbs * U.natAbs <= M * M := Nat.mul_le_mul aM (Nat.le_trans hU bM)
 have h2 : M <= M * M := Nat.le_mul_of_pos_left _ hM0
 have h3 : ((Nat.gcd a.natAbs b.natAbs : Int) - a.natAbs * U).natAbs <= M * M * 2 := by
  generalize M * M = N at *
  generalize a.natAbs * U.natAbs = N2 at *
  generalize (a.natAbs : Int) * U = N3 at *
  generalize Nat.gcd a.natAbs b.natAbs = N4 at *
  omega
 have l1 := Zn h3
 have l2 := digs_mulw_len (a := M * M) (b := 2) (by decide)
 have l3 := digs_mul_len M M
 have l4 := Zn h1
 have l5 := Zn aM
 have l6 := Zn (Nat.le_trans hU bM)
 have l7 := Zn hg
 refine ⟨(gcd_cof b0 hd).2.2, by omega, by omega, by omega, by rw [Int.natAbs_natCast]; omega, by rw [e1]; omega, hM0, fun h => ?_, fun h => ?_⟩
 . rw [show (a.natAbs : Int) = -a by omega, Int.neg_mul]
 . rw [show (a.natAbs : Int) = a by omega]
theorem IntV.one {w : World} {b X : Nat} {l : Loc} (h : IntV w b l (X : Int)) (h0 : X ≠ 0) (hB : X < B64) : (digs X).length = 1 /\ w.cell? ⟨b, 1, none⟩ = some (.slice (some ⟨l.b, l.o, none⟩) 1 l.c) /\ w.cell? ⟨l.b, l.o, none⟩ = some (.int .u64 (X : Int)) /\ 1 <= l.c /\ w.frozen? ⟨l.b, l.o, none⟩ = false := by
 have hd : digs X = [X] := by rw [digs_pos h0, Nat.div_eq_of_lt hB, Yg, Nat.mod_eq_of_lt hB]
 have c1 := h.abs.cell
 have hn := h.nat
 rw [Int.natAbs_natCast] at c1 hn
 have hl : (digs X).length = 1 := by rw [hd]; rfl
 have eA := hn.addr (by omega)
 have c2 := hn.at_ 0 (by omega)
 have e : (digs X)[0]'(by omega) = X := by simp [hd]
 rw [e] at c2
 rw [hl, eA] at c1
 exact ⟨hl, c1, c2.cell, by have := hn.le; omega, c2.frozen⟩
structure FnI (wr wr2 : World) (x y : Nat) (e : Bool) (p q ua ub va vb : Nat) : Prop where
 up : Upd NoF wr wr2
 f : Fin1 x y e p q ua ub va vb
 xB : x < B64
 yx : y <= x
 pB : p < B64
 qB : q < B64
 uaB : ua < B64
 ubB : ub < B64
 vaB : va < B64
 vbB : vb < B64
theorem FnI.next {wr wr2 : World} {x y : Nat} {e : Bool} {p q ua ub va vb : Nat} (h : FnI wr wr2 x y e p q ua ub va vb) (hq : q ≠ 0) : FnI wr wr2 x y (!e) q (p % q) ub (ua + p / q * ub) vb (va + p / q * vb) := by
 obtain ⟨k, k1, k2⟩ := h.f.round hq
 have h1 := h.xB
 have h2 := h.yx
 have h3 := Nat.mod_lt p (Nat.pos_of_ne_zero hq)
 have h4 := h.qB
 exact ⟨h.up, k, h.xB, h.yx, h.qB, by omega, h.ubB, by omega, h.vbB, by omega⟩
def blkOf : Value -> Nat
 | .pointer (some a) => a.block
 | _ => 0
def LehOut (w0 : World) (R : List (Nat × Loc × SV)) (zb xb : Nat) (a b : Int) (yv : Value) (w' : World) : Prop :=
 ∃ (U : Int) (lz lx : Loc) (s : Bool) (R' : List (Nat × Loc × SV)), (b.natAbs : Int) ∣ (Nat.gcd a.natAbs b.natAbs : Int) - a.natAbs * U /\ U.natAbs <= b.natAbs /\ Zl w0 w' R' ∧
  R'[0]? = some (zb, lz, sv (Nat.gcd a.natAbs b.natAbs : Int)) /\ R'[1]? = some (xb, lx, ((s, if a < 0 then -U else U) : SV)) ∧
  (∀ yb, yv = .pointer (some ⟨yb, 0, none⟩) -> ∃ ly : Loc, R'[4]? = some (yb, ly, sv (((Nat.gcd a.natAbs b.natAbs : Int) - a.natAbs * U).tdiv b))) /\ ∀ k, 2 < k -> (k = 4 -> yv = .pointer none) -> R'[k]? = R[k]?
theorem lehG_S (T TK : Int) (w0 w : World) (zb xb ab bb : Nat) (lz lx la lb : Loc) (Z X0 : SV) (a b : Int) (yv : Value) (R : List (Nat × Loc × SV)) (M : Nat) (h : Zl w0 w R) (hz : R[0]? = some (zb, lz, Z)) (hx : R[1]? = some (xb, lx, X0)) (ha : R[2]? = some (ab, la, sv a)) (hb : R[3]? = some (bb, lb, sv b))
  (hy : yv = .pointer none \/ False) (a0 : a ≠ 0) (b0 : b ≠ 0) (aM : a.natAbs <= M) (bM : b.natAbs <= M) (hM : (digs M).length <= 400) (hT : DThr w0 T) (hK : KThr w0 TK (digs M).length)
  (hD : ∀ A B : Nat, B ≠ 0 -> (digs B).length <= (digs M).length -> (digs A).length <= 1000 -> DivAtT T A B) :
  Calls Tryz.prog 51 #[.pointer (some ⟨zb, 0, none⟩), .pointer (some ⟨xb, 0, none⟩), yv, .pointer (some ⟨ab, 0, none⟩), .pointer (some ⟨bb, 0, none⟩)] w fun e w' =>
   e = .returned (.pointer (some ⟨zb, 0, none⟩)) /\ LehOut w0 R zb xb a b yv w' := by
 have hlM : ∀ n : Nat, n <= M -> (digs n).length <= 400 := fun n hn => Nat.le_trans (Zn hn) hM
 have H := Qq (Qj h (Qj hz (Qj hx (Qj ha (Qj hb hy)))))
 have HA := Qq (Qj a0 (Qj b0 (Qj aM (Qj bM (Qj hM hlM)))))
 have HT := Qq (Qj hT (Qj hK hD))
 clear h hz hx ha hb hy a0 b0 aM bM hM hT hK hD hlM
 go_enter Tryz.func51, Tryz.ntmps51
 go_wp2_with fail
 have h1 := H.out.1.new
 obtain ⟨g1, hg1⟩ : ∃ g, w.heap.size = g := ⟨_, rfl⟩
 obtain ⟨w1, hw1⟩ : ∃ w1, w.alloc (.cells #[.bool false, .slice none 0 0] 58) = w1 := ⟨_, rfl⟩
 rw [hg1, hw1] at h1
 rw [hg1, hw1]
 clear hg1 hw1
 have HB := Qq (Abs_o g1 ab nilL la 0 a w1 (h1.at_ 0 _ _ _ rfl).v (h1.at_ 3 _ _ _ H.out.2.2.2.1).v (h1.rel2 (i := 0) (j := 3) (by decide) rfl H.out.2.2.2.1).1 (by have := HA.out.2.2.2.2.2 _ HA.out.2.2.1; omega))
 have H1 := Qq h1
 clear h1
 refine HB.out.mono ?_
 rintro e w2 ⟨rfl, ho⟩
 obtain ⟨lA, h2⟩ := H1.out.out (i := 0) rfl ho.put
 have H2 : Hid (Zl w0 w2 ((g1, lA, sv (a.natAbs : Int)) :: R)) := h2
 clear ho h2 H1 HB
 go_wp2_with fail
 have h3 := H2.out.new
 obtain ⟨g2, hg2⟩ : ∃ g, w2.heap.size = g := ⟨_, rfl⟩
 obtain ⟨w3, hw3⟩ : ∃ w1, w2.alloc (.cells #[.bool false, .slice none 0 0] 58) = w1 := ⟨_, rfl⟩
 rw [hg2, hw3] at h3
 rw [hg2, hw3]
 clear hg2 hw3
 have HB := Qq (Abs_o g2 bb nilL lb 0 b w3 (h3.at_ 0 _ _ _ rfl).v (h3.at_ 5 _ _ _ H.out.2.2.2.2.1).v (h3.rel2 (i := 0) (j := 5) (by decide) rfl H.out.2.2.2.2.1).1 (by have := HA.out.2.2.2.2.2 _ HA.out.2.2.2.1; omega))
 have H3 := Qq h3
 clear h3
 refine HB.out.mono ?_
 rintro e w4 ⟨rfl, ho⟩
 obtain ⟨lB, h4⟩ := H3.out.out (i := 0) rfl ho.put
 have H4 : Hid (Zl w0 w4 ((g2, lB, sv (b.natAbs : Int)) :: (g1, lA, sv (a.natAbs : Int)) :: R)) := h4
 clear ho h4 H3 HB
 go_wp2_with fail
 have h5 := H4.out.new
 obtain ⟨g3, hg3⟩ : ∃ g, w4.heap.size = g := ⟨_, rfl⟩
 obtain ⟨w5, hw5⟩ : ∃ w1, w4.alloc (.cells #[.bool false, .slice none 0 0] 58) = w1 := ⟨_, rfl⟩
 rw [hg3, hw5] at h5
 rw [hg3, hw5]
 clear hg3 hw5
 have HB := Qq (SetInt64_o g3 1 nilL 0 w5 (h5.at_ 0 _ _ _ rfl).v (by omega))
 have H5 := Qq h5
 clear h5 H4
 refine HB.out.mono ?_
 rintro e w6 ⟨rfl, ho⟩
 obtain ⟨lU, h6⟩ := H5.out.out (i := 0) rfl ho.put
 have H6 : Hid (Zl w0 w6 ((g3, lU, sv 1) :: (g2, lB, sv (b.natAbs : Int)) :: (g1, lA, sv (a.natAbs : Int)) :: R)) := h6
 clear ho h6 H5 HB
 have h7 := H6.out.new.new.new
 simp only [size_alloc] at h7
 obtain ⟨g4, hg4⟩ : ∃ g, w6.heap.size = g := ⟨_, rfl⟩
 obtain ⟨w7, hw7⟩ : ∃ w1, ((w6.alloc (.cells #[.bool false, .slice none 0 0] 58)).alloc (.cells #[.bool false, .slice none 0 0] 58)).alloc (.cells #[.bool false, .slice none 0 0] 58) = w1 := ⟨_, rfl⟩
 rw [hg4, hw7] at h7
 have h8 := h7.rev6
 have c1 := (h8.at_ 0 _ _ _ rfl).abs.cell
 have c2 := (h8.at_ 1 _ _ _ rfl).abs.cell
 have e1 : (sv (a.natAbs : Int)).2.natAbs = a.natAbs := Int.natAbs_natCast _
 have e2 : (sv (b.natAbs : Int)).2.natAbs = b.natAbs := Int.natAbs_natCast _
 rw [e1] at c1
 rw [e2] at c2
 have HC := Qq (fun (w' : World) (u : Upd NoF w7 w') => cmp_any lA lB a.natAbs b.natAbs w' ((by have := (h8.at_ 0 _ _ _ rfl).nat.upd0 u; rwa [e1] at this : NatV w' lA a.natAbs)) ((by have := (h8.at_ 1 _ _ _ rfl).nat.upd0 u; rwa [e2] at this : NatV w' lB b.natAbs)) (by have := HA.out.2.2.2.2.2 _ HA.out.2.2.1; omega))
 obtain ⟨k, hk⟩ : ∃ k, cmpN a.natAbs b.natAbs = k := ⟨_, rfl⟩
 rw [hk] at HC
 have HKK := Qq hk
 have H8 := Qq (Qj h8 (Qj hg4 hw7))
 clear h7 h8 e1 e2 H6 hg4 hw7 hk
 go_wp2_with fail
 rw [H8.out.2.1, H8.out.2.2]
 go_quiet ((go_at_call 71; exact Calls.quiet_of (HC.out _ ((Upd.refl NoF w7).drewN _))))
 clear c1 c2 HC
 go_upto_if 60 with fail
 go_cut [11, 12, 13, 14] (fun A B Ua Ub wx => ∃ (pA pB pU pV x y : Nat) (U V : Int), A = .pointer (some ⟨pA, 0, none⟩) /\ B = .pointer (some ⟨pB, 0, none⟩) /\ Ua = .pointer (some ⟨pU, 0, none⟩) /\ Ub = .pointer (some ⟨pV, 0, none⟩) /\ Hid (GL w0 wx a.natAbs b.natAbs M R pA pB pU pV (g4 + 1) (g4 + 1 + 1) x y U V))
 case first =>
  have hw : Upd NoF w7 (w7.drewN nq) := (Upd.refl NoF w7).drewN nq
  -- [A
  by_cases hab : a.natAbs < b.natAbs
  .
   as_aux_lemma =>
   have q1 : decide (k < 0) = true := by rw [<- HKK.out]; unfold cmpN; rw [if_pos hab]; rfl
   have q2 : k < 0 := of_decide_eq_true q1
   have HG : Hid (GL w0 (w7.drewN nq) a.natAbs b.natAbs M R g2 g1 g4 g3 (g4 + 1) (g4 + 1 + 1) b.natAbs a.natAbs 0 1) :=
    GL.upd ⟨GI.start2 (by have := HA.out.1; omega) hab, HA.out.2.2.2.1, HA.out.2.2.2.1, HA.out.2.2.2.2.1, _, _, _, _, _, _, _, _, H8.out.1.swap4⟩ hw
   clear hab hw
   go_wp2_with fail
   go_meet
   case rel => exact ⟨g2, g1, g4, g3, _, _, _, _, rfl, rfl, rfl, rfl, HG⟩
  .
   as_aux_lemma =>
   have q1 : decide (k < 0) = false := by rw [<- HKK.out]; unfold cmpN; rw [if_neg hab]; split <;> rfl
   have q2 : ¬ k < 0 := of_decide_eq_false q1
   have HG : Hid (GL w0 (w7.drewN nq) a.natAbs b.natAbs M R g1 g2 g3 g4 (g4 + 1) (g4 + 1 + 1) a.natAbs b.natAbs 1 0) :=
    GL.upd ⟨GI.start1 (by have := HA.out.2.1; omega) (by omega), HA.out.2.2.1, HA.out.2.2.2.1, HA.out.2.2.2.2.1, _, _, _, _, _, _, _, _, H8.out.1⟩ hw
   clear hab hw
   go_wp2_with fail
   go_meet
   case rel => exact ⟨g1, g2, g3, g4, _, _, _, _, rfl, rfl, rfl, rfl, HG⟩
  -- A]
 case rest =>
  obtain ⟨pA, pB, pU, pV, x, y, U, V, rfl, rfl, rfl, rfl, HG⟩ := hcut
  obtain ⟨pq, hpq⟩ : ∃ p, g4 + 1 = p := ⟨_, rfl⟩
  obtain ⟨pr, hpr⟩ : ∃ p, g4 + 1 + 1 = p := ⟨_, rfl⟩
  rw [hpr, hpq] at HG
  rw [hpr, hpq]
  clear hpr hpq H8 HKK H2
  as_aux_lemma =>
  go_wp2_with fail
  go_loopw [11, 12, 13, 14, 17] (fun A B Ua Ub rv wr => ∃ (pA pB pU pV pr x y : Nat) (U V : Int), A = .pointer (some ⟨pA, 0, none⟩) /\ B = .pointer (some ⟨pB, 0, none⟩) /\ Ua = .pointer (some ⟨pU, 0, none⟩) /\ Ub = .pointer (some ⟨pV, 0, none⟩) /\ rv = .pointer (some ⟨pr, 0, none⟩) /\ Hid (GL w0 wr a.natAbs b.natAbs M R pA pB pU pV pq pr x y U V)) (fun _ B _ _ _ wr => (intAt wr (blkOf B)).natAbs)
  case atStart => exact ⟨pA, pB, pU, pV, pr, x, y, U, V, rfl, rfl, rfl, rfl, rfl, HG⟩
  case round =>
   clear HG
   obtain ⟨pA, pB, pU, pV, pr, x, y, U, V, rfl, rfl, rfl, rfl, rfl, HG⟩ := hrel
   obtain ⟨lA, lB, lU, lV, lq, lr, q, r, hI⟩ := HG.out.ints
   have HL := Qq HG.out.lens
   have cB := (hI.at_ 1 _ _ _ rfl).abs.cell
   rw [show (sv (y : Int)).2.natAbs = y from Int.natAbs_natCast y] at cB
   obtain ⟨n, hn⟩ : ∃ n, (digs y).length = n := ⟨_, rfl⟩
   rw [hn] at cB
   have HI := Qq hI
   have HN0 := Qq hn
   clear hI hn
   by_cases h2 : 1 < n
   .
    as_aux_lemma =>
    have q1 : (1 : Int) < (n : Int) := by omega
    have q3 : decide (1 < n) = true := decide_eq_true h2
    have hy0 : y ≠ 0 := fun h => by have h1 := HN0.out; rw [(Zg (n := y)).2 h] at h1; omega
    have HY := Qq hy0
    have HS := Qq (lehSim_any pA pB lA lB x y wr (HI.out.at_ 0 _ _ _ rfl).v (HI.out.at_ 1 _ _ _ rfl).v HL.out.1 (by have := HN0.out; omega) (by have := HL.out.2.2.2.1; omega))
    clear h2 hy0
    -- [B
    go_wp2_with fail
    refine HS.out.mono ?_
    rintro e w1 ⟨Hh, bt, al, ga, p0, p1, ev, a1, a2, u0, u1, u2, v0, v1, v2, hS, rfl⟩
    have HI1 := Qq (HI.out.upd hS.up)
    have HG1 := Qq (HG.out.upd hS.up)
    have HSi := Qq hS
    clear hS cB HS HI
    by_cases hv : v0 = 0
    .
     as_aux_lemma =>
     have q4 : ((v0 : Int) != 0) = false := by rw [hv]; rfl
     have HE := Qq (eucl_S T TK w0 w1 pA pB pU pV pq pr lA lB lU lV lq lr x y U V q r R HI1.out HT.out.1 HT.out.2.1.1 (HT.out.2.1.2 _ _ (by rw [Int.natAbs_tdiv]; exact Nat.le_trans (Zn (Nat.div_le_self _ _)) (by rw [Int.natAbs_natCast]; exact HL.out.2.1)) HL.out.2.2.2.2.2.2.2) (HT.out.2.2 _ _ (by rw [Int.natAbs_natCast]; exact HY.out) (by rw [Int.natAbs_natCast]; exact HL.out.2.2.1) (by rw [Int.natAbs_natCast]; have := HL.out.2.2.2.1; omega)) (by rw [Int.natAbs_natCast]; have := HL.out.2.2.2.1; omega) (by have := HL.out.2.2.2.2.2.1; omega) (by have := HL.out.2.2.2.2.2.2; omega))
     clear hv
     go_wp2_with fail
     refine HE.out.mono ?_
     rintro e w2 ⟨rfl, l1, l2, l3, h'⟩
     have HN := Qq (HG1.out.eucl HY.out h')
     clear h' HE
     go_wp2_with fail
     go_roundw
     case rel => exact ⟨pB, pr, pV, pU, pA, _, _, _, _, rfl, rfl, rfl, rfl, rfl, HN⟩
     case measure =>
      have e1 := HN.out.val
      have e2 := HG.out.val
      have e3 := Nat.mod_lt x (Nat.pos_of_ne_zero HY.out)
      show (intAt w2 pr).natAbs < (intAt wr pB).natAbs
      rw [e1, e2, Int.natAbs_natCast, Int.natAbs_natCast]
      exact e3
    .
     as_aux_lemma =>
     have q4 : ((v0 : Int) != 0) = true := bne_iff_ne.2 (by omega)
     obtain ⟨hE, k1, k2, k3⟩ := HSi.out.s.done hv
     obtain ⟨x', y', ex, ey, hlt, hxM, hgi⟩ := HG1.out.leh hE k1 k3
     have HGI := Qq (Qj hgi (Qj hxM hlt))
     have HX := Qq (Qj ex ey)
     have HU := Qq (lehU_S w0 w1 pA pB pq pr lA lB lq lr _ _ q r _ u0 u1 v0 v1 ev HI1.out.dperm HSi.out.u0B HSi.out.u1B HSi.out.v0B HSi.out.v1B (by show (digs (x : Int).natAbs).length <= _; rw [Int.natAbs_natCast]; have := HL.out.2.2.2.1; omega) (by show (digs (y : Int).natAbs).length <= _; rw [Int.natAbs_natCast]; have := HL.out.2.2.2.2.1; omega))
     clear hE k1 k2 k3 ex ey hlt hxM hgi hv
     go_wp2_with fail
     refine HU.out.mono ?_
     rintro e w2 ⟨rfl, l1, l2, l3, l4, q', r', h2⟩
     have h2' : Zl w0 w2 ((pA, l1, sv (x' : Int)) :: (pB, l2, sv (y' : Int)) :: (pq, l3, q') :: (pr, l4, r') :: (pU, lU, sv U) :: (pV, lV, sv V) :: R) := by rw [<- HX.out.1, <- HX.out.2]; exact h2
     have H2 := Qq h2'.dperm.cperm
     have HU2 := Qq (lehU_S w0 w2 pU pV pq pr lU lV l3 l4 (sv U) (sv V) q' r' _ u0 u1 v0 v1 ev H2.out HSi.out.u0B HSi.out.u1B HSi.out.v0B HSi.out.v1B (by show (digs U.natAbs).length <= _; have := HL.out.2.2.2.2.2.1; omega) (by show (digs V.natAbs).length <= _; have := HL.out.2.2.2.2.2.2; omega))
     clear h2 h2' HU
     go_wp2_with fail
     refine HU2.out.mono ?_
     rintro e w3 ⟨rfl, m1, m2, m3, m4, q2, r2, h3⟩
     have HN : Hid (GL w0 w3 a.natAbs b.natAbs M R pA pB pU pV pq pr x' y' (lsg ev * (v0 * V - u0 * U)) (lsg ev * (u1 * U - v1 * V))) := ⟨HGI.out.1, HGI.out.2.1, HA.out.2.2.2.1, HA.out.2.2.2.2.1, _, _, _, _, _, _, _, _, h3.cperm'⟩
     clear h3 HU2 H2
     go_wp2_with fail
     go_roundw
     case rel => exact ⟨pA, pB, pU, pV, pr, _, _, _, _, rfl, rfl, rfl, rfl, rfl, HN⟩
     case measure =>
      have e1 := HN.out.val
      have e2 := HG.out.val
      have e3 := HGI.out.2.2
      show (intAt w3 pB).natAbs < (intAt wr pB).natAbs
      rw [e1, e2, Int.natAbs_natCast, Int.natAbs_natCast]
      exact e3
    -- B]
   .
    have q1 : ¬ (1 : Int) < (n : Int) := by omega
    have q3 : decide (1 < n) = false := decide_eq_false h2
    have hyB : y < B64 := lt_B64_of_len (by have := HN0.out; omega)
    have HYB := Qq hyB
    clear h2 hyB
    as_aux_lemma =>
    go_upto_if 122 with fail
    go_cut [11, 13] (fun A Ua wx => ∃ (pA pU : Nat) (lA lU : Loc) (U : Int), A = .pointer (some ⟨pA, 0, none⟩) /\ Ua = .pointer (some ⟨pU, 0, none⟩) /\ Hid (Zl w0 wx ((pA, lA, sv (Nat.gcd a.natAbs b.natAbs : Int)) :: (pU, lU, sv U) :: R) /\ (b.natAbs : Int) ∣ (Nat.gcd a.natAbs b.natAbs : Int) - a.natAbs * U /\ U.natAbs <= b.natAbs))
    case first =>
     -- [C
     by_cases hn0 : n = 0
     .
      as_aux_lemma =>
      have q4 : ¬ (0 : Int) < (n : Int) := by omega
      have q5 : decide (0 < n) = false := decide_eq_false (by omega)
      have hy0 : y = 0 := (Zg (n := y)).1 (HN0.out.trans hn0)
      have hg := HG.out.gi
      rw [hy0] at hg
      obtain ⟨f1, f2⟩ := GI.end_ hg
      have hI2 := HI.out.pick02
      rw [f1] at hI2
      have HF := Qq (Qj hI2 (Qj f2 hg.bU))
      clear hn0 hy0 hg f1 f2 hI2
      go_wp2_with fail
      go_meet
      case rel => exact ⟨pA, pU, lA, lU, U, rfl, rfl, HF⟩
     .
      have q4 : (0 : Int) < (n : Int) := by omega
      have q5 : decide (0 < n) = true := decide_eq_true (by omega)
      have hy0 : y ≠ 0 := fun h => hn0 (HN0.out.symm.trans ((Zg (n := y)).2 h))
      have HY := Qq hy0
      have cA := (HI.out.at_ 0 _ _ _ rfl).abs.cell
      rw [show (sv (x : Int)).2.natAbs = x from Int.natAbs_natCast x] at cA
      obtain ⟨m, hm⟩ : ∃ m, (digs x).length = m := ⟨_, rfl⟩
      rw [hm] at cA
      have HM0 := Qq hm
      clear hn0 hy0 hm
      as_aux_lemma =>
      go_upto_if 128 with fail
      go_cut [11, 12, 13, 14] (fun A B Ua Ub wx => ∃ (pA pB pU pV pq pr x y : Nat) (U V : Int), A = .pointer (some ⟨pA, 0, none⟩) /\ B = .pointer (some ⟨pB, 0, none⟩) /\ Ua = .pointer (some ⟨pU, 0, none⟩) /\ Ub = .pointer (some ⟨pV, 0, none⟩) /\ Hid (GL w0 wx a.natAbs b.natAbs M R pA pB pU pV pq pr x y U V /\ x < B64))
      case first =>
       -- [D
       by_cases hm1 : 1 < m
       .
        as_aux_lemma =>
        have q6 : (1 : Int) < (m : Int) := by omega
        have q7 : decide (1 < m) = true := decide_eq_true hm1
        have HE := Qq (eucl_S T TK w0 wr pA pB pU pV pq pr lA lB lU lV lq lr x y U V q r R HI.out HT.out.1 HT.out.2.1.1 (HT.out.2.1.2 _ _ (by rw [Int.natAbs_tdiv]; exact Nat.le_trans (Zn (Nat.div_le_self _ _)) (by rw [Int.natAbs_natCast]; exact HL.out.2.1)) HL.out.2.2.2.2.2.2.2) (HT.out.2.2 _ _ (by rw [Int.natAbs_natCast]; exact HY.out) (by rw [Int.natAbs_natCast]; exact HL.out.2.2.1) (by rw [Int.natAbs_natCast]; have := HL.out.2.2.2.1; omega)) (by rw [Int.natAbs_natCast]; have := HL.out.2.2.2.1; omega) (by have := HL.out.2.2.2.2.2.1; omega) (by have := HL.out.2.2.2.2.2.2; omega))
        clear hm1
        go_wp2_with fail
        refine HE.out.mono ?_
        rintro e w2 ⟨rfl, l1, l2, l3, h'⟩
        have HN := Qq (Qj (HG.out.eucl HY.out h') HYB.out)
        clear h' HE
        go_wp2_with fail
        go_meet
        case rel => exact ⟨pB, pr, pV, pU, pq, pA, _, _, _, _, rfl, rfl, rfl, rfl, HN⟩
       .
        as_aux_lemma =>
        have q6 : ¬ (1 : Int) < (m : Int) := by omega
        have q7 : decide (1 < m) = false := decide_eq_false hm1
        have hxB : x < B64 := lt_B64_of_len (by have := HM0.out; omega)
        have HN := Qq (Qj HG.out hxB)
        clear hm1 hxB
        go_wp2_with fail
        go_meet
        case rel => exact ⟨pA, pB, pU, pV, pq, pr, _, _, _, _, rfl, rfl, rfl, rfl, HN⟩
       -- D]
      case rest =>
       clear HG HI HL cB HN0 HY cA HM0 HYB q4 q5
       obtain ⟨pA, pB, pU, pV, pq, pr, x, y, U, V, rfl, rfl, rfl, rfl, HG⟩ := hcut
       obtain ⟨lA, lB, lU, lV, lq, lr, q, r, hI⟩ := HG.out.1.ints
       have HL := Qq HG.out.1.lens
       by_cases hy0 : y = 0
       .
        as_aux_lemma =>
        have cB := (hI.at_ 1 _ _ _ rfl).abs.cell
        rw [show (sv (y : Int)).2.natAbs = y from Int.natAbs_natCast y, (Zg (n := y)).2 hy0] at cB
        have hg := HG.out.1.gi
        rw [hy0] at hg
        obtain ⟨f1, f2⟩ := GI.end_ hg
        have hI2 := hI.pick02
        rw [f1] at hI2
        have HF := Qq (Qj hI2 (Qj f2 hg.bU))
        clear hy0 hg f1 f2 hI2 hI
        go_wp2_with fail
        go_meet
        case rel => exact ⟨pA, pU, lA, lU, U, rfl, rfl, HF⟩
       .
        as_aux_lemma =>
        have hyx := HL.out.1
        have hxB := HG.out.2
        obtain ⟨b1, b2, b3, b4, b5⟩ := (hI.at_ 1 _ _ _ rfl).v.one hy0 (Nat.lt_of_le_of_lt hyx hxB)
        obtain ⟨a1, a2, a3, a4, a5⟩ := (hI.at_ 0 _ _ _ rfl).v.one (fun h => hy0 (Nat.le_zero.1 (h ▸ hyx))) hxB
        have HI := Qq hI
        have HY := Qq (Qj hy0 (Qj hyx hxB))
        clear hI hy0 hyx hxB a1 b1
        go_wp2_with fail
        go_region
        obtain ⟨wd, hwd⟩ : ∃ wd, wc.drew = wd := ⟨_, rfl⟩
        have ud : Upd NoF wc wd := by rw [<- hwd]; exact (Upd.refl NoF wc).drew
        have HID := Qq (HI.out.upd ud)
        rw [hwd]
        clear hwd ud a2 a3 a4 a5 b2 b3 b4 b5 HI
        as_aux_lemma =>
        go_wp2_with fail
        go_loopw [23, 24, 25, 26, 27, 28, 29] (fun av bv uav ubv vav vbv evv wr2 => ∃ (p q ua ub va vb : Nat) (e : Bool), av = .int .u64 (p : Int) /\ bv = .int .u64 (q : Int) /\ uav = .int .u64 (ua : Int) /\ ubv = .int .u64 (ub : Int) /\ vav = .int .u64 (va : Int) /\ vbv = .int .u64 (vb : Int) /\ evv = .bool e /\ Hid (FnI wd wr2 x y e p q ua ub va vb)) (fun _ bv _ _ _ _ _ _ => (intOf bv).toNat)
        case atStart => exact ⟨x, y, 1, 0, 0, 1, true, rfl, rfl, rfl, rfl, rfl, rfl, rfl, ⟨Upd.refl _ _, Fin1.start (by have := HY.out; omega) HY.out.2.1, HY.out.2.2, HY.out.2.1, HY.out.2.2, Nat.lt_of_le_of_lt HY.out.2.1 HY.out.2.2, B64_one, Zy, Zy, B64_one⟩⟩
        case round =>
         obtain ⟨p, q, ua, ub, va, vb, e, rfl, rfl, rfl, rfl, rfl, rfl, rfl, HF⟩ := hrel
         by_cases hq0 : q = 0
         .
          as_aux_lemma =>
          have r1 : ((q : Int) != 0) = false := by rw [hq0]; rfl
          have HF2 : Hid (FnI wd wr x y e p 0 ua ub va vb) := hq0 ▸ HF.out
          have HI2 := Qq (HID.out.upd HF.out.up)
          have HM2 := Qq (mulW_S w0 wr _ 2 2 pU pU lU lU _ _ (!e) ua HI2.out rfl rfl (by show (digs U.natAbs).length + 1 <= _; have := HL.out.2.2.2.2.2.1; omega) HF.out.uaB)
          clear hq0
          go_wp2_with fail
          refine HM2.out.mono ?_
          rintro e2 w2 ⟨rfl, l1, h2⟩
          have H2 : Hid (Zl w0 w2 ((pA, lA, sv (x : Int)) :: (pB, lB, sv (y : Int)) :: (pU, l1, (((sv U).1 != !e, wmul (!e) U ua) : SV)) :: (pV, lV, sv V) :: _)) := h2
          have HM3 := Qq (mulW_S w0 w2 _ 3 3 pV pV lV lV _ _ e va H2.out rfl rfl (by show (digs V.natAbs).length + 1 <= _; have := HL.out.2.2.2.2.2.2; omega) HF.out.vaB)
          clear h2 HM2
          go_wp2_with fail
          refine HM3.out.mono ?_
          rintro e3 w3 ⟨rfl, l2, h3⟩
          have H3 : Hid (Zl w0 w3 ((pA, lA, sv (x : Int)) :: (pB, lB, sv (y : Int)) :: (pU, l1, (((sv U).1 != !e, wmul (!e) U ua) : SV)) :: (pV, l2, (((sv V).1 != e, wmul e V va) : SV)) :: _)) := h3
          have HM4 := Qq (Add_S w0 w3 _ 2 3 pU pV l1 l2 _ _ H3.out rfl rfl (by show (digs (wmul (!e) U ua).natAbs).length + 1 <= _; rw [wmul_abs]; have := digs_mulw_len (a := U.natAbs) HF.out.uaB; have := HL.out.2.2.2.2.2.1; omega) (by show (digs (wmul e V va).natAbs).length + 1 <= _; rw [wmul_abs]; have := digs_mulw_len (a := V.natAbs) HF.out.vaB; have := HL.out.2.2.2.2.2.2; omega))
          clear h3 HM3 H2
          go_wp2_with fail
          refine HM4.out.mono ?_
          rintro e4 w4 ⟨rfl, l3, h4⟩
          have h4' : Zl w0 w4 ((pA, lA, sv (x : Int)) :: (pB, lB, sv (y : Int)) :: (pU, l3, sv (wmul (!e) U ua + wmul e V va)) :: (pV, l2, (((sv V).1 != e, wmul e V va) : SV)) :: _) := h4
          obtain ⟨a1, a2, a3, a4, a5⟩ := (h4'.at_ 0 _ _ _ rfl).v.one (fun h => HY.out.1 (Nat.le_zero.1 (h ▸ HY.out.2.1))) HY.out.2.2
          have hp0 : p ≠ 0 := by have := HF.out.f.a1; omega
          obtain ⟨l5, h5⟩ := h4'.out (i := 0) rfl (PutOut.word (h4'.at_ 0 _ _ _ rfl) a1 hp0 HF.out.pB)
          have h6 : Zl w0 (w4.setCell ⟨lA.b, lA.o, none⟩ (.int .u64 (p : Int))) ((pA, l5, sv (p : Int)) :: (pU, l3, sv (wmul (!e) U ua + wmul e V va)) :: R) := h5.pick02
          have hg : GI a.natAbs b.natAbs (p : Int) 0 (lsg (!e) * (ua * U - va * V)) (lsg (!e) * (vb * V - ub * U)) := HG.out.1.gi.eu (HF2.out.f.eu U V)
          obtain ⟨f1, f2⟩ := GI.end_ hg
          rw [wmul_fin, f1] at h6
          have HFF := Qq (Qj h6 (Qj f2 hg.bU))
          clear h4 h4' HM4 H3 a1 hp0 h5 h6 hg f2
          go_wp2_with fail
          go_meet
          case rel => exact ⟨pA, pU, l5, l3, _, rfl, rfl, HFF⟩
         .
          as_aux_lemma =>
          have r1 : ((q : Int) != 0) = true := bne_iff_ne.2 (by omega)
          have z2 : ((q : Int) == 0) = false := beq_eq_false_iff_ne.2 (by omega)
          have z4 : q ≠ 0 := hq0
          have z5 : (q : Int) ≠ 0 := by omega
          have hnx := HF.out.next hq0
          have hpB := HF.out.pB
          obtain ⟨k, hk⟩ : ∃ k, p / q = k := ⟨_, rfl⟩
          obtain ⟨t, ht⟩ : ∃ t, p % q = t := ⟨_, rfl⟩
          obtain ⟨m1, hm1⟩ : ∃ m1, k * ub = m1 := ⟨_, rfl⟩
          obtain ⟨m2, hm2⟩ : ∃ m2, k * vb = m2 := ⟨_, rfl⟩
          rw [hk, ht, hm1, hm2] at hnx
          have b1 := hnx.ubB
          have b2 := hnx.vbB
          obtain ⟨u3, hu3⟩ : ∃ u3, ua + m1 = u3 := ⟨_, rfl⟩
          obtain ⟨v3, hv3⟩ : ∃ v3, va + m2 = v3 := ⟨_, rfl⟩
          rw [hu3] at b1
          rw [hv3] at b2
          rw [hu3, hv3] at hnx
          rw [Zs] at b1 b2
          have W3 := Qq (show IntKind.u64.wrap ((k : Int) * (ub : Int)) = (m1 : Int) by rw [<- Int.natCast_mul, hm1, IntKind.wrap_u64]; omega)
          have W4 := Qq (show IntKind.u64.wrap ((k : Int) * (vb : Int)) = (m2 : Int) by rw [<- Int.natCast_mul, hm2, IntKind.wrap_u64]; omega)
          have W5 := Qq (show IntKind.u64.wrap ((ua : Int) + (m1 : Int)) = (u3 : Int) by rw [<- Int.natCast_add, hu3, IntKind.wrap_u64]; omega)
          have W6 := Qq (show IntKind.u64.wrap ((va : Int) + (m2 : Int)) = (v3 : Int) by rw [<- Int.natCast_add, hv3, IntKind.wrap_u64]; omega)
          have t1 : Int.tdiv (p : Int) (q : Int) = (k : Int) := by rw [<- hk]; rfl
          have t2 : Int.tmod (p : Int) (q : Int) = (t : Int) := by rw [<- ht]; rfl
          have t3 : (p : Int) % (q : Int) = (t : Int) := by rw [<- ht]; rfl
          have w8 : IntKind.u64.wrap (t : Int) = (t : Int) := by have := Nat.mod_le p q; rw [IntKind.wrap_u64]; rw [Zs] at hpB; omega
          have W7 := Qq (show IntKind.u64.wrap (k : Int) = (k : Int) by have := Nat.div_le_self p q; rw [IntKind.wrap_u64]; rw [Zs] at hpB; omega)
          have HNX := Qq (Qj hnx (show t < q by rw [<- ht]; exact Nat.mod_lt _ (by omega)))
          clear hnx hk ht hm1 hm2 hu3 hv3 b1 b2 hq0 hpB
          have w3' := W3.out
          have w4' := W4.out
          have w5' := W5.out
          have w6' := W6.out
          have w7' := W7.out
          go_wp2_with fail
          go_region
          all_goals
           obtain ⟨wd2, hwd⟩ : ∃ wd2, wr.drew = wd2 := ⟨_, rfl⟩
           have ud : Upd NoF wr wd2 := by rw [<- hwd]; exact (Upd.refl NoF wr).drew
           have HU := Qq ud
           rw [hwd]
           clear hwd ud
           go_wp2_with fail
           go_roundw
           case rel => exact ⟨q, t, ub, u3, vb, v3, !e, rfl, rfl, rfl, rfl, rfl, rfl, rfl, ⟨HNX.out.1.up.trans HU.out, HNX.out.1.f, HNX.out.1.xB, HNX.out.1.yx, HNX.out.1.pB, HNX.out.1.qB, HNX.out.1.uaB, HNX.out.1.ubB, HNX.out.1.vaB, HNX.out.1.vbB⟩⟩
           case measure => have := HNX.out.2; simp [intOf]; omega
     -- C]
    case rest =>
     clear HG HI HL cB HN0 HYB
     obtain ⟨pA, pU, lA, lU, U, rfl, rfl, HG⟩ := hcut
     have HFT := Qq (gcd_tail HA.out.2.1 HG.out.2.1 HG.out.2.2 HA.out.2.2.1 HA.out.2.2.2.1 HA.out.2.2.2.2.1)
     obtain ⟨g, hgd⟩ : ∃ g : Nat, Nat.gcd a.natAbs b.natAbs = g := ⟨_, rfl⟩
     rw [hgd] at HFT HG
     -- [E
     by_cases han : a < 0
     .
      rcases H.out.2.2.2.2.2 with rfl | hyN
      .
       as_aux_lemma =>
       have ca := (HG.out.1.at_ 4 _ _ _ H.out.2.2.2.1).neg.cell
       rw [show (sv a).1 = true from decide_eq_true han] at ca
       have H4 := Qq (Qj HG.out.1 (Qj H.out.2.1 H.out.2.2.1))
       have HX := Qq (Set_S w0 wc _ 3 1 xb pU lx lU X0 U H4.out.1 H4.out.2.2 rfl (by decide) (by have := HFT.out.2.2.2.1; omega))
       go_wp2_with fail
       refine HX.out.mono ?_
       rintro e5 w5 ⟨rfl, l5, h5⟩
       have h5' : Zl w0 w5 ((pA, lA, sv (g : Int)) :: (pU, lU, sv U) :: R.set 1 (xb, l5, sv U)) := h5
       have x5 : (R.set 1 (xb, l5, sv U))[1]? = some (xb, l5, sv U) := List.getElem?_set_self (lt_of_get H4.out.2.2)
       have d1 := (h5'.at_ 3 _ _ _ x5).neg.cell
       have d2 := (h5'.at_ 3 _ _ _ x5).neg.frozen
       obtain ⟨l6, h6⟩ := h5'.flip (i := 3) x5
       obtain ⟨s2, hs2⟩ : ∃ s2, (sv U).1 = s2 := ⟨_, rfl⟩
       rw [hs2] at d1 h6
       have h6' : Zl w0 (w5.setCell ⟨xb, 0, none⟩ (.bool (!s2))) ((pA, lA, sv (g : Int)) :: (pU, lU, sv U) :: (R.set 1 (xb, l5, sv U)).set 1 (xb, l6, ((!s2, -U) : SV))) := h6
       rw [List.set_set] at h6'
       obtain ⟨w6, hw6⟩ : ∃ w6, w5.setCell ⟨xb, 0, none⟩ (.bool (!s2)) = w6 := ⟨_, rfl⟩
       rw [hw6] at h6'
       have z6 : (R.set 1 (xb, l6, ((!s2, -U) : SV)))[0]? = some (zb, lz, Z) := by rw [List.getElem?_set_ne (by decide)]; exact H4.out.2.1
       have x6 : (R.set 1 (xb, l6, ((!s2, -U) : SV)))[1]? = some (xb, l6, ((!s2, -U) : SV)) := List.getElem?_set_self (lt_of_get H4.out.2.2)
       have HZ := Qq (Set_S w0 w6 _ 2 0 zb pA lz lA Z (g : Int) h6' z6 rfl (by decide) (by have := HFT.out.2.2.2.2.1; omega))
       have H6 := Qq (Qj z6 x6)
       have HW6 := Qq hw6
       clear h5 h5' x5 h6 h6' hs2 hw6 z6 x6 HX
       go_wp2_with fail
       rw [HW6.out]
       refine HZ.out.mono ?_
       rintro e7 w7 ⟨rfl, l7, h7⟩
       have h7' : Zl w0 w7 ((pA, lA, sv (g : Int)) :: (pU, lU, sv U) :: (R.set 1 (xb, l6, ((!s2, -U) : SV))).set 0 (zb, l7, sv (g : Int))) := h7
       have H7 := Qq h7'.tail.tail
       clear h7 h7' HZ
       go_wp2_with fail
       go_ret
       refine ⟨rfl, U, l7, l6, !s2, _, hgd ▸ HG.out.2.1, HG.out.2.2, H7.out, ?_, ?_, ?_, ?_⟩
       . rw [hgd]; exact List.getElem?_set_self (lt_of_get H6.out.1)
       . rw [List.getElem?_set_ne (by decide), if_pos (by omega : a < 0)]; exact H6.out.2
       .
        intro yb' h
        cases h
       . intro k h2 _; rw [List.getElem?_set_ne (by omega), List.getElem?_set_ne (by omega)]
      .
       as_aux_lemma =>
       exact hyN.elim
     .
      rcases H.out.2.2.2.2.2 with rfl | hyN
      .
       as_aux_lemma =>
       have ca := (HG.out.1.at_ 4 _ _ _ H.out.2.2.2.1).neg.cell
       rw [show (sv a).1 = false from decide_eq_false han] at ca
       have H4 := Qq (Qj HG.out.1 (Qj H.out.2.1 H.out.2.2.1))
       have HX := Qq (Set_S w0 wc _ 3 1 xb pU lx lU X0 U H4.out.1 H4.out.2.2 rfl (by decide) (by have := HFT.out.2.2.2.1; omega))
       go_wp2_with fail
       refine HX.out.mono ?_
       rintro e5 w5 ⟨rfl, l5, h5⟩
       have h5' : Zl w0 w5 ((pA, lA, sv (g : Int)) :: (pU, lU, sv U) :: R.set 1 (xb, l5, sv U)) := h5
       have x5 : (R.set 1 (xb, l5, sv U))[1]? = some (xb, l5, sv U) := List.getElem?_set_self (lt_of_get H4.out.2.2)
       have h6' := h5'
       have z6 : (R.set 1 (xb, l5, sv U))[0]? = some (zb, lz, Z) := by rw [List.getElem?_set_ne (by decide)]; exact H4.out.2.1
       have x6 : (R.set 1 (xb, l5, sv U))[1]? = some (xb, l5, sv U) := List.getElem?_set_self (lt_of_get H4.out.2.2)
       have HZ := Qq (Set_S w0 w5 _ 2 0 zb pA lz lA Z (g : Int) h6' z6 rfl (by decide) (by have := HFT.out.2.2.2.2.1; omega))
       have H6 := Qq (Qj z6 x6)
       clear h5 h5' x5 h6' z6 x6 HX
       go_wp2_with fail
       refine HZ.out.mono ?_
       rintro e7 w7 ⟨rfl, l7, h7⟩
       have h7' : Zl w0 w7 ((pA, lA, sv (g : Int)) :: (pU, lU, sv U) :: (R.set 1 (xb, l5, sv U)).set 0 (zb, l7, sv (g : Int))) := h7
       have H7 := Qq h7'.tail.tail
       clear h7 h7' HZ
       go_wp2_with fail
       go_ret
       refine ⟨rfl, U, l7, l5, (sv U).1, _, hgd ▸ HG.out.2.1, HG.out.2.2, H7.out, ?_, ?_, ?_, ?_⟩
       . rw [hgd]; exact List.getElem?_set_self (lt_of_get H6.out.1)
       . rw [List.getElem?_set_ne (by decide), if_neg (by omega : ¬ a < 0)]; exact H6.out.2
       .
        intro yb' h
        cases h
       . intro k h2 _; rw [List.getElem?_set_ne (by omega), List.getElem?_set_ne (by omega)]
      .
       as_aux_lemma =>
       exact hyN.elim
     -- E]
theorem sv_nat (n : Nat) : ((false, (n : Int)) : SV) = sv (n : Int) := by unfold sv; rw [decide_eq_false (by omega : ¬ (n : Int) < 0)]
theorem natAbs_sign_one {a : Int} (h : a ≠ 0) : a.sign.natAbs = (sv ((1 : Nat) : Int)).2.natAbs := by
 show a.sign.natAbs = 1
 rcases Int.lt_trichotomy a 0 with h1 | h1 | h1
 . rw [Int.sign_eq_neg_one_of_neg h1]; rfl
 . exact absurd h1 h
 . rw [Int.sign_eq_one_of_pos h1]; rfl
theorem sv_sign (a : Int) : (((sv a).1, a.sign) : SV) = sv a.sign := by unfold sv; rw [sign_lt]
theorem sgn_sign (a : Int) : SgnOk (sv a).1 a.sign := by
 have := sgnOk_self a.sign
 rw [sign_lt] at this
 exact this
structure GcdR (a b G X Y : Int) : Prop where
 g : G = Nat.gcd a.natAbs b.natAbs
 sum : a * X + b * Y = G
 bX : X.natAbs <= b.natAbs + 1
 bY : Y.natAbs <= a.natAbs + 1
 a0 : a = 0 -> X = 0 /\ Y = b.sign
 b0 : b = 0 -> a ≠ 0 -> X = a.sign /\ Y = 0
theorem gcd_a0 {a b : Int} (h : a = 0) : Nat.gcd a.natAbs b.natAbs = b.natAbs := by subst h; exact Nat.gcd_zero_left _
theorem gcd_b0 {a b : Int} (h : b = 0) : Nat.gcd a.natAbs b.natAbs = a.natAbs := by subst h; exact Nat.gcd_zero_right _
theorem mul_sign_abs (a : Int) : a * a.sign = a.natAbs /\ a.sign.natAbs <= 1 := by
 rcases Int.lt_trichotomy a 0 with h1 | h1 | h1
 . rw [Int.sign_eq_neg_one_of_neg h1]; exact ⟨by omega, by decide⟩
 . subst h1; exact ⟨by decide, by decide⟩
 . rw [Int.sign_eq_one_of_pos h1]; exact ⟨by omega, by decide⟩
theorem gcd_rows_a {a b : Int} (h : a = 0) : GcdR a b (Nat.gcd a.natAbs b.natAbs) 0 b.sign := by
 have h1 := mul_sign_abs b
 exact ⟨rfl, by rw [gcd_a0 h, h1.1]; omega, Nat.zero_le _, by omega, fun _ => ⟨rfl, rfl⟩, fun _ k => absurd h k⟩
theorem gcd_rows_b {a b : Int} (h : a ≠ 0) (k : b = 0) : GcdR a b (Nat.gcd a.natAbs b.natAbs) a.sign 0 := by
 have h1 := mul_sign_abs a
 exact ⟨rfl, by rw [gcd_b0 k, h1.1]; omega, by omega, Nat.zero_le _, fun h0 => absurd h0 h, fun _ _ => ⟨rfl, rfl⟩⟩
theorem gcd_rows {a b U : Int} (ha : a ≠ 0) (hb : b ≠ 0) (hd : (b.natAbs : Int) ∣ (Nat.gcd a.natAbs b.natAbs : Int) - a.natAbs * U) (hU : U.natAbs <= b.natAbs) :
  GcdR a b (Nat.gcd a.natAbs b.natAbs) (if a < 0 then -U else U) (((Nat.gcd a.natAbs b.natAbs : Int) - a.natAbs * U).tdiv b) := by
 refine ⟨rfl, gcd_sum hb hd, ?_, ?_, fun h => absurd h ha, fun h => absurd h hb⟩
 . split <;> omega
 .
  have h1 := (gcd_cof hb hd).1
  have hg : Nat.gcd a.natAbs b.natAbs <= b.natAbs := Nat.gcd_le_right _ (by omega)
  generalize Nat.gcd a.natAbs b.natAbs = g at *
  generalize ((g : Int) - a.natAbs * U).tdiv b = Y at *
  have h2 : Y.natAbs * b.natAbs = ((g : Int) - a.natAbs * U).natAbs := by rw [<- Int.natAbs_mul, h1]
  have h3 : ((g : Int) - a.natAbs * U).natAbs <= g + a.natAbs * U.natAbs := by
   have e1 : ((a.natAbs : Int) * U).natAbs = a.natAbs * U.natAbs := by rw [Int.natAbs_mul, Int.natAbs_natCast]
   generalize (a.natAbs : Int) * U = P at *
   omega
  have h4 : a.natAbs * U.natAbs <= a.natAbs * b.natAbs := Nat.mul_le_mul_left _ hU
  have h5 : Y.natAbs * b.natAbs <= (a.natAbs + 1) * b.natAbs := by rw [Nat.add_mul, Nat.one_mul]; omega
  exact Nat.le_of_mul_le_mul_right h5 (by omega)
def GcdOut (w0 : World) (R : List (Nat × Loc × SV)) (zb xb : Nat) (a b : Int) (yv : Value) (w' : World) : Prop :=
 ∃ (X Y : Int) (lz lx : Loc) (s : Bool) (R' : List (Nat × Loc × SV)), Zl w0 w' R' /\ R'[0]? = some (zb, lz, sv (Nat.gcd a.natAbs b.natAbs : Int)) /\ R'[1]? = some (xb, lx, ((s, X) : SV)) ∧
  (∀ yb, yv = .pointer (some ⟨yb, 0, none⟩) -> ∃ ly : Loc, R'[4]? = some (yb, ly, sv Y)) /\ GcdR a b (Nat.gcd a.natAbs b.natAbs) X Y /\ ∀ k, 2 < k -> (k = 4 -> yv = .pointer none) -> R'[k]? = R[k]?
theorem gcd_zz (w0 w : World) (zb xb ab bb : Nat) (lz lx la lb : Loc) (Z X0 : SV) (a b : Int) (yv : Value) (R : List (Nat × Loc × SV)) (h : Zl w0 w R) (hz : R[0]? = some (zb, lz, Z)) (hx : R[1]? = some (xb, lx, X0)) (ha1 : R[2]? = some (ab, la, sv a)) (hb1 : R[3]? = some (bb, lb, sv b))
  (hy : yv = .pointer none \/ False) (aM : (digs a.natAbs).length <= 400) (bM : (digs b.natAbs).length <= 400) (ha : a = 0) (hb : b = 0) :
  Calls Tryz.prog 29 #[.pointer (some ⟨zb, 0, none⟩), .pointer (some ⟨xb, 0, none⟩), yv, .pointer (some ⟨ab, 0, none⟩), .pointer (some ⟨bb, 0, none⟩)] w fun e w' =>
   e = .returned (.pointer (some ⟨zb, 0, none⟩)) /\ GcdOut w0 R zb xb a b yv w' := by
 have H := Qq (Qj h (Qj hz (Qj hx (Qj ha1 hb1))))
 have HL := Qq (Qj aM bM)
 clear h hz hx ha1 hb1 aM bM
 rcases hy with rfl | hyN
 .
  as_aux_lemma =>
  have c1 := (H.out.1.at_ 2 _ _ _ H.out.2.2.2.1).abs.cell
  have c2 := (H.out.1.at_ 3 _ _ _ H.out.2.2.2.2).abs.cell
  have c3 := (H.out.1.at_ 2 _ _ _ H.out.2.2.2.1).neg.cell
  have c4 := (H.out.1.at_ 3 _ _ _ H.out.2.2.2.2).neg.cell
  obtain ⟨sa, hsa⟩ : ∃ s, (sv a).1 = s := ⟨_, rfl⟩
  obtain ⟨sb, hsb⟩ : ∃ s, (sv b).1 = s := ⟨_, rfl⟩
  rw [hsa] at c3
  rw [hsb] at c4
  rw [show (digs (sv a).2.natAbs).length = 0 from Zx.2 ha] at c1
  rw [show (digs (sv b).2.natAbs).length = 0 from Zx.2 hb] at c2
  have q0 : (((0 : Nat) : Int) == 0) = true := rfl
  have HS0 := Qq (Qj hsa hsb)
  clear hsa hsb
  go_enter Tryz.func29, Tryz.ntmps29
  go_wp2_with fail
  go_region
  obtain ⟨w1, hw1⟩ : ∃ w1, w.drew = w1 := ⟨_, rfl⟩
  have u1 : Upd NoF w w1 := by rw [<- hw1]; exact (Upd.refl NoF w).drew
  have HZ := Qq (Set_S w0 w1 _ 0 3 zb bb lz lb Z b (H.out.1.upd u1) H.out.2.1 H.out.2.2.2.2 (by decide) (by have := HL.out.2; omega))
  rw [hw1]
  clear hw1 u1 c1 c2 c3 c4
  go_wp2_with fail
  refine HZ.out.mono ?_
  rintro e2 w2 ⟨rfl, l2, h2⟩
  have z2 : (R.set 0 (zb, l2, sv b))[0]? = some (zb, l2, sv b) := List.getElem?_set_self (lt_of_get H.out.2.1)
  have d1 := (h2.at_ 0 _ _ _ z2).neg.cell
  have d2 := (h2.at_ 0 _ _ _ z2).neg.frozen
  obtain ⟨l3, h3⟩ := h2.out z2 ((PutOut.refl (h2.at_ 0 _ _ _ z2)).sign (s := false) (v := (b.natAbs : Int)) (Int.natAbs_natCast _) ⟨fun h => (by cases h), fun _ => Int.natCast_nonneg _⟩)
  rw [List.set_set, show ((false, (b.natAbs : Int)) : SV) = sv (b.natAbs : Int) from sv_nat _] at h3
  obtain ⟨s1, hs1⟩ : ∃ s1, (sv b).1 = s1 := ⟨_, rfl⟩
  rw [hs1] at d1
  obtain ⟨w3, hw3⟩ : ∃ w3, w2.setCell ⟨zb, 0, none⟩ (.bool false) = w3 := ⟨_, rfl⟩
  rw [hw3] at h3
  obtain ⟨R3, hR3⟩ : ∃ R3, R.set 0 (zb, l3, sv (b.natAbs : Int)) = R3 := ⟨_, rfl⟩
  have z3 : R3[0]? = some (zb, l3, sv (b.natAbs : Int)) := by rw [<- hR3]; exact List.getElem?_set_self (lt_of_get H.out.2.1)
  have x3 : R3[1]? = some (xb, lx, X0) := by rw [<- hR3, List.getElem?_set_ne (by decide)]; exact H.out.2.2.1
  have K3 := Qq (show ∀ k, 2 < k -> R3[k]? = R[k]? from fun k hk => by rw [<- hR3, List.getElem?_set_ne (by omega)])
  rw [hR3] at h3
  have HX := Qq (SetUint64_o xb 0 lx X0 w3 (h3.at_ 1 _ _ _ x3) (by rw [Zs]; omega))
  have H3 := Qq (Qj h3 (Qj z3 x3))
  have HW3 := Qq hw3
  clear h2 z2 h3 hw3 hR3 z3 x3 hs1 HZ
  go_wp2_with fail
  rw [HW3.out]
  refine HX.out.mono ?_
  rintro e4 w4 ⟨rfl, ho⟩
  obtain ⟨l4, h4⟩ := H3.out.1.out (i := 1) H3.out.2.2 ho.put
  have x4 : (R3.set 1 (xb, l4, sv ((0 : Nat) : Int)))[1]? = some (xb, l4, sv ((0 : Nat) : Int)) := List.getElem?_set_self (lt_of_get H3.out.2.2)
  have h5 := h4
  rw [show sv ((0 : Nat) : Int) = sv 0 from rfl] at h5
  obtain ⟨R5, hR5⟩ : ∃ R5, R3.set 1 (xb, l4, sv 0) = R5 := ⟨_, rfl⟩
  have z5 : R5[0]? = some (zb, l3, sv (b.natAbs : Int)) := by rw [<- hR5, List.getElem?_set_ne (by decide)]; exact H3.out.2.1
  have x5 : R5[1]? = some (xb, l4, sv 0) := by rw [<- hR5]; exact List.getElem?_set_self (lt_of_get H3.out.2.2)
  have K5 := Qq (show ∀ k, 2 < k -> R5[k]? = R[k]? from fun k hk => by rw [<- hR5, List.getElem?_set_ne (by omega)]; exact K3.out k hk)
  rw [hR5] at h5
  have H5 := Qq (Qj h5 (Qj z5 x5))
  clear ho h4 x4 h5 hR5 z5 x5 HX
  go_wp2_with fail
  go_ret
  exact ⟨rfl, 0, b.sign, l3, l4, (sv 0).1, _, H5.out.1, by rw [gcd_a0 ha]; exact H5.out.2.1, H5.out.2.2, fun yb2 h => (by cases h), gcd_rows_a ha, fun k hk _ => K5.out k hk⟩
 .
  as_aux_lemma =>
  exact hyN.elim
theorem gcd_zn (w0 w : World) (zb xb ab bb : Nat) (lz lx la lb : Loc) (Z X0 : SV) (a b : Int) (yv : Value) (R : List (Nat × Loc × SV)) (h : Zl w0 w R) (hz : R[0]? = some (zb, lz, Z)) (hx : R[1]? = some (xb, lx, X0)) (ha1 : R[2]? = some (ab, la, sv a)) (hb1 : R[3]? = some (bb, lb, sv b))
  (hy : yv = .pointer none \/ False) (aM : (digs a.natAbs).length <= 400) (bM : (digs b.natAbs).length <= 400) (ha : a = 0) (hb : b ≠ 0) :
  Calls Tryz.prog 29 #[.pointer (some ⟨zb, 0, none⟩), .pointer (some ⟨xb, 0, none⟩), yv, .pointer (some ⟨ab, 0, none⟩), .pointer (some ⟨bb, 0, none⟩)] w fun e w' =>
   e = .returned (.pointer (some ⟨zb, 0, none⟩)) /\ GcdOut w0 R zb xb a b yv w' := by
 have H := Qq (Qj h (Qj hz (Qj hx (Qj ha1 hb1))))
 have HL := Qq (Qj aM bM)
 clear h hz hx ha1 hb1 aM bM
 rcases hy with rfl | hyN
 .
  as_aux_lemma =>
  have c1 := (H.out.1.at_ 2 _ _ _ H.out.2.2.2.1).abs.cell
  have c2 := (H.out.1.at_ 3 _ _ _ H.out.2.2.2.2).abs.cell
  have c3 := (H.out.1.at_ 2 _ _ _ H.out.2.2.2.1).neg.cell
  have c4 := (H.out.1.at_ 3 _ _ _ H.out.2.2.2.2).neg.cell
  obtain ⟨sa, hsa⟩ : ∃ s, (sv a).1 = s := ⟨_, rfl⟩
  obtain ⟨sb, hsb⟩ : ∃ s, (sv b).1 = s := ⟨_, rfl⟩
  rw [hsa] at c3
  rw [hsb] at c4
  rw [show (digs (sv a).2.natAbs).length = 0 from Zx.2 ha] at c1
  obtain ⟨nb, hnb⟩ : ∃ n, (digs (sv b).2.natAbs).length = n := ⟨_, rfl⟩
  rw [hnb] at c2
  have qb : ((nb : Int) == 0) = false := beq_eq_false_iff_ne.2 (by have := mt Zx.1 (show (sv b).2 ≠ 0 from hb); omega)
  clear hnb
  have q0 : (((0 : Nat) : Int) == 0) = true := rfl
  have HS0 := Qq (Qj hsa hsb)
  clear hsa hsb
  go_enter Tryz.func29, Tryz.ntmps29
  go_wp2_with fail
  go_region
  obtain ⟨w1, hw1⟩ : ∃ w1, w.drew = w1 := ⟨_, rfl⟩
  have u1 : Upd NoF w w1 := by rw [<- hw1]; exact (Upd.refl NoF w).drew
  have HZ := Qq (Set_S w0 w1 _ 0 3 zb bb lz lb Z b (H.out.1.upd u1) H.out.2.1 H.out.2.2.2.2 (by decide) (by have := HL.out.2; omega))
  rw [hw1]
  clear hw1 u1 c1 c2 c3 c4
  go_wp2_with fail
  refine HZ.out.mono ?_
  rintro e2 w2 ⟨rfl, l2, h2⟩
  have z2 : (R.set 0 (zb, l2, sv b))[0]? = some (zb, l2, sv b) := List.getElem?_set_self (lt_of_get H.out.2.1)
  have d1 := (h2.at_ 0 _ _ _ z2).neg.cell
  have d2 := (h2.at_ 0 _ _ _ z2).neg.frozen
  obtain ⟨l3, h3⟩ := h2.out z2 ((PutOut.refl (h2.at_ 0 _ _ _ z2)).sign (s := false) (v := (b.natAbs : Int)) (Int.natAbs_natCast _) ⟨fun h => (by cases h), fun _ => Int.natCast_nonneg _⟩)
  rw [List.set_set, show ((false, (b.natAbs : Int)) : SV) = sv (b.natAbs : Int) from sv_nat _] at h3
  obtain ⟨s1, hs1⟩ : ∃ s1, (sv b).1 = s1 := ⟨_, rfl⟩
  rw [hs1] at d1
  obtain ⟨w3, hw3⟩ : ∃ w3, w2.setCell ⟨zb, 0, none⟩ (.bool false) = w3 := ⟨_, rfl⟩
  rw [hw3] at h3
  obtain ⟨R3, hR3⟩ : ∃ R3, R.set 0 (zb, l3, sv (b.natAbs : Int)) = R3 := ⟨_, rfl⟩
  have z3 : R3[0]? = some (zb, l3, sv (b.natAbs : Int)) := by rw [<- hR3]; exact List.getElem?_set_self (lt_of_get H.out.2.1)
  have x3 : R3[1]? = some (xb, lx, X0) := by rw [<- hR3, List.getElem?_set_ne (by decide)]; exact H.out.2.2.1
  have K3 := Qq (show ∀ k, 2 < k -> R3[k]? = R[k]? from fun k hk => by rw [<- hR3, List.getElem?_set_ne (by omega)])
  rw [hR3] at h3
  have HX := Qq (SetUint64_o xb 0 lx X0 w3 (h3.at_ 1 _ _ _ x3) (by rw [Zs]; omega))
  have H3 := Qq (Qj h3 (Qj z3 x3))
  have HW3 := Qq hw3
  clear h2 z2 h3 hw3 hR3 z3 x3 hs1 HZ
  go_wp2_with fail
  rw [HW3.out]
  refine HX.out.mono ?_
  rintro e4 w4 ⟨rfl, ho⟩
  obtain ⟨l4, h4⟩ := H3.out.1.out (i := 1) H3.out.2.2 ho.put
  have x4 : (R3.set 1 (xb, l4, sv ((0 : Nat) : Int)))[1]? = some (xb, l4, sv ((0 : Nat) : Int)) := List.getElem?_set_self (lt_of_get H3.out.2.2)
  have h5 := h4
  rw [show sv ((0 : Nat) : Int) = sv 0 from rfl] at h5
  obtain ⟨R5, hR5⟩ : ∃ R5, R3.set 1 (xb, l4, sv 0) = R5 := ⟨_, rfl⟩
  have z5 : R5[0]? = some (zb, l3, sv (b.natAbs : Int)) := by rw [<- hR5, List.getElem?_set_ne (by decide)]; exact H3.out.2.1
  have x5 : R5[1]? = some (xb, l4, sv 0) := by rw [<- hR5]; exact List.getElem?_set_self (lt_of_get H3.out.2.2)
  have K5 := Qq (show ∀ k, 2 < k -> R5[k]? = R[k]? from fun k hk => by rw [<- hR5, List.getElem?_set_ne (by omega)]; exact K3.out k hk)
  rw [hR5] at h5
  have H5 := Qq (Qj h5 (Qj z5 x5))
  clear ho h4 x4 h5 hR5 z5 x5 HX
  go_wp2_with fail
  go_ret
  exact ⟨rfl, 0, b.sign, l3, l4, (sv 0).1, _, H5.out.1, by rw [gcd_a0 ha]; exact H5.out.2.1, H5.out.2.2, fun yb2 h => (by cases h), gcd_rows_a ha, fun k hk _ => K5.out k hk⟩
 .
  as_aux_lemma =>
  exact hyN.elim
theorem gcd_nz (w0 w : World) (zb xb ab bb : Nat) (lz lx la lb : Loc) (Z X0 : SV) (a b : Int) (yv : Value) (R : List (Nat × Loc × SV)) (h : Zl w0 w R) (hz : R[0]? = some (zb, lz, Z)) (hx : R[1]? = some (xb, lx, X0)) (ha1 : R[2]? = some (ab, la, sv a)) (hb1 : R[3]? = some (bb, lb, sv b))
  (hy : yv = .pointer none \/ False) (aM : (digs a.natAbs).length <= 400) (bM : (digs b.natAbs).length <= 400) (ha : a ≠ 0) (hb : b = 0) :
  Calls Tryz.prog 29 #[.pointer (some ⟨zb, 0, none⟩), .pointer (some ⟨xb, 0, none⟩), yv, .pointer (some ⟨ab, 0, none⟩), .pointer (some ⟨bb, 0, none⟩)] w fun e w' =>
   e = .returned (.pointer (some ⟨zb, 0, none⟩)) /\ GcdOut w0 R zb xb a b yv w' := by
 have H := Qq (Qj h (Qj hz (Qj hx (Qj ha1 hb1))))
 have HL := Qq (Qj aM bM)
 clear h hz hx ha1 hb1 aM bM
 rcases hy with rfl | hyN
 .
  as_aux_lemma =>
  have c1 := (H.out.1.at_ 2 _ _ _ H.out.2.2.2.1).abs.cell
  have c2 := (H.out.1.at_ 3 _ _ _ H.out.2.2.2.2).abs.cell
  have c3 := (H.out.1.at_ 2 _ _ _ H.out.2.2.2.1).neg.cell
  have c4 := (H.out.1.at_ 3 _ _ _ H.out.2.2.2.2).neg.cell
  obtain ⟨sa, hsa⟩ : ∃ s, (sv a).1 = s := ⟨_, rfl⟩
  obtain ⟨sb, hsb⟩ : ∃ s, (sv b).1 = s := ⟨_, rfl⟩
  rw [hsa] at c3
  rw [hsb] at c4
  obtain ⟨na, hna⟩ : ∃ n, (digs (sv a).2.natAbs).length = n := ⟨_, rfl⟩
  rw [hna] at c1
  have qa : ((na : Int) == 0) = false := beq_eq_false_iff_ne.2 (by have := mt Zx.1 (show (sv a).2 ≠ 0 from ha); omega)
  clear hna
  rw [show (digs (sv b).2.natAbs).length = 0 from Zx.2 hb] at c2
  have q0 : (((0 : Nat) : Int) == 0) = true := rfl
  have HS0 := Qq (Qj hsa hsb)
  clear hsa hsb
  go_enter Tryz.func29, Tryz.ntmps29
  go_wp2_with fail
  go_region
  obtain ⟨w1, hw1⟩ : ∃ w1, w.drew = w1 := ⟨_, rfl⟩
  have u1 : Upd NoF w w1 := by rw [<- hw1]; exact (Upd.refl NoF w).drew
  have HZ := Qq (Set_S w0 w1 _ 0 2 zb ab lz la Z a (H.out.1.upd u1) H.out.2.1 H.out.2.2.2.1 (by decide) (by have := HL.out.1; omega))
  rw [hw1]
  clear hw1 u1 c1 c2 c3 c4
  go_wp2_with fail
  refine HZ.out.mono ?_
  rintro e2 w2 ⟨rfl, l2, h2⟩
  have z2 : (R.set 0 (zb, l2, sv a))[0]? = some (zb, l2, sv a) := List.getElem?_set_self (lt_of_get H.out.2.1)
  have d1 := (h2.at_ 0 _ _ _ z2).neg.cell
  have d2 := (h2.at_ 0 _ _ _ z2).neg.frozen
  obtain ⟨l3, h3⟩ := h2.out z2 ((PutOut.refl (h2.at_ 0 _ _ _ z2)).sign (s := false) (v := (a.natAbs : Int)) (Int.natAbs_natCast _) ⟨fun h => (by cases h), fun _ => Int.natCast_nonneg _⟩)
  rw [List.set_set, show ((false, (a.natAbs : Int)) : SV) = sv (a.natAbs : Int) from sv_nat _] at h3
  obtain ⟨s1, hs1⟩ : ∃ s1, (sv a).1 = s1 := ⟨_, rfl⟩
  rw [hs1] at d1
  obtain ⟨w3, hw3⟩ : ∃ w3, w2.setCell ⟨zb, 0, none⟩ (.bool false) = w3 := ⟨_, rfl⟩
  rw [hw3] at h3
  obtain ⟨R3, hR3⟩ : ∃ R3, R.set 0 (zb, l3, sv (a.natAbs : Int)) = R3 := ⟨_, rfl⟩
  have z3 : R3[0]? = some (zb, l3, sv (a.natAbs : Int)) := by rw [<- hR3]; exact List.getElem?_set_self (lt_of_get H.out.2.1)
  have x3 : R3[1]? = some (xb, lx, X0) := by rw [<- hR3, List.getElem?_set_ne (by decide)]; exact H.out.2.2.1
  have K3 := Qq (show ∀ k, 2 < k -> R3[k]? = R[k]? from fun k hk => by rw [<- hR3, List.getElem?_set_ne (by omega)])
  rw [hR3] at h3
  have HX := Qq (SetUint64_o xb 1 lx X0 w3 (h3.at_ 1 _ _ _ x3) (by rw [Zs]; omega))
  have H3 := Qq (Qj h3 (Qj z3 x3))
  have HW3 := Qq hw3
  clear h2 z2 h3 hw3 hR3 z3 x3 hs1 HZ
  go_wp2_with fail
  rw [HW3.out]
  refine HX.out.mono ?_
  rintro e4 w4 ⟨rfl, ho⟩
  obtain ⟨l4, h4⟩ := H3.out.1.out (i := 1) H3.out.2.2 ho.put
  have x4 : (R3.set 1 (xb, l4, sv ((1 : Nat) : Int)))[1]? = some (xb, l4, sv ((1 : Nat) : Int)) := List.getElem?_set_self (lt_of_get H3.out.2.2)
  have d1 := (h4.at_ 1 _ _ _ x4).neg.cell
  have d2 := (h4.at_ 1 _ _ _ x4).neg.frozen
  obtain ⟨l5, h5⟩ := h4.out x4 ((PutOut.refl (h4.at_ 1 _ _ _ x4)).sign (s := sa) (v := a.sign) (natAbs_sign_one ha) (by rw [<- HS0.out.1]; exact sgn_sign a))
  rw [List.set_set, show ((sa, a.sign) : SV) = sv a.sign from by rw [<- HS0.out.1]; exact sv_sign a] at h5
  rw [show (sv ((1 : Nat) : Int)).1 = false from rfl] at d1
  obtain ⟨w5, hw5⟩ : ∃ w5, w4.setCell ⟨xb, 0, none⟩ (.bool sa) = w5 := ⟨_, rfl⟩
  rw [hw5] at h5
  obtain ⟨R5, hR5⟩ : ∃ R5, R3.set 1 (xb, l5, sv (a.sign)) = R5 := ⟨_, rfl⟩
  have z5 : R5[0]? = some (zb, l3, sv (a.natAbs : Int)) := by rw [<- hR5, List.getElem?_set_ne (by decide)]; exact H3.out.2.1
  have x5 : R5[1]? = some (xb, l5, sv (a.sign)) := by rw [<- hR5]; exact List.getElem?_set_self (lt_of_get H3.out.2.2)
  have K5 := Qq (show ∀ k, 2 < k -> R5[k]? = R[k]? from fun k hk => by rw [<- hR5, List.getElem?_set_ne (by omega)]; exact K3.out k hk)
  rw [hR5] at h5
  have H5 := Qq (Qj h5 (Qj z5 x5))
  have HW5 := Qq hw5
  clear ho h4 x4 h5 hR5 z5 x5 HX hw5
  go_wp2_with fail
  (try rw [HW5.out])
  go_ret
  exact ⟨rfl, a.sign, 0, l3, l5, (sv (a.sign)).1, _, H5.out.1, by rw [gcd_b0 hb]; exact H5.out.2.1, H5.out.2.2, fun yb2 h => (by cases h), gcd_rows_b ha hb, fun k hk _ => K5.out k hk⟩
 .
  as_aux_lemma =>
  exact hyN.elim
theorem gcd_nn (T TK : Int) (w0 w : World) (zb xb ab bb : Nat) (lz lx la lb : Loc) (Z X0 : SV) (a b : Int) (yv : Value) (R : List (Nat × Loc × SV)) (M : Nat) (h : Zl w0 w R) (hz : R[0]? = some (zb, lz, Z)) (hx : R[1]? = some (xb, lx, X0)) (ha : R[2]? = some (ab, la, sv a)) (hb : R[3]? = some (bb, lb, sv b))
  (hy : yv = .pointer none \/ False) (a0 : a ≠ 0) (b0 : b ≠ 0) (aM : a.natAbs <= M) (bM : b.natAbs <= M) (hM : (digs M).length <= 400) (hT : DThr w0 T) (hK : KThr w0 TK (digs M).length)
  (hD : ∀ A B : Nat, B ≠ 0 -> (digs B).length <= (digs M).length -> (digs A).length <= 1000 -> DivAtT T A B) :
  Calls Tryz.prog 29 #[.pointer (some ⟨zb, 0, none⟩), .pointer (some ⟨xb, 0, none⟩), yv, .pointer (some ⟨ab, 0, none⟩), .pointer (some ⟨bb, 0, none⟩)] w fun e w' =>
   e = .returned (.pointer (some ⟨zb, 0, none⟩)) /\ GcdOut w0 R zb xb a b yv w' := by
 have c1 := (h.at_ 2 _ _ _ ha).abs.cell
 have c2 := (h.at_ 3 _ _ _ hb).abs.cell
 have HG := Qq (lehG_S T TK w0 w zb xb ab bb lz lx la lb Z X0 a b yv R M h hz hx ha hb hy a0 b0 aM bM hM hT hK hD)
 obtain ⟨na, hna⟩ : ∃ n, (digs (sv a).2.natAbs).length = n := ⟨_, rfl⟩
 obtain ⟨nb, hnb⟩ : ∃ n, (digs (sv b).2.natAbs).length = n := ⟨_, rfl⟩
 rw [hna] at c1
 rw [hnb] at c2
 have q1 : ((na : Int) == 0) = false := beq_eq_false_iff_ne.2 (by have := mt Zx.1 (show (sv a).2 ≠ 0 from a0); omega)
 have q2 : ((nb : Int) == 0) = false := beq_eq_false_iff_ne.2 (by have := mt Zx.1 (show (sv b).2 ≠ 0 from b0); omega)
 have HH := Qq (Qj a0 b0)
 clear h hz hx ha hb hy a0 b0 aM bM hM hT hK hD hna hnb
 go_enter Tryz.func29, Tryz.ntmps29
 go_wp2_with fail
 refine HG.out.mono ?_
 rintro e w1 ⟨rfl, U, lz', lx', s, R', k1, k2, k3, k4, k5, k6, k7⟩
 have HF := Qq (show GcdOut w0 R zb xb a b yv w1 from ⟨_, _, lz', lx', s, R', k3, k4, k5, k6, gcd_rows HH.out.1 HH.out.2 k1 k2, k7⟩)
 clear k1 k2 k3 k4 k5 k6 k7 HG
 go_wp2_with fail
 go_ret
 exact ⟨rfl, HF.out⟩
theorem gcd_any (T TK : Int) (w0 w : World) (zb xb ab bb : Nat) (lz lx la lb : Loc) (Z X0 : SV) (a b : Int) (yv : Value) (R : List (Nat × Loc × SV)) (M : Nat) (h : Zl w0 w R) (hz : R[0]? = some (zb, lz, Z)) (hx : R[1]? = some (xb, lx, X0)) (ha : R[2]? = some (ab, la, sv a)) (hb : R[3]? = some (bb, lb, sv b))
  (hy : yv = .pointer none \/ False) (aM : a.natAbs <= M) (bM : b.natAbs <= M) (hM : (digs M).length <= 400) (hT : DThr w0 T) (hK : KThr w0 TK (digs M).length)
  (hD : ∀ A B : Nat, B ≠ 0 -> (digs B).length <= (digs M).length -> (digs A).length <= 1000 -> DivAtT T A B) :
  Calls Tryz.prog 29 #[.pointer (some ⟨zb, 0, none⟩), .pointer (some ⟨xb, 0, none⟩), yv, .pointer (some ⟨ab, 0, none⟩), .pointer (some ⟨bb, 0, none⟩)] w fun e w' =>
   e = .returned (.pointer (some ⟨zb, 0, none⟩)) /\ GcdOut w0 R zb xb a b yv w' := by
 have l1 : (digs a.natAbs).length <= 400 := Nat.le_trans (Zn aM) hM
 have l2 : (digs b.natAbs).length <= 400 := Nat.le_trans (Zn bM) hM
 by_cases a0 : a = 0
 .
  by_cases b0 : b = 0
  . exact gcd_zz w0 w zb xb ab bb lz lx la lb Z X0 a b yv R h hz hx ha hb hy l1 l2 a0 b0
  . exact gcd_zn w0 w zb xb ab bb lz lx la lb Z X0 a b yv R h hz hx ha hb hy l1 l2 a0 b0
 .
  by_cases b0 : b = 0
  . exact gcd_nz w0 w zb xb ab bb lz lx la lb Z X0 a b yv R h hz hx ha hb hy l1 l2 a0 b0
  . exact gcd_nn T TK w0 w zb xb ab bb lz lx la lb Z X0 a b yv R M h hz hx ha hb hy a0 b0 aM bM hM hT hK hD
end Go.Proofs.YthkklkjldpcbkaaGreatDoor
