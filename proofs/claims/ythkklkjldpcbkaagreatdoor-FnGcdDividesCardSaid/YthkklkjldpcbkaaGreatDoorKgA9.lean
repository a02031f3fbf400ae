/- For the claim of laws.FnGcdDivides: KaraM, KaraS, KaraT. -/
import Derived.Test.YthkklkjldpcbkaaGreatDoorKgA6
set_option linter.unusedVariables false
set_option linter.unusedSimpArgs false
namespace Go.Proofs.YthkklkjldpcbkaaGreatDoor
open Go.RowKit
def OpF (d : Nat) (lz : Loc) (k : Nat) (J : SI) (sb n : Nat) : Nat → Nat → Prop := Or2 (Blk d) (Or2 (ZF lz k) (J.K sb n))
theorem OpF.noInt {w : World} {d k sb n : Nat} {lz : Loc} {J : SI} (hl : lz.Ok w) (hS : StkV w sb n J) {b i : Nat} {v : Value} (c : CellT 58 w b i v) (hb : b ≠ d) (j : Nat) : ¬ OpF d lz k J sb n b j := by
 rintro (h | h | h)
 · exact hb h
 · exact ZF.no hl c (by decide) k j h
 · exact hS.no c (by decide) (by decide) (by decide) j h
theorem IntD.op {w w' : World} {b d k sb n len : Nat} {l lz : Loc} {J : SI} {s : Bool} (h : IntD w b l s len) (hb : b ≠ d) (hl : lz.Ok w) (hS : StkV w sb n J) (u : Upd (OpF d lz k J sb n) w w') : IntD w' b l s len :=
 h.upd u (fun i => OpF.noInt hl hS h.neg hb i)
theorem IntV.op {w w' : World} {b d k sb n : Nat} {l lz : Loc} {J : SI} {x : Value} {i : Nat} {V : Int} (h : IntV w b l V) (hb : b ≠ d) (hd : CellT 58 w d i x) (hl : lz.Ok w) (hS : StkV w sb n J) (u : Upd (OpF d lz k J sb n) w w')
  (hw : ∀ j, j < (digs V.natAbs).length → ¬ ZF lz k l.b (l.o + j) ∧ ¬ J.K sb n l.b (l.o + j)) : IntV w' b l V :=
 h.upd u (fun i => OpF.noInt hl hS h.neg hb i) (fun j hj hf => by
  rcases hf with hf | hf | hf
  · exact hd.neW (h.nat.at_ j hj) (by decide) hf.symm
  · exact (hw j hj).1 hf
  · exact (hw j hj).2 hf)
theorem Wr.off {w1 : World} {z1 x : Loc} {k sb ns : Nat} {J : SI} (ox : Off J sb ns x) (hb : 0 < x.c → x.b < w1.heap.size) (ha : Apart z1 x) (hk : k ≤ z1.c) {i : Nat} (hi : i < x.c) : ¬ Wr w1 z1 k sb ns J x.b (x.o + i) := by
 rintro (⟨e, h1, h2⟩ | h1 | h1)
 · unfold Apart at ha; omega
 · exact ox i hi h1
 · have := hb (by omega); omega
@[reducible] def hi (x : Loc) (k : Nat) : Loc := ⟨some ⟨x.b, x.o + k, none⟩, x.c - k, x.b, x.o + k⟩
structure KCore (T : Int) (w0 w : World) (x y z : Loc) (xs ys : List Nat) (n n2 sb ns n' : Nat) (J J' : SI) (b0 b1 c0 c1 : Nat) : Prop where
 x0 : IntV w b0 x (val B64 (xs.take n2) : Nat)
 x1 : IntV w b1 (hi x n2) (val B64 (xs.drop n2) : Nat)
 y0 : IntV w c0 y (val B64 (ys.take n2) : Nat)
 y1 : IntV w c1 (hi y n2) (val B64 (ys.drop n2) : Nat)
 ok : z.Ok w
 thr : Thr w T
 stk : StkV w sb n' J'
 le : SI.Le w0 sb J J'
 upd : Upd (Or2 (Rg z.b z.o (z.o + 2 * n)) (J.K sb ns)) w0 w
 nn : ns ≤ n'
theorem IntV.stepW {w0 w w' : World} {z x : Loc} {k sb ns b a : Nat} {J : SI} {V : Int} {F : Nat → Nat → Prop} (h : IntV w b (if a = 0 then x else hi x a) V) (u : Upd F w w') (hF : ∀ b i, F b i → Wr w0 z k sb ns J b i) (hI : ∀ j, ¬ F b j)
  (ox : Off J sb ns x) (hb : 0 < x.c → x.b < w0.heap.size) (ha : Apart z x) (hk : k ≤ z.c) : IntV w' b (if a = 0 then x else hi x a) V := by
 refine h.upd u hI (fun i hi hf => ?_)
 have hle := h.nat.le
 by_cases e : a = 0
 ·
  rw [if_pos e] at hf hle
  exact Wr.off ox hb ha hk (Nat.lt_of_lt_of_le hi hle) (hF _ _ hf)
 ·
  rw [if_neg e] at hf hle
  simp only at hf hle
  have hlt : a + i < x.c := by omega
  exact Wr.off ox hb ha hk hlt (by rw [← Nat.add_assoc]; exact hF _ _ hf)
theorem KCore.step {T : Int} {w0 w w' : World} {x y z : Loc} {xs ys : List Nat} {n n2 sb ns n' n'' b0 b1 c0 c1 : Nat} {J J' J'' : SI} {F : Nat → Nat → Prop} (S : MidS w0 x y z n n sb ns J) (K : KCore T w0 w x y z xs ys n n2 sb ns n' J J' b0 b1 c0 c1) (h2 : 0 < n2)
  (u : Upd F w w') (hF : ∀ b i, F b i → Wr w0 z (2 * n) sb ns J b i) (hI : ∀ b, (b = b0 ∨ b = b1 ∨ b = c0 ∨ b = c1) → ∀ j, ¬ F b j) (hT : ∀ j, ¬ F 2 j) (hS : StkV w' sb n'' J'') (hJ : SI.Le w0 sb J J'') (hn : ns ≤ n'') :
  KCore T w0 w' x y z xs ys n n2 sb ns n'' J J'' b0 b1 c0 c1 where
 x0 := IntV.stepW (a := 0) K.x0 u hF (hI _ (Or.inl rfl)) S.ox S.bx S.ax (by have := S.hk; omega)
 x1 := by
  have := IntV.stepW (a := n2) (x := x) (by rw [if_neg (by omega)]; exact K.x1) u hF (hI _ (Or.inr (Or.inl rfl))) S.ox S.bx S.ax (by have := S.hk; omega)
  rwa [if_neg (by omega)] at this
 y0 := IntV.stepW (a := 0) K.y0 u hF (hI _ (Or.inr (Or.inr (Or.inl rfl)))) S.oy S.b_y S.ay (by have := S.hk; omega)
 y1 := by
  have := IntV.stepW (a := n2) (x := y) (by rw [if_neg (by omega)]; exact K.y1) u hF (hI _ (Or.inr (Or.inr (Or.inr rfl)))) S.oy S.b_y S.ay (by have := S.hk; omega)
  rwa [if_neg (by omega)] at this
 ok := K.ok.upd u
 thr := K.thr.upd u hT
 stk := hS
 le := hJ
 upd := K.upd.then u (fun _ _ _ h => h) (fun b i hb h => by
  rcases hF _ _ h with h | h | h
  · exact Or.inl h
  · exact Or.inr h
  · omega)
 nn := hn
structure Box4 (w0 : World) (d b0 b1 c0 c1 : Nat) : Prop where
 new : w0.heap.size ≤ d
 n0 : b0 ≠ d
 n1 : b1 ≠ d
 n2 : c0 ≠ d
 n3 : c1 ≠ d
theorem KCore.op {T : Int} {w0 w w' : World} {x y z lz : Loc} {xs ys : List Nat} {n n2 sb ns n' b0 b1 c0 c1 d k : Nat} {J J' J'' : SI} (S : MidS w0 x y z n n sb ns J) (K : KCore T w0 w x y z xs ys n n2 sb ns n' J J' b0 b1 c0 c1) (h2 : 0 < n2)
  (hb : Box4 w0 d b0 b1 c0 c1) (hl : lz.Ok w) (hz : ∀ b i, ZF lz k b i → Wr w0 z (2 * n) sb ns J b i) (u : Upd (OpF d lz k J' sb n') w w') (hT0 : Thr w0 T) (hS : StkV w' sb n' J'') (hJ : SI.Le w sb J' J'') :
  KCore T w0 w' x y z xs ys n n2 sb ns n' J J'' b0 b1 c0 c1 := by
 have hs := K.upd.size
 refine K.step S h2 u (fun b i h => ?_) (fun b hb' j => ?_) (fun j h => ?_) hS (K.le.trans hJ hs) K.nn
 ·
  rcases h with h | h | h
  ·
   have : b = d := h
   exact Or.inr (Or.inr (by have := hb.new; omega))
  · exact hz b i h
  ·
   rcases Nat.lt_or_ge b w0.heap.size with h1 | h1
   · exact Or.inr (Or.inl (K.le _ _ _ h1 (h.mono K.nn)))
   · exact Or.inr (Or.inr h1)
 ·
  rcases hb' with rfl | rfl | rfl | rfl
  · exact OpF.noInt hl K.stk K.x0.neg hb.n0 j
  · exact OpF.noInt hl K.stk K.x1.neg hb.n1 j
  · exact OpF.noInt hl K.stk K.y0.neg hb.n2 j
  · exact OpF.noInt hl K.stk K.y1.neg hb.n3 j
 ·
  rcases h with h | h | h
  ·
   have h1 : _ = d := h
   have := CellT.lt hT0
   have := hb.new
   omega
  · exact ZF.noThr hl K.thr _ j h
  · exact K.stk.no K.thr (by decide) (by decide) (by decide) j h
theorem KCore.wz {T : Int} {w0 w w' : World} {x y z : Loc} {xs ys : List Nat} {n n2 sb ns n' b0 b1 c0 c1 lo hi' : Nat} {J J' : SI} (S : MidS w0 x y z n n sb ns J) (K : KCore T w0 w x y z xs ys n n2 sb ns n' J J' b0 b1 c0 c1) (h2 : 0 < n2) (h0 : 0 < z.c)
  (hlo : z.o ≤ lo) (hhi : hi' ≤ z.o + 2 * n) (u : Upd (Rg z.b lo hi') w w') : KCore T w0 w' x y z xs ys n n2 sb ns n' J J' b0 b1 c0 c1 := by
 have hno : ∀ {b i : Nat} {v : Value} {U : TypeId}, CellT U w b i v → U ∈ special → ∀ j, ¬ Rg z.b lo hi' b j := fun c hU j ⟨e, _⟩ => by
  obtain ⟨u, hu⟩ := K.ok.live 0 h0
  exact c.neW hu hU e
 refine K.step S h2 u (fun b i ⟨h1, h2, h3⟩ => Or.inl ⟨h1, by omega, by omega⟩) (fun b hb' j => ?_) (fun j => hno K.thr (by decide) j) (K.stk.upd u (fun b i ⟨h1, h3, h4⟩ hk => ?_)) K.le K.nn
 ·
  rcases hb' with rfl | rfl | rfl | rfl
  · exact hno K.x0.neg (by decide) j
  · exact hno K.x1.neg (by decide) j
  · exact hno K.y0.neg (by decide) j
  · exact hno K.y1.neg (by decide) j
 ·
  subst h1
  have := S.hk
  obtain ⟨j, rfl⟩ : ∃ j, i = z.o + j := ⟨i - z.o, by omega⟩
  exact (S.oz.old S.bz K.le K.nn) j (by omega) hk
theorem IntD.boxed {w w' : World} {l : Loc} {n : Nat} (h : l.Ok w) (u : Upd NoF (w.alloc (.cells #[.bool false, .slice l.A n l.c] 58)) w') : IntD w' w.heap.size l false n := by
 have hh := heap_alloc_new w (.cells #[.bool false, .slice l.A n l.c] 58)
 exact ⟨CellT.upd (CellT.new (by simp) hh) u (fun h => h), CellT.upd (CellT.new (by simp) hh) u (fun h => h), (h.upd ((Upd.refl NoF w).alloc _)).upd u⟩
theorem IntD.upd0 {w w' : World} {b n : Nat} {l : Loc} {s : Bool} (h : IntD w b l s n) (u : Upd NoF w w') : IntD w' b l s n := h.upd u (fun _ h => h)
theorem IntV.upd0 {w w' : World} {b : Nat} {l : Loc} {v : Int} (h : IntV w b l v) (u : Upd NoF w w') : IntV w' b l v := h.upd u (fun _ h => h) (fun _ _ h => h)
theorem IntD.lt {w : World} {b n : Nat} {l : Loc} {s : Bool} (h : IntD w b l s n) : b < w.heap.size := h.neg.lt
theorem IntV.lt {w : World} {b : Nat} {l : Loc} {v : Int} (h : IntV w b l v) : b < w.heap.size := h.neg.lt
theorem box2 {w : World} {l0 l1 : Loc} {n0 n1 : Nat} (h0 : l0.Ok w) (h1 : l1.Ok w) {w' : World} (e : (w.alloc (.cells #[.bool false, .slice l0.A n0 l0.c] 58)).alloc (.cells #[.bool false, .slice l1.A n1 l1.c] 58) = w') :
  IntD w' w.heap.size l0 false n0 ∧ IntD w' (w.heap.size + 1) l1 false n1 ∧ Upd NoF w w' ∧ w'.heap.size = w.heap.size + 2 := by
 subst e
 have u1 : Upd NoF w (w.alloc (.cells #[.bool false, .slice l0.A n0 l0.c] 58)) := (Upd.refl NoF w).alloc _
 have hs : (w.alloc (.cells #[.bool false, .slice l0.A n0 l0.c] 58)).heap.size = w.heap.size + 1 := World.size_alloc _ _
 refine ⟨IntD.boxed h0 ((Upd.refl NoF _).alloc _), ?_, u1.alloc _, by rw [World.size_alloc, hs]⟩
 have := IntD.boxed (w := w.alloc (.cells #[.bool false, .slice l0.A n0 l0.c] 58)) (n := n1) (h1.upd u1) (Upd.refl NoF _)
 rwa [hs] at this
theorem box3 {w : World} {l0 l1 l2 : Loc} {n0 n1 n2 : Nat} (h0 : l0.Ok w) (h1 : l1.Ok w) (h2 : l2.Ok w) {w' : World}
  (e : ((w.alloc (.cells #[.bool false, .slice l0.A n0 l0.c] 58)).alloc (.cells #[.bool false, .slice l1.A n1 l1.c] 58)).alloc (.cells #[.bool false, .slice l2.A n2 l2.c] 58) = w') :
  IntD w' w.heap.size l0 false n0 ∧ IntD w' (w.heap.size + 1) l1 false n1 ∧ IntD w' (w.heap.size + 2) l2 false n2 ∧ Upd NoF w w' := by
 subst e
 obtain ⟨g0, g1, g2, g3⟩ := box2 (n0 := n0) (n1 := n1) h0 h1 rfl
 have u : Upd NoF ((w.alloc (.cells #[.bool false, .slice l0.A n0 l0.c] 58)).alloc (.cells #[.bool false, .slice l1.A n1 l1.c] 58)) (((w.alloc (.cells #[.bool false, .slice l0.A n0 l0.c] 58)).alloc (.cells #[.bool false, .slice l1.A n1 l1.c] 58)).alloc (.cells #[.bool false, .slice l2.A n2 l2.c] 58)) := (Upd.refl NoF _).alloc _
 have g4 := IntD.boxed (n := n2) (h2.upd g2) (Upd.refl NoF (((w.alloc (.cells #[.bool false, .slice l0.A n0 l0.c] 58)).alloc (.cells #[.bool false, .slice l1.A n1 l1.c] 58)).alloc (.cells #[.bool false, .slice l2.A n2 l2.c] 58)))
 rw [g3] at g4
 exact ⟨g0.upd0 u, g1.upd0 u, g4, g2.trans u⟩
structure KDist (w0 : World) (b0 b1 c0 c1 e0 e2 e1 ex ey : Nat) : Prop where
 hx : Box4 w0 ex b0 b1 c0 c1
 hy : Box4 w0 ey b0 b1 c0 c1
 h0 : Box4 w0 e0 b0 b1 c0 c1
 h1 : Box4 w0 e1 b0 b1 c0 c1
 h2 : Box4 w0 e2 b0 b1 c0 c1
 xy : ex ≠ ey
 d01 : e0 ≠ e1
 d02 : e0 ≠ e2
 d12 : e1 ≠ e2
 d0x : e0 ≠ ex
 d0y : e0 ≠ ey
 d1x : e1 ≠ ex
 d1y : e1 ≠ ey
 d2x : e2 ≠ ex
 d2y : e2 ≠ ey
structure KSet (T : Int) (w0 w : World) (x y z t : Loc) (xs ys : List Nat) (n n2 sb ns n' : Nat) (J J' : SI) (b0 b1 c0 c1 e0 e2 e1 ex ey : Nat) : Prop where
 core : KCore T w0 w x y z xs ys n n2 sb ns n' J J' b0 b1 c0 c1
 i0 : IntD w e0 z false (2 * n2)
 i2 : IntD w e2 (hi z (2 * n2)) false (2 * n - 2 * n2)
 i1 : IntD w e1 t false (2 * n2 + 1)
 ix : IntD w ex z false n2
 iy : IntD w ey (hi z n2) false n2
 tj : TJ w0 t sb ns J
 tc : 2 * n2 + 1 ≤ t.c
 toff : Off J' sb n' t
 ds : KDist w0 b0 b1 c0 c1 e0 e2 e1 ex ey
theorem kara_set {T : Int} {w0 w1 w2 w3 w4 w5 : World} {x y z t : Loc} {xs ys : List Nat} {n n2 sb ns n' : Nat} {J J' : SI} {b0 b1 c0 c1 : Nat} (S : MidS w0 x y z n n sb ns J) (h2 : 0 < n2) (h2n : n2 < n) (hz : z.Ok w0) (hT : Thr w0 T) (hS : StkV w0 sb ns J)
  (u1 : Upd NoF w0 w1) (x0 : IntV w1 b0 x (val B64 (xs.take n2) : Nat)) (x1 : IntV w1 b1 (hi x n2) (val B64 (xs.drop n2) : Nat)) (nb0 : w0.heap.size ≤ b0) (nb1 : w0.heap.size ≤ b1)
  (u2 : Upd NoF w1 w2) (y0 : IntV w2 c0 y (val B64 (ys.take n2) : Nat)) (y1 : IntV w2 c1 (hi y n2) (val B64 (ys.drop n2) : Nat)) (nc0 : w1.heap.size ≤ c0) (nc1 : w1.heap.size ≤ c1)
  (e3 : (w2.alloc (.cells #[.bool false, .slice z.A (2 * n2) z.c] 58)).alloc (.cells #[.bool false, .slice (some ⟨z.b, z.o + 2 * n2, none⟩) (2 * n - 2 * n2) (z.c - 2 * n2)] 58) = w3)
  (ht1 : 2 * n2 + 1 ≤ t.c) (ht2 : t.Ok w4) (ht3 : (∀ i, i < t.c → J.K sb ns t.b (t.o + i)) ∨ w3.heap.size ≤ t.b) (ht4 : ∀ i, i < t.c → ¬ J'.K sb n' t.b (t.o + i)) (hS4 : StkV w4 sb n' J') (hn : ns ≤ n') (hJ : SI.Le w3 sb J J') (u4 : Upd (J.K sb ns) w3 w4)
  (e5 : ((w4.alloc (.cells #[.bool false, .slice t.A (2 * n2 + 1) t.c] 58)).alloc (.cells #[.bool false, .slice z.A n2 z.c] 58)).alloc (.cells #[.bool false, .slice (some ⟨z.b, z.o + n2, none⟩) n2 (z.c - n2)] 58) = w5) :
  KSet T w0 w5 x y z t xs ys n n2 sb ns n' J J' b0 b1 c0 c1 w2.heap.size (w2.heap.size + 1) w4.heap.size (w4.heap.size + 1) (w4.heap.size + 1 + 1) := by
 have hk := S.hk
 have hz2 : z.Ok w2 := (hz.upd u1).upd u2
 obtain ⟨g0, g2, u3, g3⟩ := box2 (l0 := z) (l1 := hi z (2 * n2)) (n0 := 2 * n2) (n1 := 2 * n - 2 * n2) hz2 (hz2.cut (by omega)) e3
 have u03 : Upd NoF w0 w3 := (u1.trans u2).trans u3
 have u13 : Upd NoF w1 w3 := u2.trans u3
 have hz3 := hz.upd u03
 have hz4 := hz3.upd u4
 obtain ⟨f1, fx, fy, u5⟩ := box3 (l0 := t) (l1 := z) (l2 := hi z n2) (n0 := 2 * n2 + 1) (n1 := n2) (n2 := n2) ht2 hz4 (hz4.cut (by omega)) e5
 have K3 : KCore T w0 w3 x y z xs ys n n2 sb ns ns J J b0 b1 c0 c1 := ⟨x0.upd0 u13, x1.upd0 u13, y0.upd0 u3, y1.upd0 u3, hz3, hT.upd u03 (fun _ h => h), hS.upd0 u03, SI.Le.refl _ _ _, u03.weak (fun _ _ h => h.elim), Nat.le_refl _⟩
 have hs := u03.size
 have no : ∀ {b i : Nat} {v : Value}, CellT 58 w3 b i v → ∀ j, ¬ J.K sb ns b j := fun c j => K3.stk.no c (by decide) (by decide) (by decide) j
 have K4 : KCore T w0 w4 x y z xs ys n n2 sb ns n' J J' b0 b1 c0 c1 := K3.step S h2 u4 (fun b i h => Or.inr (Or.inl h)) (fun b hb j => by
   rcases hb with rfl | rfl | rfl | rfl
   · exact no K3.x0.neg j
   · exact no K3.x1.neg j
   · exact no K3.y0.neg j
   · exact no K3.y1.neg j) (fun j => K3.stk.no K3.thr (by decide) (by decide) (by decide) j) hS4 (fun n b i hb h => hJ n b i (by omega) h) hn
 have K5 : KCore T w0 w5 x y z xs ys n n2 sb ns n' J J' b0 b1 c0 c1 := K4.step S h2 u5 (fun _ _ h => h.elim) (fun _ _ _ h => h) (fun _ h => h) (K4.stk.upd0 u5) K4.le K4.nn
 have s1 := u1.size
 have s2 := u2.size
 have s4 := u4.size
 have a0 := x0.lt
 have a1 := x1.lt
 have a2 := y0.lt
 have a3 := y1.lt
 refine ⟨K5, (g0.upd u4 (no g0.neg)).upd0 u5, (g2.upd u4 (no g2.neg)).upd0 u5, f1, fx, fy, fun i hi => ?_, ht1, ht4, ⟨⟨?_, ?_, ?_, ?_, ?_⟩, ⟨?_, ?_, ?_, ?_, ?_⟩, ⟨?_, ?_, ?_, ?_, ?_⟩, ⟨?_, ?_, ?_, ?_, ?_⟩, ⟨?_, ?_, ?_, ?_, ?_⟩, ?_, ?_, ?_, ?_, ?_, ?_, ?_, ?_, ?_, ?_⟩⟩
 ·
  rcases ht3 with h | h
  · exact Or.inl (h i hi)
  · exact Or.inr (by omega)
 all_goals omega
end Go.Proofs.YthkklkjldpcbkaaGreatDoor
namespace Go.Proofs.YthkklkjldpcbkaaGreatDoor
open Go.RowKit
structure KEnv (T : Int) (w0 : World) (x y z t : Loc) (xs ys : List Nat) (n n2 sb ns n' : Nat) (J : SI) (b0 b1 c0 c1 e0 e2 e1 ex ey : Nat) : Prop where
 S : MidS w0 x y z n n sb ns J
 h2 : 0 < n2
 h2n : n2 < n
 h2e : n ≤ 2 * n2
 h2f : 2 * n2 ≤ n + 1
 lx : xs.length = n
 ly : ys.length = n
 xc : n ≤ x.c
 yc : n ≤ y.c
 dx : Digs B64 xs
 dy : Digs B64 ys
 tj : TJ w0 t sb ns J
 tc : 2 * n2 + 1 ≤ t.c
 ds : KDist w0 b0 b1 c0 c1 e0 e2 e1 ex ey
 thr : Thr w0 T
 bd : n' + G (2 * n2) ≤ 1099511627776
 hm : 2 * n ≤ 1099511627776
 IH : ∀ m' n', m' + n' < 2 * n → MulSpec T m' n'
section
variable {T : Int} {w0 w : World} {x y z t : Loc} {xs ys : List Nat} {n n2 sb ns n' : Nat} {J J' : SI} {b0 b1 c0 c1 e0 e2 e1 ex ey : Nat}
theorem digs_take_len {xs : List Nat} (h : Digs B64 xs) (k : Nat) : (digs (val B64 (xs.take k))).length ≤ k := by
 have := digs_len_le (h.take k)
 rw [List.length_take] at this; omega
theorem digs_drop_len {xs : List Nat} (h : Digs B64 xs) (k : Nat) : (digs (val B64 (xs.drop k))).length ≤ xs.length - k := by
 have := digs_len_le (h.drop k)
 rwa [List.length_drop] at this
theorem digs_sub_len {a b k : Nat} (ha : (digs a).length ≤ k) (hb : (digs b).length ≤ k) : (digs ((a : Int) - (b : Int)).natAbs).length ≤ k := by
 rcases Nat.le_total a b with h | h
 · exact Nat.le_trans (digs_len_mono (by omega)) hb
 · exact Nat.le_trans (digs_len_mono (by omega)) ha
theorem digs_mul_len (a b : Nat) : (digs (a * b)).length ≤ (digs a).length + (digs b).length := by
 refine digs_len_of_lt ?_
 rw [Nat.pow_add]
 exact Nat.mul_lt_mul_of_lt_of_le (lt_of_digs_len a) (Nat.le_of_lt (lt_of_digs_len b)) (Nat.pow_pos B64_pos)
theorem zwr (a k : Nat) (A : Option Addr) (h : a + k ≤ 2 * n) : ∀ b i, ZF ⟨A, z.c - a, z.b, z.o + a⟩ k b i → Wr w0 z (2 * n) sb ns J b i := by
 rintro b i ⟨h1, h2, h3, h4⟩
 exact Or.inl ⟨h1, by simp only at *; omega, by simp only at *; omega⟩
theorem kstep_sub (E : KEnv T w0 x y z t xs ys n n2 sb ns n' J b0 b1 c0 c1 e0 e2 e1 ex ey) (K : KCore T w0 w x y z xs ys n n2 sb ns n' J J' b0 b1 c0 c1) {d u v a nz : Nat} {lz lu lv : Loc} {sz : Bool} {U V : Nat}
  (hlz : lz = ⟨lz.A, z.c - a, z.b, z.o + a⟩) (hd : IntD w d lz sz nz) (hb : Box4 w0 d b0 b1 c0 c1) (hu : IntV w u lu (U : Int)) (hv : IntV w v lv (V : Int)) (hU : (digs U).length ≤ n2) (hV : (digs V).length ≤ n2) (ha : a + n2 + 1 ≤ 2 * n)
  (au : Apart z lu) (av : Apart z lv) :
  Calls Tryz.prog 79 #[.pointer (some ⟨d, 0, none⟩), .pointer (some ⟨u, 0, none⟩), .pointer (some ⟨v, 0, none⟩)] w fun e w' => e = .returned (.pointer (some ⟨d, 0, none⟩)) ∧
   KCore T w0 w' x y z xs ys n n2 sb ns n' J J' b0 b1 c0 c1 ∧ IntV w' d lz ((U : Int) - V) ∧ Upd (OpF d lz (n2 + 1) J' sb n') w w' := by
 have hk := E.S.hk
 have hm := E.hm
 have h2n := E.h2n
 have hzb : lz.b = z.b := by rw [hlz]
 have hzo : lz.o = z.o + a := by rw [hlz]
 have hzc : lz.c = z.c - a := by rw [hlz]
 have hu' := hu.nat.le
 have hv' := hv.nat.le
 rw [Int.natAbs_natCast] at hu' hv'
 refine (Int_Sub_any d u v lz lu lv sz nz U V w hd hu hv (by rw [Int.natAbs_natCast]; omega) (by rw [Int.natAbs_natCast]; omega) (by rw [Int.natAbs_natCast]; unfold Apart at au; unfold UpOk; omega) (by rw [Int.natAbs_natCast]; unfold Apart at av; unfold UpOk; omega)).mono ?_
 rintro e w' ⟨rfl, r, h1, h2, h3, h4⟩
 rw [Int.natAbs_natCast, Int.natAbs_natCast] at h2 h3
 have er : r = lz := h2 (by omega)
 subst er
 have u' : Upd (OpF d r (n2 + 1) J' sb n') w w' := h3.weak (fun b i h => h.imp id (fun ⟨k1, k2, k3, k4⟩ => Or.inl ⟨k1, k2, by omega, k4⟩))
 have hzF : ∀ b i, ZF r (n2 + 1) b i → Wr w0 z (2 * n) sb ns J b i := by rw [hlz]; exact zwr a (n2 + 1) _ (by omega)
 have hoff : Off J' sb n' r := fun i hi hh => by
  refine (E.S.oz.old E.S.bz K.le K.nn) (a + i) (by omega) ?_
  rw [hzb, hzo] at hh
  rwa [← Nat.add_assoc]
 have hS : StkV w' sb n' J' := K.stk.upd h3 (fun b i h => by
  rcases h with h | h
  · exact h ▸ K.stk.no hd.neg (by decide) (by decide) (by decide) i
  · exact hoff.zf b i h)
 exact ⟨rfl, K.op E.S E.h2 hb hd.ok hzF u' E.thr hS (SI.Le.refl _ _ _), h4, u'⟩
theorem kstep_mul (E : KEnv T w0 x y z t xs ys n n2 sb ns n' J b0 b1 c0 c1 e0 e2 e1 ex ey) (K : KCore T w0 w x y z xs ys n n2 sb ns n' J J' b0 b1 c0 c1) {d u v nz : Nat} {lz lu lv : Loc} {sz : Bool} {U V : Int}
  (hd : IntD w d lz sz nz) (hb : Box4 w0 d b0 b1 c0 c1) (hu : IntV w u lu U) (hv : IntV w v lv V) (huv : u ≠ v) (hle : (digs U.natAbs).length + (digs V.natAbs).length ≤ 2 * n2) (hlc : (digs U.natAbs).length + (digs V.natAbs).length ≤ lz.c)
  (au : Apart lz lu) (av : Apart lz lv) (oz : Off J' sb n' lz) (ou : Off J' sb n' lu) (ov : Off J' sb n' lv) (hzF : ∀ k b i, k ≤ (digs U.natAbs).length + (digs V.natAbs).length → ZF lz k b i → Wr w0 z (2 * n) sb ns J b i) :
  Calls Tryz.prog 57 #[.pointer (some ⟨d, 0, none⟩), .pointer (some ⟨sb, 0, none⟩), .pointer (some ⟨u, 0, none⟩), .pointer (some ⟨v, 0, none⟩)] w fun e w' => e = .returned (.tuple #[]) ∧
   ∃ (rs : List Nat) (J'' : SI), KCore T w0 w' x y z xs ys n n2 sb ns n' J J'' b0 b1 c0 c1 ∧ IntV w' d lz (U * V) ∧ U64 w' lz.b lz.o rs ∧ Digs B64 rs ∧ val B64 rs = U.natAbs * V.natAbs ∧ rs.length ≤ (digs U.natAbs).length + (digs V.natAbs).length ∧
    Upd (OpF d lz rs.length J' sb n') w w' ∧ SI.Le w sb J' J'' := by
 have h2n := E.h2n
 have h2f := E.h2f
 have hbd := E.bd
 have hG := G_mono hle
 refine (Int_mul_stk T d u v lz lu lv sz nz U V sb n' J' w (E.IH _ _ (by omega)) hd hu hv huv (Or.inr au) (Or.inr av) K.thr K.stk oz ou ov (by omega)).mono ?_
 rintro e w' ⟨rfl, r, rs, J'', hO, hV, hU⟩
 have er : r = lz := hO.re ⟨au, av, hlc⟩
 subst er
 exact ⟨rfl, rs, J'', K.op E.S E.h2 hb hd.ok (fun b i => hzF _ b i hO.ln) hU E.thr hO.stk hO.le, hV, hO.u, hO.d, hO.v, hO.ln, hU, hO.le⟩
theorem kstep_add (E : KEnv T w0 x y z t xs ys n n2 sb ns n' J b0 b1 c0 c1 e0 e2 e1 ex ey) (K : KCore T w0 w x y z xs ys n n2 sb ns n' J J' b0 b1 c0 c1) {d v : Nat} {lz lv : Loc} {U V : Int}
  (hd : IntV w d lz U) (hb : Box4 w0 d b0 b1 c0 c1) (hv : IntV w v lv V) (hU : (digs U.natAbs).length ≤ 2 * n2 + 1) (hV : (digs V.natAbs).length ≤ 2 * n2) (hz0 : 0 < lz.c) (av : Apart lz lv) (oz : Off J' sb n' lz) (hzF : ∀ k b i, ZF lz k b i → Wr w0 z (2 * n) sb ns J b i) :
  Calls Tryz.prog 64 #[.pointer (some ⟨d, 0, none⟩), .pointer (some ⟨d, 0, none⟩), .pointer (some ⟨v, 0, none⟩)] w fun e w' => e = .returned (.pointer (some ⟨d, 0, none⟩)) ∧
   ∃ (r : Loc) (k : Nat), KCore T w0 w' x y z xs ys n n2 sb ns n' J J' b0 b1 c0 c1 ∧ IntV w' d r (U + V) ∧ (r = lz ∨ w.heap.size ≤ r.b) ∧ (max (digs U.natAbs).length (digs V.natAbs).length + 1 ≤ lz.c → r = lz) ∧ Upd (OpF d lz k J' sb n') w w' := by
 have h2n := E.h2n
 have h2f := E.h2f
 have hm := E.hm
 have hv' := hv.nat.le
 have hd' := hd.nat.le
 refine (Int_Add_any d d v lz lz lv _ _ U V w hd.dest hd hv (by omega) (by omega) (UpOk.self _ _ _) (by unfold Apart at av; unfold UpOk; omega)).mono ?_
 rintro e w' ⟨rfl, r, h1, h2, h3, h4⟩
 have u' : Upd (OpF d lz (max (digs U.natAbs).length (digs V.natAbs).length + 1) J' sb n') w w' := h3.weak (fun b i h => h.imp id Or.inl)
 have hS : StkV w' sb n' J' := K.stk.upd h3 (fun b i h => by
  rcases h with h | h
  · exact h ▸ K.stk.no hd.neg (by decide) (by decide) (by decide) i
  · exact oz.zf b i h)
 exact ⟨rfl, r, _, K.op E.S E.h2 hb hd.nat.ok (hzF _) u' E.thr hS (SI.Le.refl _ _ _), h4, h1, h2, u'⟩
end
end Go.Proofs.YthkklkjldpcbkaaGreatDoor
namespace Go.Proofs.YthkklkjldpcbkaaGreatDoor
open Go.RowKit
section
variable (T : Int) (w0 w : World) (x y z t : Loc) (xs ys zs : List Nat) (n n2 sb ns n' : Nat) (J J' : SI) (b0 b1 c0 c1 e0 e2 e1 ex ey : Nat)
def XL (xs : List Nat) (n2 : Nat) : Nat := val B64 (xs.take n2)
def XH (xs : List Nat) (n2 : Nat) : Nat := val B64 (xs.drop n2)
structure KA : Prop where
 core : KCore T w0 w x y z xs ys n n2 sb ns n' J J' b0 b1 c0 c1
 i0 : IntD w e0 z false (2 * n2)
 i2 : IntD w e2 (hi z (2 * n2)) false (2 * n - 2 * n2)
 i1 : IntD w e1 t false (2 * n2 + 1)
 ix : IntV w ex z ((XL xs n2 : Int) - XH xs n2)
 iy : IntD w ey (hi z n2) false n2
 toff : Off J' sb n' t
structure KB : Prop where
 core : KCore T w0 w x y z xs ys n n2 sb ns n' J J' b0 b1 c0 c1
 i0 : IntD w e0 z false (2 * n2)
 i2 : IntD w e2 (hi z (2 * n2)) false (2 * n - 2 * n2)
 i1 : IntD w e1 t false (2 * n2 + 1)
 ix : IntV w ex z ((XL xs n2 : Int) - XH xs n2)
 iy : IntV w ey (hi z n2) ((XH ys n2 : Int) - XL ys n2)
 toff : Off J' sb n' t
def DD (xs ys : List Nat) (n2 : Nat) : Int := ((XL xs n2 : Int) - XH xs n2) * ((XH ys n2 : Int) - XL ys n2)
structure KC : Prop where
 core : KCore T w0 w x y z xs ys n n2 sb ns n' J J' b0 b1 c0 c1
 i0 : IntD w e0 z false (2 * n2)
 i2 : IntD w e2 (hi z (2 * n2)) false (2 * n - 2 * n2)
 i1 : IntV w e1 t (DD xs ys n2)
 toff : Off J' sb n' t
structure KD : Prop where
 kc : KC T w0 w x y z t xs ys n n2 sb ns n' J J' b0 b1 c0 c1 e0 e2 e1
 zu : U64 w z.b z.o (List.replicate (2 * n) 0)
structure KE : Prop where
 core : KCore T w0 w x y z xs ys n n2 sb ns n' J J' b0 b1 c0 c1
 i0 : IntV w e0 z (XL xs n2 * XL ys n2 : Nat)
 i2 : IntD w e2 (hi z (2 * n2)) false (2 * n - 2 * n2)
 i1 : IntV w e1 t (DD xs ys n2)
 toff : Off J' sb n' t
 zu : U64 w z.b z.o (zs ++ List.replicate (2 * n - zs.length) 0)
 zl : zs.length ≤ 2 * n2
 zd : Digs B64 zs
 zv : val B64 zs = XL xs n2 * XL ys n2
structure KZ : Prop where
 zu : U64 w z.b z.o zs
 zl : zs.length = 2 * n
 zd : Digs B64 zs
 zv : val B64 zs = XL xs n2 * XL ys n2 + B64 ^ (2 * n2) * (XH xs n2 * XH ys n2)
structure KF : Prop where
 core : KCore T w0 w x y z xs ys n n2 sb ns n' J J' b0 b1 c0 c1
 i0 : IntV w e0 z (XL xs n2 * XL ys n2 : Nat)
 i2 : IntV w e2 (hi z (2 * n2)) (XH xs n2 * XH ys n2 : Nat)
 i1 : IntV w e1 t (DD xs ys n2)
 toff : Off J' sb n' t
 kz : KZ w z xs ys zs n n2
structure KG : Prop where
 core : KCore T w0 w x y z xs ys n n2 sb ns n' J J' b0 b1 c0 c1
 i2 : IntV w e2 (hi z (2 * n2)) (XH xs n2 * XH ys n2 : Nat)
 i1 : IntV w e1 t (DD xs ys n2 + (XL xs n2 * XL ys n2 : Nat))
 toff : Off J' sb n' t
 kz : KZ w z xs ys zs n n2
structure KH (r : Loc) : Prop where
 core : KCore T w0 w x y z xs ys n n2 sb ns n' J J' b0 b1 c0 c1
 i1 : IntV w e1 r (XL xs n2 * XH ys n2 + XH xs n2 * XL ys n2 : Nat)
 kz : KZ w z xs ys zs n n2
 ap : Apart r z
end
section
variable {T : Int} {w0 w : World} {x y z t : Loc} {xs ys zs : List Nat} {n n2 sb ns n' : Nat} {J J' : SI} {b0 b1 c0 c1 e0 e2 e1 ex ey : Nat}
theorem KEnv.lens (E : KEnv T w0 x y z t xs ys n n2 sb ns n' J b0 b1 c0 c1 e0 e2 e1 ex ey) : (digs (XL xs n2)).length ≤ n2 ∧ (digs (XH xs n2)).length ≤ n - n2 ∧ (digs (XL ys n2)).length ≤ n2 ∧ (digs (XH ys n2)).length ≤ n - n2 := by
 have h1 := digs_drop_len E.dx n2
 have h2 := digs_drop_len E.dy n2
 rw [E.lx] at h1
 rw [E.ly] at h2
 exact ⟨digs_take_len E.dx n2, h1, digs_take_len E.dy n2, h2⟩
theorem KEnv.zoff (E : KEnv T w0 x y z t xs ys n n2 sb ns n' J b0 b1 c0 c1 e0 e2 e1 ex ey) (K : KCore T w0 w x y z xs ys n n2 sb ns n' J J' b0 b1 c0 c1) : Off J' sb n' z := E.S.oz.old E.S.bz K.le K.nn
theorem KEnv.taz (E : KEnv T w0 x y z t xs ys n n2 sb ns n' J b0 b1 c0 c1 e0 e2 e1 ex ey) : Apart t z := E.tj.apart E.S.oz E.S.bz
theorem kA (E : KEnv T w0 x y z t xs ys n n2 sb ns n' J b0 b1 c0 c1 e0 e2 e1 ex ey) (K : KSet T w0 w x y z t xs ys n n2 sb ns n' J J' b0 b1 c0 c1 e0 e2 e1 ex ey) :
  Calls Tryz.prog 79 #[.pointer (some ⟨ex, 0, none⟩), .pointer (some ⟨b0, 0, none⟩), .pointer (some ⟨b1, 0, none⟩)] w fun e w' => e = .returned (.pointer (some ⟨ex, 0, none⟩)) ∧
   KA T w0 w' x y z t xs ys n n2 sb ns n' J J' b0 b1 c0 c1 e0 e2 e1 ex ey := by
 obtain ⟨l1, l2, l3, l4⟩ := E.lens
 have h1 := E.h2n
 have h2 := E.h2e
 have h3 := E.h2f
 have hk := E.S.hk
 refine (kstep_sub E K.core (U := XL xs n2) (V := XH xs n2) (a := 0) rfl K.ix E.ds.hx K.core.x0 K.core.x1 l1 (by omega) (by omega) E.S.ax (E.S.ax.cut _ (by have := E.xc; omega))).mono ?_
 rintro e w' ⟨rfl, hK, hV, hU⟩
 have hok := K.ix.ok
 exact ⟨rfl, hK, K.i0.op E.ds.d0x hok K.core.stk hU, K.i2.op E.ds.d2x hok K.core.stk hU, K.i1.op E.ds.d1x hok K.core.stk hU, hV, K.iy.op (Ne.symm E.ds.xy) hok K.core.stk hU, K.toff⟩
theorem kB (E : KEnv T w0 x y z t xs ys n n2 sb ns n' J b0 b1 c0 c1 e0 e2 e1 ex ey) (K : KA T w0 w x y z t xs ys n n2 sb ns n' J J' b0 b1 c0 c1 e0 e2 e1 ex ey) :
  Calls Tryz.prog 79 #[.pointer (some ⟨ey, 0, none⟩), .pointer (some ⟨c1, 0, none⟩), .pointer (some ⟨c0, 0, none⟩)] w fun e w' => e = .returned (.pointer (some ⟨ey, 0, none⟩)) ∧
   KB T w0 w' x y z t xs ys n n2 sb ns n' J J' b0 b1 c0 c1 e0 e2 e1 ex ey := by
 obtain ⟨l1, l2, l3, l4⟩ := E.lens
 have h1 := E.h2n
 have h2 := E.h2e
 have h3 := E.h2f
 have hk := E.S.hk
 have hx := digs_sub_len (k := n2) l1 (by omega : (digs (XH xs n2)).length ≤ n2)
 refine (kstep_sub E K.core (U := XH ys n2) (V := XL ys n2) (a := n2) rfl K.iy E.ds.hy K.core.y1 K.core.y0 (by omega) l3 (by omega) (E.S.ay.cut _ (by have := E.yc; omega)) E.S.ay).mono ?_
 rintro e w' ⟨rfl, hK, hV, hU⟩
 have hok := K.iy.ok
 refine ⟨rfl, hK, K.i0.op E.ds.d0y hok K.core.stk hU, K.i2.op E.ds.d2y hok K.core.stk hU, K.i1.op E.ds.d1y hok K.core.stk hU, K.ix.op E.ds.xy K.iy.neg hok K.core.stk hU (fun j hj => ⟨?_, ?_⟩), hV, K.toff⟩
 ·
  rintro ⟨_, g2, _, _⟩
  simp only at g2
  omega
 · exact E.zoff K.core j (by omega)
theorem kC (E : KEnv T w0 x y z t xs ys n n2 sb ns n' J b0 b1 c0 c1 e0 e2 e1 ex ey) (K : KB T w0 w x y z t xs ys n n2 sb ns n' J J' b0 b1 c0 c1 e0 e2 e1 ex ey) :
  Calls Tryz.prog 57 #[.pointer (some ⟨e1, 0, none⟩), .pointer (some ⟨sb, 0, none⟩), .pointer (some ⟨ex, 0, none⟩), .pointer (some ⟨ey, 0, none⟩)] w fun e w' => e = .returned (.tuple #[]) ∧
   ∃ J'', KC T w0 w' x y z t xs ys n n2 sb ns n' J J'' b0 b1 c0 c1 e0 e2 e1 := by
 obtain ⟨l1, l2, l3, l4⟩ := E.lens
 have h1 := E.h2n
 have h2 := E.h2e
 have h3 := E.h2f
 have hk := E.S.hk
 have htc := E.tc
 have hx := digs_sub_len (k := n2) l1 (by omega : (digs (XH xs n2)).length ≤ n2)
 have hy := digs_sub_len (k := n2) (by omega : (digs (XH ys n2)).length ≤ n2) l3
 have hz := E.zoff K.core
 refine (kstep_mul E K.core K.i1 E.ds.h1 K.ix K.iy E.ds.xy (by omega) (by omega) E.taz (E.taz.cut _ (by omega)) K.toff hz (hz.cut _ n2) (fun k b i _ h => ?_)).mono ?_
 ·
  rcases E.tj.zf b i h with h | h
  · exact Or.inr (Or.inl h)
  · exact Or.inr (Or.inr h)
 ·
  rintro e w' ⟨rfl, rs, J'', hK, hV, _, _, _, _, hU, hJ⟩
  have hok := K.i1.ok
  exact ⟨rfl, J'', hK, K.i0.op E.ds.d01 hok K.core.stk hU, K.i2.op (Ne.symm E.ds.d12) hok K.core.stk hU, hV, K.toff.le hok hJ⟩
theorem kD {w' : World} (E : KEnv T w0 x y z t xs ys n n2 sb ns n' J b0 b1 c0 c1 e0 e2 e1 ex ey) (K : KC T w0 w x y z t xs ys n n2 sb ns n' J J' b0 b1 c0 c1 e0 e2 e1) (u : Upd (Rg z.b z.o (z.o + 2 * n)) w w') (hz : U64 w' z.b z.o (List.replicate (2 * n) 0)) :
  KD T w0 w' x y z t xs ys n n2 sb ns n' J J' b0 b1 c0 c1 e0 e2 e1 := by
 have h1 := E.h2n
 have hk := E.S.hk
 have hno : ∀ {b i : Nat} {v : Value}, CellT 58 w b i v → ∀ j, ¬ Rg z.b z.o (z.o + 2 * n) b j := fun c j ⟨e, _⟩ => by
  obtain ⟨u, hu⟩ := K.core.ok.live 0 (by omega)
  exact c.neW hu (by decide) e
 refine ⟨⟨K.core.wz E.S E.h2 (by omega) (Nat.le_refl _) (Nat.le_refl _) u, K.i0.upd u (hno K.i0.neg), K.i2.upd u (hno K.i2.neg), K.i1.upd u (hno K.i1.neg) (fun i hi ⟨g1, g2, g3⟩ => ?_), K.toff⟩, hz⟩
 have := K.i1.nat.le
 have := E.taz
 unfold Apart at this
 omega
theorem kE (E : KEnv T w0 x y z t xs ys n n2 sb ns n' J b0 b1 c0 c1 e0 e2 e1 ex ey) (hbc : b0 ≠ c0) (K : KD T w0 w x y z t xs ys n n2 sb ns n' J J' b0 b1 c0 c1 e0 e2 e1) :
  Calls Tryz.prog 57 #[.pointer (some ⟨e0, 0, none⟩), .pointer (some ⟨sb, 0, none⟩), .pointer (some ⟨b0, 0, none⟩), .pointer (some ⟨c0, 0, none⟩)] w fun e w' => e = .returned (.tuple #[]) ∧
   ∃ (zs : List Nat) (J'' : SI), KE T w0 w' x y z t xs ys zs n n2 sb ns n' J J'' b0 b1 c0 c1 e0 e2 e1 := by
 obtain ⟨l1, l2, l3, l4⟩ := E.lens
 have h1 := E.h2n
 have h2 := E.h2e
 have h3 := E.h2f
 have hk := E.S.hk
 have hz := E.zoff K.kc.core
 have hx := E.S.ox.old E.S.bx K.kc.core.le K.kc.core.nn
 have hy := E.S.oy.old E.S.b_y K.kc.core.le K.kc.core.nn
 refine (kstep_mul E K.kc.core K.kc.i0 E.ds.h0 (U := (XL xs n2 : Nat)) (V := (XL ys n2 : Nat)) K.kc.core.x0 K.kc.core.y0 hbc (by rw [Int.natAbs_natCast, Int.natAbs_natCast]; omega) (by rw [Int.natAbs_natCast, Int.natAbs_natCast]; omega) E.S.ax E.S.ay hz hx hy
  (fun k b i hk2 h => zwr 0 k z.A (by rw [Int.natAbs_natCast, Int.natAbs_natCast] at hk2; omega) b i h)).mono ?_
 rintro e w' ⟨rfl, rs, J'', hK, hV, hR, hD, hv, hl, hU, hJ⟩
 rw [Int.natAbs_natCast, Int.natAbs_natCast] at hl
 have hv2 : val B64 rs = XL xs n2 * XL ys n2 := by rw [hv, Int.natAbs_natCast, Int.natAbs_natCast]
 have hok := K.kc.i0.ok
 rw [show ((XL xs n2 : Nat) : Int) * ((XL ys n2 : Nat) : Int) = ((XL xs n2 * XL ys n2 : Nat) : Int) from by push_cast; rfl] at hV
 have hl2 : rs.length ≤ 2 * n2 := by omega
 refine ⟨rfl, rs, J'', hK, hV, K.kc.i2.op (Ne.symm E.ds.d02) hok K.kc.core.stk hU, K.kc.i1.op (Ne.symm E.ds.d01) K.kc.i0.neg hok K.kc.core.stk hU (fun j hj => ⟨?_, ?_⟩), ?_, hR.append ?_, hl2, hD, hv2⟩
 · exact Apart.zf E.taz.symm (by have := K.kc.i1.nat.le; omega)
 · exact K.kc.toff j (by have := K.kc.i1.nat.le; omega)
 · exact K.kc.toff.le K.kc.i1.nat.ok hJ
 ·
  have hd := K.zu.drop rs.length
  rw [List.drop_replicate] at hd
  refine hd.upd hU (fun i hi hf => ?_)
  rw [List.length_replicate] at hi
  rcases hf with hf | ⟨_, _, hf, _⟩ | hf
  ·
   obtain ⟨u, hu⟩ := K.kc.core.ok.live 0 (by omega)
   exact K.kc.i0.neg.neW hu (by decide) hf.symm
  · omega
  · exact hz (rs.length + i) (by omega) (by rw [← Nat.add_assoc]; exact hf)
theorem kF (E : KEnv T w0 x y z t xs ys n n2 sb ns n' J b0 b1 c0 c1 e0 e2 e1 ex ey) (hbc : b1 ≠ c1) (K : KE T w0 w x y z t xs ys zs n n2 sb ns n' J J' b0 b1 c0 c1 e0 e2 e1) :
  Calls Tryz.prog 57 #[.pointer (some ⟨e2, 0, none⟩), .pointer (some ⟨sb, 0, none⟩), .pointer (some ⟨b1, 0, none⟩), .pointer (some ⟨c1, 0, none⟩)] w fun e w' => e = .returned (.tuple #[]) ∧
   ∃ (zs' : List Nat) (J'' : SI), KF T w0 w' x y z t xs ys zs' n n2 sb ns n' J J'' b0 b1 c0 c1 e0 e2 e1 := by
 obtain ⟨l1, l2, l3, l4⟩ := E.lens
 have h1 := E.h2n
 have h2 := E.h2e
 have h3 := E.h2f
 have hk := E.S.hk
 have hxc := E.xc
 have hyc := E.yc
 have hz := E.zoff K.core
 have hx := (E.S.ox.old E.S.bx K.core.le K.core.nn).cut (some ⟨x.b, x.o + n2, none⟩) n2
 have hy := (E.S.oy.old E.S.b_y K.core.le K.core.nn).cut (some ⟨y.b, y.o + n2, none⟩) n2
 have ax := (E.S.ax.cut (some ⟨x.b, x.o + n2, none⟩) (k := n2) (by omega)).cutL (some ⟨z.b, z.o + 2 * n2, none⟩) (k := 2 * n2) (by omega)
 have ay := (E.S.ay.cut (some ⟨y.b, y.o + n2, none⟩) (k := n2) (by omega)).cutL (some ⟨z.b, z.o + 2 * n2, none⟩) (k := 2 * n2) (by omega)
 refine (kstep_mul E K.core K.i2 E.ds.h2 (U := (XH xs n2 : Nat)) (V := (XH ys n2 : Nat)) K.core.x1 K.core.y1 hbc (by rw [Int.natAbs_natCast, Int.natAbs_natCast]; omega) (by rw [Int.natAbs_natCast, Int.natAbs_natCast]; simp only; omega) ax ay (hz.cut _ _) hx hy
  (fun k b i hk2 h => zwr (2 * n2) k _ (by rw [Int.natAbs_natCast, Int.natAbs_natCast] at hk2; omega) b i h)).mono ?_
 rintro e w' ⟨rfl, rs, J'', hK, hV, hR, hD, hv, hl, hU, hJ⟩
 rw [Int.natAbs_natCast, Int.natAbs_natCast] at hl
 have hv2 : val B64 rs = XH xs n2 * XH ys n2 := by rw [hv, Int.natAbs_natCast, Int.natAbs_natCast]
 have hok := K.i2.ok
 rw [show ((XH xs n2 : Nat) : Int) * ((XH ys n2 : Nat) : Int) = ((XH xs n2 * XH ys n2 : Nat) : Int) from by push_cast; rfl] at hV
 have hl2 : 2 * n2 + rs.length ≤ 2 * n := by omega
 have hzl := K.zl
 have hnb : ∀ i, ¬ Blk e2 z.b i := fun i hf => by
  obtain ⟨u, hu⟩ := K.core.ok.live 0 (by omega)
  exact K.i2.neg.neW hu (by decide) (Eq.symm hf)
 have hzv := K.zv
 have hp0 := digs_mul_len (XL xs n2) (XL ys n2)
 -- the words of z: what was there, zeros, the new ones, zeros
 have hw : U64 w' z.b z.o ((zs ++ List.replicate (2 * n2 - zs.length) 0) ++ (rs ++ List.replicate (2 * n - 2 * n2 - rs.length) 0)) := by
  have hsplit : zs ++ List.replicate (2 * n - zs.length) 0 = (zs ++ List.replicate (2 * n2 - zs.length) 0) ++ List.replicate (2 * n - 2 * n2) 0 := by
   rw [List.append_assoc, List.replicate_append_replicate]; congr 2; omega
  have hu := K.zu
  rw [hsplit] at hu
  have hlen : (zs ++ List.replicate (2 * n2 - zs.length) 0).length = 2 * n2 := by rw [List.length_append, List.length_replicate]; omega
  refine U64.append (hu.left.upd hU (fun i hi hf => ?_)) ?_
  ·
   rw [hlen] at hi
   rcases hf with hf | ⟨_, hf, _, _⟩ | hf
   · exact hnb _ hf
   · simp only at hf; omega
   · exact hz i (by omega) hf
  ·
   rw [hlen]
   refine U64.append hR ?_
   have hu2 := hu.right
   rw [hlen] at hu2
   have hd := hu2.drop rs.length
   rw [List.drop_replicate] at hd
   refine hd.upd hU (fun i hi hf => ?_)
   rw [List.length_replicate] at hi
   rcases hf with hf | ⟨_, _, hf, _⟩ | hf
   · exact hnb _ hf
   · simp only at hf; omega
   · exact hz (2 * n2 + rs.length + i) (by omega) (by rw [← Nat.add_assoc, ← Nat.add_assoc]; exact hf)
 refine ⟨rfl, _, J'', hK, K.i0.op E.ds.d02 K.i2.neg hok K.core.stk hU (fun j hj => ⟨?_, ?_⟩), hV, K.i1.op E.ds.d12 K.i2.neg hok K.core.stk hU (fun j hj => ⟨?_, ?_⟩), ?_, ⟨hw, ?_, ?_, ?_⟩⟩
 ·
  rintro ⟨_, g2, _, _⟩
  rw [Int.natAbs_natCast] at hj
  simp only at g2
  omega
 ·
  rw [Int.natAbs_natCast] at hj
  exact hz j (by omega)
 · exact Apart.zf (E.taz.symm.cutL _ (by omega)) (by have := K.i1.nat.le; omega)
 · exact K.toff j (by have := K.i1.nat.le; omega)
 · exact K.toff.le K.i1.nat.ok hJ
 · simp only [List.length_append, List.length_replicate]; omega
 · exact (K.zd.append (Digs.replicate B64_pos _)).append (hD.append (Digs.replicate B64_pos _))
 ·
  rw [val_append, val_append, val_append, val_replicate, val_replicate, hv2, K.zv, List.length_append, List.length_replicate, show zs.length + (2 * n2 - zs.length) = 2 * n2 from by omega]
  simp
theorem KZ.op {w' : World} {d k : Nat} {lz : Loc} (K : KCore T w0 w x y z xs ys n n2 sb ns n' J J' b0 b1 c0 c1) (E : KEnv T w0 x y z t xs ys n n2 sb ns n' J b0 b1 c0 c1 e0 e2 e1 ex ey) (h : KZ w z xs ys zs n n2) {i : Nat} {v : Value} (hd : CellT 58 w d i v) (ap : Apart lz z)
  (u : Upd (OpF d lz k J' sb n') w w') : KZ w' z xs ys zs n n2 := by
 have hk := E.S.hk
 have h1 := E.h2n
 refine ⟨h.zu.upd u (fun i hi hf => ?_), h.zl, h.zd, h.zv⟩
 rw [h.zl] at hi
 rcases hf with hf | hf | hf
 ·
  obtain ⟨u, hu⟩ := K.ok.live 0 (by omega)
  exact hd.neW hu (by decide) (Eq.symm hf)
 · exact Apart.zf ap (by omega) hf
 · exact E.zoff K i (by omega) hf
theorem kG (E : KEnv T w0 x y z t xs ys n n2 sb ns n' J b0 b1 c0 c1 e0 e2 e1 ex ey) (K : KF T w0 w x y z t xs ys zs n n2 sb ns n' J J' b0 b1 c0 c1 e0 e2 e1) :
  Calls Tryz.prog 64 #[.pointer (some ⟨e1, 0, none⟩), .pointer (some ⟨e1, 0, none⟩), .pointer (some ⟨e0, 0, none⟩)] w fun e w' => e = .returned (.pointer (some ⟨e1, 0, none⟩)) ∧
   KG T w0 w' x y z t xs ys zs n n2 sb ns n' J J' b0 b1 c0 c1 e2 e1 := by
 obtain ⟨l1, l2, l3, l4⟩ := E.lens
 have h1 := E.h2n
 have h2 := E.h2e
 have h3 := E.h2f
 have hk := E.S.hk
 have htc := E.tc
 have hx := digs_sub_len (k := n2) l1 (by omega : (digs (XH xs n2)).length ≤ n2)
 have hy := digs_sub_len (k := n2) (by omega : (digs (XH ys n2)).length ≤ n2) l3
 have hD : (digs (DD xs ys n2).natAbs).length ≤ 2 * n2 := by
  unfold DD; rw [Int.natAbs_mul]
  have := digs_mul_len ((XL xs n2 : Int) - XH xs n2).natAbs ((XH ys n2 : Int) - XL ys n2).natAbs
  omega
 have hP : (digs (XL xs n2 * XL ys n2)).length ≤ 2 * n2 := by have := digs_mul_len (XL xs n2) (XL ys n2); omega
 refine (kstep_add E K.core K.i1 E.ds.h1 (V := (XL xs n2 * XL ys n2 : Nat)) K.i0 (by omega) (by rw [Int.natAbs_natCast]; exact hP) (by omega) E.taz K.toff (fun k b i h => ?_)).mono ?_
 ·
  rcases E.tj.zf b i h with h | h
  · exact Or.inr (Or.inl h)
  · exact Or.inr (Or.inr h)
 ·
  rintro e w' ⟨rfl, r, k, hK, hV, hr, hre, hU⟩
  rw [Int.natAbs_natCast] at hre
  have er : r = t := hre (by omega)
  subst er
  have hok := K.i1.nat.ok
  have hz := E.zoff K.core
  exact ⟨rfl, hK, K.i2.op (Ne.symm E.ds.d12) K.i1.neg hok K.core.stk hU (fun j hj => by
    rw [Int.natAbs_natCast] at hj
    have := digs_mul_len (XH xs n2) (XH ys n2)
    exact ⟨Apart.zf (m := hi z (2 * n2)) (E.taz.cut _ (by omega)) (by simp only; omega), (hz.cut (some ⟨z.b, z.o + 2 * n2, none⟩) (2 * n2)) j (by simp only; omega)⟩), hV, K.toff, K.kz.op K.core E K.i1.neg E.taz hU⟩
theorem kH (E : KEnv T w0 x y z t xs ys n n2 sb ns n' J b0 b1 c0 c1 e0 e2 e1 ex ey) (K : KG T w0 w x y z t xs ys zs n n2 sb ns n' J J' b0 b1 c0 c1 e2 e1) :
  Calls Tryz.prog 64 #[.pointer (some ⟨e1, 0, none⟩), .pointer (some ⟨e1, 0, none⟩), .pointer (some ⟨e2, 0, none⟩)] w fun e w' => e = .returned (.pointer (some ⟨e1, 0, none⟩)) ∧
   ∃ r, KH T w0 w' x y z xs ys zs n n2 sb ns n' J J' b0 b1 c0 c1 e1 r := by
 obtain ⟨l1, l2, l3, l4⟩ := E.lens
 have h1 := E.h2n
 have h2 := E.h2e
 have h3 := E.h2f
 have hk := E.S.hk
 have htc := E.tc
 have hx := digs_sub_len (k := n2) l1 (by omega : (digs (XH xs n2)).length ≤ n2)
 have hy := digs_sub_len (k := n2) (by omega : (digs (XH ys n2)).length ≤ n2) l3
 have hD : (digs (DD xs ys n2).natAbs).length ≤ 2 * n2 := by
  unfold DD; rw [Int.natAbs_mul]
  have := digs_mul_len ((XL xs n2 : Int) - XH xs n2).natAbs ((XH ys n2 : Int) - XL ys n2).natAbs
  omega
 have hP : (digs (XL xs n2 * XL ys n2)).length ≤ 2 * n2 := by have := digs_mul_len (XL xs n2) (XL ys n2); omega
 have hQ : (digs (XH xs n2 * XH ys n2)).length ≤ 2 * n2 := by have := digs_mul_len (XH xs n2) (XH ys n2); omega
 have hU : (digs (DD xs ys n2 + (XL xs n2 * XL ys n2 : Nat)).natAbs).length ≤ 2 * n2 + 1 := by
  refine digs_len_of_lt ?_
  have a1 : (DD xs ys n2).natAbs < B64 ^ (2 * n2) := Nat.lt_of_lt_of_le (lt_of_digs_len _) (Nat.pow_le_pow_right B64_pos hD)
  have a2 : XL xs n2 * XL ys n2 < B64 ^ (2 * n2) := Nat.lt_of_lt_of_le (lt_of_digs_len _) (Nat.pow_le_pow_right B64_pos hP)
  have a3 : 2 * B64 ^ (2 * n2) ≤ B64 ^ (2 * n2 + 1) := by rw [Nat.pow_succ, Nat.mul_comm]; exact Nat.mul_le_mul_left _ (by rw [B64_eq]; omega)
  omega
 have hz := E.zoff K.core
 refine (kstep_add E K.core K.i1 E.ds.h1 (V := (XH xs n2 * XH ys n2 : Nat)) K.i2 hU (by rw [Int.natAbs_natCast]; exact hQ) (by omega) (E.taz.cut _ (by omega)) K.toff (fun k b i h => ?_)).mono ?_
 ·
  rcases E.tj.zf b i h with h | h
  · exact Or.inr (Or.inl h)
  · exact Or.inr (Or.inr h)
 ·
  rintro e w' ⟨rfl, r, k, hK, hV, hr, hre, hU⟩
  have e1 : DD xs ys n2 + (XL xs n2 * XL ys n2 : Nat) + (XH xs n2 * XH ys n2 : Nat) = (XL xs n2 * XH ys n2 + XH xs n2 * XL ys n2 : Nat) := by
   unfold DD; push_cast; grind
  rw [e1] at hV
  refine ⟨rfl, r, hK, hV, K.kz.op K.core E K.i1.neg E.taz hU, ?_⟩
  rcases hr with rfl | hr
  · exact E.taz
  ·
   have := K.core.ok.lt (by omega)
   exact Or.inr (Or.inr (Or.inl (by omega)))
theorem kI_sum {xs ys zs rs : List Nat} {n n2 M c : Nat} (lx : xs.length = n) (ly : ys.length = n) (dx : Digs B64 xs) (dy : Digs B64 ys) (h2 : n2 ≤ n) (lz : zs.length = 2 * n) (hv : val B64 zs = XL xs n2 * XL ys n2 + B64 ^ (2 * n2) * (XH xs n2 * XH ys n2))
  (hM : M = XL xs n2 * XH ys n2 + XH xs n2 * XL ys n2) :
  (digs M).length ≤ 2 * n - n2 ∧ (val B64 (zs.drop n2) + M = val B64 rs + c * B64 ^ (2 * n - n2) → val B64 (zs.take n2 ++ rs) = val B64 xs * val B64 ys) := by
 have hX : val B64 xs = XL xs n2 + B64 ^ n2 * XH xs n2 := val_take_drop xs n2 (by omega)
 have hY : val B64 ys = XL ys n2 + B64 ^ n2 * XH ys n2 := val_take_drop ys n2 (by omega)
 have hlx := val_lt xs dx
 have hly := val_lt ys dy
 rw [lx] at hlx
 rw [ly] at hly
 have hlt : val B64 xs * val B64 ys < B64 ^ (2 * n) := by
  rw [show 2 * n = n + n from by omega, Nat.pow_add]
  exact Nat.mul_lt_mul_of_lt_of_le hlx (Nat.le_of_lt hly) (Nat.pow_pos B64_pos)
 have e2 : B64 ^ (2 * n2) = B64 ^ n2 * B64 ^ n2 := by rw [← Nat.pow_add]; congr 1; omega
 have e3 : B64 ^ (2 * n) = B64 ^ n2 * B64 ^ (2 * n - n2) := by rw [← Nat.pow_add]; congr 1; omega
 have hsum : val B64 zs + B64 ^ n2 * M = val B64 xs * val B64 ys := by rw [hv, hM, hX, hY, e2]; grind
 constructor
 ·
  refine digs_len_of_lt ?_
  have : B64 ^ n2 * M < B64 ^ n2 * B64 ^ (2 * n - n2) := by rw [← e3]; omega
  exact Nat.lt_of_mul_lt_mul_left this
 ·
  intro h
  have h1 : val B64 zs = val B64 (zs.take n2) + B64 ^ n2 * val B64 (zs.drop n2) := val_take_drop zs n2 (by omega)
  have e4 : val B64 (zs.take n2 ++ rs) = val B64 (zs.take n2) + B64 ^ n2 * val B64 rs := by
   rw [val_append, List.length_take, Nat.min_eq_left (by omega)]
  have key : val B64 xs * val B64 ys = val B64 (zs.take n2 ++ rs) + c * B64 ^ (2 * n) := by
   rw [← hsum, h1, e4, e3]
   have : B64 ^ n2 * (val B64 (zs.drop n2) + M) = B64 ^ n2 * (val B64 rs + c * B64 ^ (2 * n - n2)) := by rw [h]
   grind
  rcases Nat.eq_zero_or_pos c with h0 | h0
  · rw [h0] at key; omega
  ·
   have : B64 ^ (2 * n) ≤ c * B64 ^ (2 * n) := Nat.le_mul_of_pos_left _ h0
   omega
theorem kI (E : KEnv T w0 x y z t xs ys n n2 sb ns n' J b0 b1 c0 c1 e0 e2 e1 ex ey) {r : Loc} (K : KH T w0 w x y z xs ys zs n n2 sb ns n' J J' b0 b1 c0 c1 e1 r) :
  Calls Tryz.prog 99 #[.slice (some ⟨z.b, z.o + n2, none⟩) (2 * n - n2) (z.c - n2), .slice r.A (digs (XL xs n2 * XH ys n2 + XH xs n2 * XL ys n2)).length r.c] w fun e w' => e = .returned (.tuple #[]) ∧
   ∃ rs, KCore T w0 w' x y z xs ys n n2 sb ns n' J J' b0 b1 c0 c1 ∧ U64 w' z.b z.o rs ∧ rs.length = 2 * n ∧ Digs B64 rs ∧ val B64 rs = val B64 xs * val B64 ys := by
 have h1 := E.h2n
 have h2 := E.h2
 have hk := E.S.hk
 have hm := E.hm
 have hN := K.i1.nat
 rw [Int.natAbs_natCast] at hN
 have hle := hN.le
 obtain ⟨M, hM⟩ : ∃ M, XL xs n2 * XH ys n2 + XH xs n2 * XL ys n2 = M := ⟨_, rfl⟩
 rw [hM] at hN hle ⊢
 have hs := fun rs c => kI_sum (rs := rs) (c := c) E.lx E.ly E.dx E.dy (by omega : n2 ≤ n) K.kz.zl K.kz.zv hM.symm
 have hl := (hs [] 0).1
 have hap := K.ap
 refine (addTo_any z.b (z.o + n2) (2 * n - n2) (z.c - n2) (digs M).length r.c r.b r.o r.A (zs.drop n2) (digs M) w (by rw [List.length_drop, K.kz.zl]) rfl hl (by omega) (by omega) (by omega) hle (fun h => hN.addr h)
  (K.kz.zu.drop n2) hN.at_ (K.kz.zd.drop n2) (digs_digs M) (by unfold Apart at hap; unfold UpOk; omega)).mono ?_
 rintro e w' ⟨c, rs, rfl, g1, g2, g3, g4, g5⟩
 rw [val_digs] at g5
 have hlt : (zs.take n2).length = n2 := by rw [List.length_take, K.kz.zl]; omega
 refine ⟨rfl, zs.take n2 ++ rs, K.core.wz E.S h2 (by omega) (by omega) (by omega) g1, U64.append ((K.kz.zu.take n2).updR g1 (by rw [hlt]; omega)) (by rw [hlt]; exact g2), by rw [List.length_append, hlt, g3]; omega, (K.kz.zd.take n2).append g4, (hs rs c).2 g5⟩
theorem KH.drew (E : KEnv T w0 x y z t xs ys n n2 sb ns n' J b0 b1 c0 c1 e0 e2 e1 ex ey) {r : Loc} (K : KH T w0 w x y z xs ys zs n n2 sb ns n' J J' b0 b1 c0 c1 e1 r) : KH T w0 w.drew x y z xs ys zs n n2 sb ns n' J J' b0 b1 c0 c1 e1 r := by
 have u : Upd NoF w w.drew := (Upd.refl NoF w).drew
 exact ⟨K.core.step E.S E.h2 u (fun _ _ h => h.elim) (fun _ _ _ h => h) (fun _ h => h) (K.core.stk.upd0 u) K.core.le K.core.nn, K.i1.upd0 u, ⟨K.kz.zu.drew, K.kz.zl, K.kz.zd, K.kz.zv⟩, K.ap⟩
theorem kEnd (E : KEnv T w0 x y z t xs ys n n2 sb ns n' J b0 b1 c0 c1 e0 e2 e1 ex ey) {w' : World} {rs : List Nat} (K : KCore T w0 w x y z xs ys n n2 sb ns n' J J' b0 b1 c0 c1) (hR : U64 w z.b z.o rs) (hl : rs.length = 2 * n) (hD : Digs B64 rs) (hv : val B64 rs = val B64 xs * val B64 ys)
  (hS : StkV w' sb ns J') (u : Upd (J'.K sb n') w w') : KaraPost w0 z n (val B64 xs * val B64 ys) sb ns J (.returned (.tuple #[])) w' := by
 have hk := E.S.hk
 refine ⟨rs, J', rfl, hl, hR.upd u (fun i hi hf => ?_), hD, hv, K.upd.then u (fun _ _ _ h => h) (fun b i hb h => Or.inr (K.le _ _ _ hb (h.mono K.nn))), hS, K.le⟩
 exact E.zoff K i (by omega) hf
end
end Go.Proofs.YthkklkjldpcbkaaGreatDoor
