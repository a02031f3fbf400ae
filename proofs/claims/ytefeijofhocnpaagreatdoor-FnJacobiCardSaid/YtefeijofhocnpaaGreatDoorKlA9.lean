/- For the claim of laws.The program's symbol is Jacobi's (FnJacobi).: KaraM, KaraS, KaraT. -/
import Derived.Test.YtefeijofhocnpaaGreatDoorKlA6
set_option linter.unusedVariables false
set_option linter.unusedSimpArgs false
namespace Go.Proofs.YtefeijofhocnpaaGreatDoor
open Go.RowKit
def OpF (d : Nat) (lz : Loc) (k : Nat) (J : SI) (sb n : Nat) : Nat → Nat → Prop := Or2 (Blk d) (Or2 (ZF lz k) (J.K sb n))
theorem OpF.noInt {w : World} {d k sb n : Nat} {lz : Loc} {J : SI} (hl : lz.Ok w) (hS : StkV w sb n J) {b i : Nat} {v : Value} (c : CellT 80 w b i v) (hb : b ≠ d) (j : Nat) : ¬ OpF d lz k J sb n b j := by
  rintro (h | h | h)
  · exact hb h
  · exact ZF.no hl c (by decide) k j h
  · exact hS.no c (by decide) (by decide) (by decide) j h
theorem IntD.op {w w' : World} {b d k sb n len : Nat} {l lz : Loc} {J : SI} {s : Bool} (h : IntD w b l s len) (hb : b ≠ d) (hl : lz.Ok w) (hS : StkV w sb n J) (u : Upd (OpF d lz k J sb n) w w') : IntD w' b l s len :=
  h.upd u (fun i => OpF.noInt hl hS h.neg hb i)
theorem IntV.op {w w' : World} {b d k sb n : Nat} {l lz : Loc} {J : SI} {x : Value} {i : Nat} {V : Int} (h : IntV w b l V) (hb : b ≠ d) (hd : CellT 80 w d i x) (hl : lz.Ok w) (hS : StkV w sb n J) (u : Upd (OpF d lz k J sb n) w w')
    (hw : ∀ j, j < (digs V.natAbs).length → ¬ ZF lz k l.b (l.o + j) ∧ ¬ J.K sb n l.b (l.o + j)) : IntV w' b l V :=
  h.upd u (fun i => OpF.noInt hl hS h.neg hb i) (fun j hj hf => by
    rcases hf with hf | hf | hf
    · exact hd.neW (h.nat.at_ j hj) (by decide) hf.symm
    · exact (hw j hj).1 hf
    · exact (hw j hj).2 hf)
theorem Wr.off {w1 : World} {z1 x : Loc} {k sb ns : Nat} {J : SI} (ox : Off J sb ns x) (hb : 0 < x.c → x.b < w1.heap.size) (ha : Apart z1 x) (hk : k ≤ z1.c) {i : Nat} (hi : i < x.c) : ¬ Wr w1 z1 k sb ns J x.b (x.o + i) := by
  rintro (⟨e, h1, h2⟩ | h1 | h1)
  · unfold Apart at ha; omega
  · exact ox i hi h1
  · have := hb (by omega); omega
@[reducible] def hi (x : Loc) (k : Nat) : Loc := ⟨some ⟨x.b, x.o + k, none⟩, x.c - k, x.b, x.o + k⟩
structure KCore (T : Int) (w0 w : World) (x y z : Loc) (xs ys : List Nat) (n n2 sb ns n' : Nat) (J J' : SI) (b0 b1 c0 c1 : Nat) : Prop where
  x0 : IntV w b0 x (val B64 (xs.take n2) : Nat)
  x1 : IntV w b1 (hi x n2) (val B64 (xs.drop n2) : Nat)
  y0 : IntV w c0 y (val B64 (ys.take n2) : Nat)
  y1 : IntV w c1 (hi y n2) (val B64 (ys.drop n2) : Nat)
  ok : z.Ok w
  thr : Thr w T
  stk : StkV w sb n' J'
  le : SI.Le w0 sb J J'
  upd : Upd (Or2 (Rg z.b z.o (z.o + 2 * n)) (J.K sb ns)) w0 w
  nn : ns ≤ n'
theorem IntV.stepW {w0 w w' : World} {z x : Loc} {k sb ns b a : Nat} {J : SI} {V : Int} {F : Nat → Nat → Prop} (h : IntV w b (if a = 0 then x else hi x a) V) (u : Upd F w w') (hF : ∀ b i, F b i → Wr w0 z k sb ns J b i) (hI : ∀ j, ¬ F b j)
    (ox : Off J sb ns x) (hb : 0 < x.c → x.b < w0.heap.size) (ha : Apart z x) (hk : k ≤ z.c) : IntV w' b (if a = 0 then x else hi x a) V := by
  refine h.upd u hI (fun i hi hf => ?_)
  have hle := h.nat.le
  by_cases e : a = 0
  · rw [if_pos e] at hf hle
    exact Wr.off ox hb ha hk (Nat.lt_of_lt_of_le hi hle) (hF _ _ hf)
  · rw [if_neg e] at hf hle
    simp only at hf hle
    have hlt : a + i < x.c := by omega
    exact Wr.off ox hb ha hk hlt (by rw [← Nat.add_assoc]; exact hF _ _ hf)
theorem KCore.step {T : Int} {w0 w w' : World} {x y z : Loc} {xs ys : List Nat} {n n2 sb ns n' n'' b0 b1 c0 c1 : Nat} {J J' J'' : SI} {F : Nat → Nat → Prop} (S : MidS w0 x y z n n sb ns J) (K : KCore T w0 w x y z xs ys n n2 sb ns n' J J' b0 b1 c0 c1) (h2 : 0 < n2)
    (u : Upd F w w') (hF : ∀ b i, F b i → Wr w0 z (2 * n) sb ns J b i) (hI : ∀ b, (b = b0 ∨ b = b1 ∨ b = c0 ∨ b = c1) → ∀ j, ¬ F b j) (hT : ∀ j, ¬ F 2 j) (hS : StkV w' sb n'' J'') (hJ : SI.Le w0 sb J J'') (hn : ns ≤ n'') :
    KCore T w0 w' x y z xs ys n n2 sb ns n'' J J'' b0 b1 c0 c1 where
  x0 := IntV.stepW (a := 0) K.x0 u hF (hI _ (Or.inl rfl)) S.ox S.bx S.ax (by have := S.hk; omega)
  x1 := by
    have := IntV.stepW (a := n2) (x := x) (by rw [if_neg (by omega)]; exact K.x1) u hF (hI _ (Or.inr (Or.inl rfl))) S.ox S.bx S.ax (by have := S.hk; omega)
    rwa [if_neg (by omega)] at this
  y0 := IntV.stepW (a := 0) K.y0 u hF (hI _ (Or.inr (Or.inr (Or.inl rfl)))) S.oy S.b_y S.ay (by have := S.hk; omega)
  y1 := by
    have := IntV.stepW (a := n2) (x := y) (by rw [if_neg (by omega)]; exact K.y1) u hF (hI _ (Or.inr (Or.inr (Or.inr rfl)))) S.oy S.b_y S.ay (by have := S.hk; omega)
    rwa [if_neg (by omega)] at this
  ok := K.ok.upd u
  thr := K.thr.upd u hT
  stk := hS
  le := hJ
  upd := K.upd.then u (fun _ _ _ h => h) (fun b i hb h => by
    rcases hF _ _ h with h | h | h
    · exact Or.inl h
    · exact Or.inr h
    · omega)
  nn := hn
structure Box4 (w0 : World) (d b0 b1 c0 c1 : Nat) : Prop where
  new : w0.heap.size ≤ d
  n0 : b0 ≠ d
  n1 : b1 ≠ d
  n2 : c0 ≠ d
  n3 : c1 ≠ d
theorem KCore.op {T : Int} {w0 w w' : World} {x y z lz : Loc} {xs ys : List Nat} {n n2 sb ns n' b0 b1 c0 c1 d k : Nat} {J J' J'' : SI} (S : MidS w0 x y z n n sb ns J) (K : KCore T w0 w x y z xs ys n n2 sb ns n' J J' b0 b1 c0 c1) (h2 : 0 < n2)
    (hb : Box4 w0 d b0 b1 c0 c1) (hl : lz.Ok w) (hz : ∀ b i, ZF lz k b i → Wr w0 z (2 * n) sb ns J b i) (u : Upd (OpF d lz k J' sb n') w w') (hT0 : Thr w0 T) (hS : StkV w' sb n' J'') (hJ : SI.Le w sb J' J'') :
    KCore T w0 w' x y z xs ys n n2 sb ns n' J J'' b0 b1 c0 c1 := by
  have hs := K.upd.size
  refine K.step S h2 u (fun b i h => ?_) (fun b hb' j => ?_) (fun j h => ?_) hS (K.le.trans hJ hs) K.nn
  · rcases h with h | h | h
    · have : b = d := h
      exact Or.inr (Or.inr (by have := hb.new; omega))
    · exact hz b i h
    · rcases Nat.lt_or_ge b w0.heap.size with h1 | h1
      · exact Or.inr (Or.inl (K.le _ _ _ h1 (h.mono K.nn)))
      · exact Or.inr (Or.inr h1)
  · rcases hb' with rfl | rfl | rfl | rfl
    · exact OpF.noInt hl K.stk K.x0.neg hb.n0 j
    · exact OpF.noInt hl K.stk K.x1.neg hb.n1 j
    · exact OpF.noInt hl K.stk K.y0.neg hb.n2 j
    · exact OpF.noInt hl K.stk K.y1.neg hb.n3 j
  · rcases h with h | h | h
    · have h1 : _ = d := h
      have := CellT.lt hT0
      have := hb.new
      omega
    · exact ZF.noThr hl K.thr _ j h
    · exact K.stk.no K.thr (by decide) (by decide) (by decide) j h
theorem IntD.boxed {w w' : World} {l : Loc} {n : Nat} (h : l.Ok w) (u : Upd NoF (w.alloc (.cells #[.bool false, .slice l.A n l.c] 80)) w') : IntD w' w.heap.size l false n := by
  have hh := heap_alloc_new w (.cells #[.bool false, .slice l.A n l.c] 80)
  exact ⟨CellT.upd (CellT.new (by simp) hh) u (fun h => h), CellT.upd (CellT.new (by simp) hh) u (fun h => h), (h.upd ((Upd.refl NoF w).alloc _)).upd u⟩
theorem IntD.upd0 {w w' : World} {b n : Nat} {l : Loc} {s : Bool} (h : IntD w b l s n) (u : Upd NoF w w') : IntD w' b l s n := h.upd u (fun _ h => h)
theorem IntV.upd0 {w w' : World} {b : Nat} {l : Loc} {v : Int} (h : IntV w b l v) (u : Upd NoF w w') : IntV w' b l v := h.upd u (fun _ h => h) (fun _ _ h => h)
theorem IntD.lt {w : World} {b n : Nat} {l : Loc} {s : Bool} (h : IntD w b l s n) : b < w.heap.size := h.neg.lt
theorem IntV.lt {w : World} {b : Nat} {l : Loc} {v : Int} (h : IntV w b l v) : b < w.heap.size := h.neg.lt
structure KDist (w0 : World) (b0 b1 c0 c1 e0 e2 e1 ex ey : Nat) : Prop where
  hx : Box4 w0 ex b0 b1 c0 c1
  hy : Box4 w0 ey b0 b1 c0 c1
  h0 : Box4 w0 e0 b0 b1 c0 c1
  h1 : Box4 w0 e1 b0 b1 c0 c1
  h2 : Box4 w0 e2 b0 b1 c0 c1
  xy : ex ≠ ey
  d01 : e0 ≠ e1
  d02 : e0 ≠ e2
  d12 : e1 ≠ e2
  d0x : e0 ≠ ex
  d0y : e0 ≠ ey
  d1x : e1 ≠ ex
  d1y : e1 ≠ ey
  d2x : e2 ≠ ex
  d2y : e2 ≠ ey
end Go.Proofs.YtefeijofhocnpaaGreatDoor
namespace Go.Proofs.YtefeijofhocnpaaGreatDoor
open Go.RowKit
structure KEnv (T : Int) (w0 : World) (x y z t : Loc) (xs ys : List Nat) (n n2 sb ns n' : Nat) (J : SI) (b0 b1 c0 c1 e0 e2 e1 ex ey : Nat) : Prop where
  S : MidS w0 x y z n n sb ns J
  h2 : 0 < n2
  h2n : n2 < n
  h2e : n ≤ 2 * n2
  h2f : 2 * n2 ≤ n + 1
  lx : xs.length = n
  ly : ys.length = n
  xc : n ≤ x.c
  yc : n ≤ y.c
  dx : Digs B64 xs
  dy : Digs B64 ys
  tj : TJ w0 t sb ns J
  tc : 2 * n2 + 1 ≤ t.c
  ds : KDist w0 b0 b1 c0 c1 e0 e2 e1 ex ey
  thr : Thr w0 T
  bd : n' + G (2 * n2) ≤ 1099511627776
  hm : 2 * n ≤ 1099511627776
  IH : ∀ m' n', m' + n' < 2 * n → MulSpec T m' n'
end Go.Proofs.YtefeijofhocnpaaGreatDoor
namespace Go.Proofs.YtefeijofhocnpaaGreatDoor
open Go.RowKit
section
variable (T : Int) (w0 w : World) (x y z t : Loc) (xs ys zs : List Nat) (n n2 sb ns n' : Nat) (J J' : SI) (b0 b1 c0 c1 e0 e2 e1 ex ey : Nat)
def XL (xs : List Nat) (n2 : Nat) : Nat := val B64 (xs.take n2)
def XH (xs : List Nat) (n2 : Nat) : Nat := val B64 (xs.drop n2)
structure KZ : Prop where
  zu : U64 w z.b z.o zs
  zl : zs.length = 2 * n
  zd : Digs B64 zs
  zv : val B64 zs = XL xs n2 * XL ys n2 + B64 ^ (2 * n2) * (XH xs n2 * XH ys n2)
structure KH (r : Loc) : Prop where
  core : KCore T w0 w x y z xs ys n n2 sb ns n' J J' b0 b1 c0 c1
  i1 : IntV w e1 r (XL xs n2 * XH ys n2 + XH xs n2 * XL ys n2 : Nat)
  kz : KZ w z xs ys zs n n2
  ap : Apart r z
end
section
variable {T : Int} {w0 w : World} {x y z t : Loc} {xs ys zs : List Nat} {n n2 sb ns n' : Nat} {J J' : SI} {b0 b1 c0 c1 e0 e2 e1 ex ey : Nat}
theorem KEnv.zoff (E : KEnv T w0 x y z t xs ys n n2 sb ns n' J b0 b1 c0 c1 e0 e2 e1 ex ey) (K : KCore T w0 w x y z xs ys n n2 sb ns n' J J' b0 b1 c0 c1) : Off J' sb n' z := E.S.oz.old E.S.bz K.le K.nn
theorem KZ.op {w' : World} {d k : Nat} {lz : Loc} (K : KCore T w0 w x y z xs ys n n2 sb ns n' J J' b0 b1 c0 c1) (E : KEnv T w0 x y z t xs ys n n2 sb ns n' J b0 b1 c0 c1 e0 e2 e1 ex ey) (h : KZ w z xs ys zs n n2) {i : Nat} {v : Value} (hd : CellT 80 w d i v) (ap : Apart lz z)
    (u : Upd (OpF d lz k J' sb n') w w') : KZ w' z xs ys zs n n2 := by
  have hk := E.S.hk
  have h1 := E.h2n
  refine ⟨h.zu.upd u (fun i hi hf => ?_), h.zl, h.zd, h.zv⟩
  rw [h.zl] at hi
  rcases hf with hf | hf | hf
  · obtain ⟨u, hu⟩ := K.ok.live 0 (by omega)
    exact hd.neW hu (by decide) (Eq.symm hf)
  · exact Apart.zf ap (by omega) hf
  · exact E.zoff K i (by omega) hf
theorem KH.drew (E : KEnv T w0 x y z t xs ys n n2 sb ns n' J b0 b1 c0 c1 e0 e2 e1 ex ey) {r : Loc} (K : KH T w0 w x y z xs ys zs n n2 sb ns n' J J' b0 b1 c0 c1 e1 r) : KH T w0 w.drew x y z xs ys zs n n2 sb ns n' J J' b0 b1 c0 c1 e1 r := by
  have u : Upd NoF w w.drew := (Upd.refl NoF w).drew
  exact ⟨K.core.step E.S E.h2 u (fun _ _ h => h.elim) (fun _ _ _ h => h) (fun _ h => h) (K.core.stk.upd0 u) K.core.le K.core.nn, K.i1.upd0 u, ⟨K.kz.zu.drew, K.kz.zl, K.kz.zd, K.kz.zv⟩, K.ap⟩
end
end Go.Proofs.YtefeijofhocnpaaGreatDoor
