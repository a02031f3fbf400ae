/- For the claim of laws.FnGcd: LawU, ImplGcd, ImplQuo. -/
import Derived.Test.YthkklkjldpcbkaaGreatDoorLgB2
import Derived.Test.YthkklkjldpcbkaaGreatDoorLgB4
import Derived.Test.YthkklkjldpcbkaaGreatDoorLgG6
import Derived.Deep.RegionHeld3
import Derived.Test.YthkklkjldpcbkaaGreatDoorLgF1
set_option linter.unusedVariables false
set_option linter.unusedSimpArgs false
set_option maxRecDepth 1000000
namespace Go.Proofs.YthkklkjldpcbkaaGreatDoor
open Go.RowKit
structure BoxN (w : World) (g : Nat) (s : Bool) (A : Option Addr) (n c : Nat) : Prop where
 c0 : Zi 24 w g 0 (.bool s)
 c1 : Zi 24 w g 1 (.slice A n c)
theorem BoxN.upd {w w' : World} {g : Nat} {s : Bool} {A : Option Addr} {n c : Nat} (h : BoxN w g s A n c) (u : Upd NoF w w') : BoxN w' g s A n c := ⟨h.c0.upd u (fun h => h), h.c1.upd u (fun h => h)⟩
theorem BoxN.new (w : World) (s : Bool) (A : Option Addr) (n c : Nat) : BoxN (w.alloc (.cells #[.bool s, .slice A n c] 24)) w.heap.size s A n c :=
 ⟨⟨_, heap_alloc_new w _, by simp⟩, ⟨_, heap_alloc_new w _, by simp⟩⟩
theorem field_nat (b : Bool) (x : Value) (w : World) : (Instr.field 32 (.agg #[.bool b, x]) 1).run Tryz.prog w = .ok x w := by
 first
 | exact rfl
 | (simp [Instr.field, go_sem]; done)
theorem Zp.add {w0 w : World} {L : List (Nat × Loc × SV)} (h : Zp w0 w L) {b : Nat} {l : Loc} {v : SV} (hv : IntP w b l v) (hb : w0.heap.size <= b) (hl : l.c = 0 \/ w0.heap.size <= l.b) (hne : ∀ p ∈ L, b ≠ p.1 /\ Zq l p.2.1) : Zp w0 w ((b, l, v) :: L) := by
 have key : ∀ (i b' : Nat) (l' : Loc) (v' : SV), L[i]? = some (b', l', v') -> b ≠ b' /\ Zq l l' := fun i b' l' v' hi => hne _ (List.mem_of_getElem? hi)
 refine ⟨?_, ?_, ?_, h.up⟩
 .
  intro i b' l' v' hi
  cases i with
  | zero => simp at hi; obtain ⟨rfl, rfl, rfl⟩ := hi; exact hv
  | succ i => exact h.at_ i b' l' v' (by simpa using hi)
 .
  intro i j b1 l1 v1 b2 l2 v2 hij h1 h2
  cases i with
  | zero =>
   cases j with
   | zero => exact absurd rfl hij
   | succ j =>
    simp at h1; obtain ⟨rfl, rfl, rfl⟩ := h1
    exact key j b2 l2 v2 (by simpa using h2)
  | succ i =>
   cases j with
   | zero =>
    simp at h2; obtain ⟨rfl, rfl, rfl⟩ := h2
    obtain ⟨k1, k2⟩ := key i b1 l1 v1 (by simpa using h1)
    exact ⟨Ne.symm k1, k2.symm⟩
   | succ j => exact h.ap i j _ _ _ _ _ _ (by omega) (by simpa using h1) (by simpa using h2)
 .
  intro i b' l' v' hi
  cases i with
  | zero => simp at hi; obtain ⟨rfl, rfl, rfl⟩ := hi; exact ⟨hb, hl⟩
  | succ i => exact h.nw i b' l' v' (by simpa using hi)
theorem IntD.zero {w : World} {b : Nat} (h : IntD w b nilL false 0) : IntP w b nilL (sv 0) := by
 refine ⟨h.neg, ?_, NatV.zero (nilL_ok _), sgnOk_self 0⟩
 have := h.abs
 show Zi _ _ _ _ (.slice nilL.A (digs 0).length nilL.c)
 rw [Yi]; exact this
theorem NumI.store {T : TypeId} {w : World} {g : Nat} {v1 v2 x1 x2 v : Value} {V : Int} (h : NumI w v V) (c0 : Zi T w g 0 v1) (c1 : Zi T w g 1 v2) (n1 : ∀ k i, v1 ≠ .int k i) (n2 : ∀ k i, v2 ≠ .int k i) :
  NumI ((w.setCell ⟨g, 0, none⟩ x1).setCell ⟨g, 1, none⟩ x2) v V := by
 obtain ⟨A, c, h1, h2, h3⟩ := h
 exact ⟨A, c, h1, h2, h3.store c0 c1 n1 n2⟩
theorem boxes5 (w : World) (s1 s2 : Bool) (A1 A2 : Option Addr) (n1 c1 n2 c2 : Nat) :
  (BoxN (((((w.alloc (.cells #[.bool s1, .slice A1 n1 c1] 24)).alloc (.cells #[.bool s2, .slice A2 n2 c2] 24)).alloc (.cells #[.bool false, .slice none 0 0] 24)).alloc (.cells #[.bool false, .slice none 0 0] 24)).alloc (.cells #[.bool false, .slice none 0 0] 24)) w.heap.size s1 A1 n1 c1 ∧
  BoxN (((((w.alloc (.cells #[.bool s1, .slice A1 n1 c1] 24)).alloc (.cells #[.bool s2, .slice A2 n2 c2] 24)).alloc (.cells #[.bool false, .slice none 0 0] 24)).alloc (.cells #[.bool false, .slice none 0 0] 24)).alloc (.cells #[.bool false, .slice none 0 0] 24)) (w.heap.size + 1) s2 A2 n2 c2 ∧
  BoxN (((((w.alloc (.cells #[.bool s1, .slice A1 n1 c1] 24)).alloc (.cells #[.bool s2, .slice A2 n2 c2] 24)).alloc (.cells #[.bool false, .slice none 0 0] 24)).alloc (.cells #[.bool false, .slice none 0 0] 24)).alloc (.cells #[.bool false, .slice none 0 0] 24)) (w.heap.size + 1 + 1) false none 0 0 ∧
  BoxN (((((w.alloc (.cells #[.bool s1, .slice A1 n1 c1] 24)).alloc (.cells #[.bool s2, .slice A2 n2 c2] 24)).alloc (.cells #[.bool false, .slice none 0 0] 24)).alloc (.cells #[.bool false, .slice none 0 0] 24)).alloc (.cells #[.bool false, .slice none 0 0] 24)) (w.heap.size + 1 + 1 + 1) false none 0 0 ∧
  BoxN (((((w.alloc (.cells #[.bool s1, .slice A1 n1 c1] 24)).alloc (.cells #[.bool s2, .slice A2 n2 c2] 24)).alloc (.cells #[.bool false, .slice none 0 0] 24)).alloc (.cells #[.bool false, .slice none 0 0] 24)).alloc (.cells #[.bool false, .slice none 0 0] 24)) (w.heap.size + 1 + 1 + 1 + 1) false none 0 0) ∧
  Upd NoF w (((((w.alloc (.cells #[.bool s1, .slice A1 n1 c1] 24)).alloc (.cells #[.bool s2, .slice A2 n2 c2] 24)).alloc (.cells #[.bool false, .slice none 0 0] 24)).alloc (.cells #[.bool false, .slice none 0 0] 24)).alloc (.cells #[.bool false, .slice none 0 0] 24)) := by
 have b1 := BoxN.new w s1 A1 n1 c1
 obtain ⟨w1, hw1⟩ : ∃ w1, w.alloc (.cells #[.bool s1, .slice A1 n1 c1] 24) = w1 := ⟨_, rfl⟩
 have s1' : w1.heap.size = w.heap.size + 1 := by rw [<- hw1]; simp
 have u1 : Upd NoF w w1 := by rw [<- hw1]; exact (Upd.refl NoF w).alloc _
 rw [hw1] at b1 ⊢
 have b2 := BoxN.new w1 s2 A2 n2 c2
 obtain ⟨w2, hw2⟩ : ∃ w2, w1.alloc (.cells #[.bool s2, .slice A2 n2 c2] 24) = w2 := ⟨_, rfl⟩
 have s2' : w2.heap.size = w.heap.size + 1 + 1 := by rw [<- hw2]; simp [s1']
 have u2 : Upd NoF w1 w2 := by rw [<- hw2]; exact (Upd.refl NoF w1).alloc _
 rw [hw2, s1'] at b2
 rw [hw2]
 have b3 := BoxN.new w2 false none 0 0
 obtain ⟨w3, hw3⟩ : ∃ w3, w2.alloc (.cells #[.bool false, .slice none 0 0] 24) = w3 := ⟨_, rfl⟩
 have s3' : w3.heap.size = w.heap.size + 1 + 1 + 1 := by rw [<- hw3]; simp [s2']
 have u3 : Upd NoF w2 w3 := by rw [<- hw3]; exact (Upd.refl NoF w2).alloc _
 rw [hw3, s2'] at b3
 rw [hw3]
 have b4 := BoxN.new w3 false none 0 0
 obtain ⟨w4, hw4⟩ : ∃ w4, w3.alloc (.cells #[.bool false, .slice none 0 0] 24) = w4 := ⟨_, rfl⟩
 have s4' : w4.heap.size = w.heap.size + 1 + 1 + 1 + 1 := by rw [<- hw4]; simp [s3']
 have u4 : Upd NoF w3 w4 := by rw [<- hw4]; exact (Upd.refl NoF w3).alloc _
 rw [hw4, s3'] at b4
 rw [hw4]
 have b5 := BoxN.new w4 false none 0 0
 obtain ⟨w5, hw5⟩ : ∃ w5, w4.alloc (.cells #[.bool false, .slice none 0 0] 24) = w5 := ⟨_, rfl⟩
 have u5 : Upd NoF w4 w5 := by rw [<- hw5]; exact (Upd.refl NoF w4).alloc _
 rw [hw5, s4'] at b5
 rw [hw5]
 exact ⟨⟨b1.upd (((u2.trans u3).trans u4).trans u5), b2.upd ((u3.trans u4).trans u5), b3.upd (u4.trans u5), b4.upd u5, b5⟩, (((u1.trans u2).trans u3).trans u4).trans u5⟩
theorem heap_drew' (w : World) : w.drew.heap = w.heap := rfl
structure BoxV (w : World) (g : Nat) (a b : Value) : Prop where
 c0 : Zi 24 w g 0 a
 c1 : Zi 24 w g 1 b
theorem BoxN.v {w : World} {g : Nat} {s : Bool} {A : Option Addr} {n c : Nat} (h : BoxN w g s A n c) : BoxV w g (.bool s) (.slice A n c) := ⟨h.c0, h.c1⟩
theorem BoxV.put {w : World} {g : Nat} {a b : Value} (h : BoxV w g a b) (x y : Value) : BoxV ((w.setCell ⟨g, 0, none⟩ x).setCell ⟨g, 1, none⟩ y) g x y := ⟨(h.c0.set x).far _ (by omega), (h.c1.far _ (by omega)).set y⟩
theorem BoxV.far {w : World} {g k : Nat} {a b : Value} (h : BoxV w g a b) (hk : k ≠ g) (x y : Value) : BoxV ((w.setCell ⟨k, 0, none⟩ x).setCell ⟨k, 1, none⟩ y) g a b := ⟨(h.c0.far _ (by omega)).far _ (by omega), (h.c1.far _ (by omega)).far _ (by omega)⟩
theorem digs_succ_len (n : Nat) : (digs (n + 1)).length <= (digs n).length + 1 := by
 refine digs_len_of_lt ?_
 have h1 := Ym n
 have h2 : B64 ^ (digs n).length * 2 <= B64 ^ (digs n).length * B64 := Nat.mul_le_mul_left _ (by decide)
 have h3 : 0 < B64 ^ (digs n).length := Nat.pow_pos Zy
 rw [Nat.pow_succ]
 omega
theorem gcd_le_max {a b M : Nat} (h1 : a <= M) (h2 : b <= M) : Nat.gcd a b <= M := by
 rcases Nat.eq_zero_or_pos a with h | h
 . subst h; rw [Nat.gcd_zero_left]; exact h2
 . exact Nat.le_trans (Nat.gcd_le_left _ h) h1
theorem stored3 {w wt : World} {g : Nat} {a0 a1 b0 b1 d0 d1 : Value} {vz vx vy : Value} {G X Y : Int} (hu : Upd NoF w wt) (hg : w.heap.size <= g) (z : BoxV wt (g + 1 + 1) (.bool false) (.slice none 0 0)) (x : BoxV wt (g + 1 + 1 + 1) (.bool false) (.slice none 0 0)) (y : BoxV wt (g + 1 + 1 + 1 + 1) (.bool false) (.slice none 0 0))
  (nz : NumI wt vz G) (nx : NumI wt vx X) (ny : NumI wt vy Y) :
  ∃ w', w' = (((((wt.setCell ⟨g + 1 + 1, 0, none⟩ a0).setCell ⟨g + 1 + 1, 1, none⟩ a1).setCell ⟨g + 1 + 1 + 1, 0, none⟩ b0).setCell ⟨g + 1 + 1 + 1, 1, none⟩ b1).setCell ⟨g + 1 + 1 + 1 + 1, 0, none⟩ d0).setCell ⟨g + 1 + 1 + 1 + 1, 1, none⟩ d1 ∧
   BoxV w' (g + 1 + 1) a0 a1 /\ BoxV w' (g + 1 + 1 + 1) b0 b1 /\ BoxV w' (g + 1 + 1 + 1 + 1) d0 d1 /\ NumI w' vz G /\ NumI w' vx X /\ NumI w' vy Y /\ Upd NoF w w' := by
 refine ⟨_, rfl, ?_, ?_, ?_, ?_, ?_, ?_, ?_⟩
 . exact ((z.put a0 a1).far (by omega) _ _).far (by omega) _ _
 . exact ((x.far (by omega) _ _).put b0 b1).far (by omega) _ _
 . exact ((y.far (by omega) _ _).far (by omega) _ _).put d0 d1
 .
  have x' := x.far (k := g + 1 + 1) (by omega) a0 a1
  have y' := (y.far (k := g + 1 + 1) (by omega) a0 a1).far (k := g + 1 + 1 + 1) (by omega) b0 b1
  exact ((nz.store z.c0 z.c1 (fun _ _ h => by cases h) (fun _ _ h => by cases h)).store x'.c0 x'.c1 (fun _ _ h => by cases h) (fun _ _ h => by cases h)).store y'.c0 y'.c1 (fun _ _ h => by cases h) (fun _ _ h => by cases h)
 .
  have x' := x.far (k := g + 1 + 1) (by omega) a0 a1
  have y' := (y.far (k := g + 1 + 1) (by omega) a0 a1).far (k := g + 1 + 1 + 1) (by omega) b0 b1
  exact ((nx.store z.c0 z.c1 (fun _ _ h => by cases h) (fun _ _ h => by cases h)).store x'.c0 x'.c1 (fun _ _ h => by cases h) (fun _ _ h => by cases h)).store y'.c0 y'.c1 (fun _ _ h => by cases h) (fun _ _ h => by cases h)
 .
  have x' := x.far (k := g + 1 + 1) (by omega) a0 a1
  have y' := (y.far (k := g + 1 + 1) (by omega) a0 a1).far (k := g + 1 + 1 + 1) (by omega) b0 b1
  exact ((ny.store z.c0 z.c1 (fun _ _ h => by cases h) (fun _ _ h => by cases h)).store x'.c0 x'.c1 (fun _ _ h => by cases h) (fun _ _ h => by cases h)).store y'.c0 y'.c1 (fun _ _ h => by cases h) (fun _ _ h => by cases h)
 . exact (((((hu.setCell (fun h => by omega) _).setCell (fun h => by omega) _).setCell (fun h => by omega) _).setCell (fun h => by omega) _).setCell (fun h => by omega) _).setCell (fun h => by omega) _
def GcdO (w0 : World) (zb xb yb : Nat) (A B : Int) (w' : World) : Prop :=
 ∃ (X Y : Int) (lz lx ly : Loc) (s : Bool), IntS w' zb lz (sv (Nat.gcd A.natAbs B.natAbs : Int)).1 (Nat.gcd A.natAbs B.natAbs : Int) /\ IntS w' xb lx s X /\ IntS w' yb ly (sv Y).1 Y /\ Upd NoF w0 w' /\ GcdR A B (Nat.gcd A.natAbs B.natAbs) X Y
theorem GcdO.up {w0 w' : World} {zb xb yb : Nat} {A B : Int} (h : GcdO w0 zb xb yb A B w') : Upd NoF w0 w' := let ⟨_, _, _, _, _, _, _, _, _, h, _⟩ := h; h
theorem gcd_news (T TK : Int) (w0 w : World) (zb xb yb ab bb : Nat) (la lb : Loc) (A B : Int) (M : Nat) (u : Upd NoF w0 w) (hz : IntP w zb nilL (sv 0)) (hx : IntP w xb nilL (sv 0)) (hy : IntP w yb nilL (sv 0)) (ha : IntV w ab la A) (hb : IntV w bb lb B)
  (nz : w0.heap.size <= zb) (nx : w0.heap.size <= xb) (ny : w0.heap.size <= yb) (na : w0.heap.size <= ab) (nb : w0.heap.size <= bb) (ka : 0 < la.c -> w0.heap.size <= la.b) (kb : 0 < lb.c -> w0.heap.size <= lb.b)
  (d1 : zb ≠ xb /\ zb ≠ yb /\ zb ≠ ab /\ zb ≠ bb) (d2 : xb ≠ yb /\ xb ≠ ab /\ xb ≠ bb) (d3 : ab ≠ yb /\ bb ≠ yb) (d4 : ab ≠ bb) (hap : Zq la lb) (aM : A.natAbs <= M) (bM : B.natAbs <= M) (hM : (digs M).length <= 400) (hT : DThr w0 T) (hK : KThr w0 TK (digs M).length)
  (hD : ∀ A B : Nat, B ≠ 0 -> (digs B).length <= (digs M).length -> (digs A).length <= 1000 -> DivAtT T A B) :
  Calls Tryz.prog 29 #[.pointer (some ⟨zb, 0, none⟩), .pointer (some ⟨xb, 0, none⟩), .pointer (some ⟨yb, 0, none⟩), .pointer (some ⟨ab, 0, none⟩), .pointer (some ⟨bb, 0, none⟩)] w fun e w' =>
   e = .returned (.pointer (some ⟨zb, 0, none⟩)) /\ GcdO w0 zb xb yb A B w' := by
 have nA : ∀ l : Loc, Zq nilL l := fun l => Or.inl rfl
 have nA' : ∀ l : Loc, Zq l nilL := fun l => Or.inr (Or.inl rfl)
 have h5 := (Zp.of u).add hy ny (Or.inl rfl) (by simp)
 have h4 := h5.add hb.p nb (by rcases Nat.eq_zero_or_pos lb.c with h | h; exact Or.inl h; exact Or.inr (kb h)) (by simp only [List.forall_mem_cons]; exact ⟨⟨d3.2, nA' _⟩, by simp⟩)
 have h3 := h4.add ha.p na (by rcases Nat.eq_zero_or_pos la.c with h | h; exact Or.inl h; exact Or.inr (ka h)) (by simp only [List.forall_mem_cons]; exact ⟨⟨d4, hap⟩, ⟨d3.1, nA' _⟩, by simp⟩)
 have h2 := h3.add hx nx (Or.inl rfl) (by simp only [List.forall_mem_cons]; exact ⟨⟨d2.2.1, nA _⟩, ⟨d2.2.2, nA _⟩, ⟨d2.1, nA _⟩, by simp⟩)
 have h1 := h2.add hz nz (Or.inl rfl) (by simp only [List.forall_mem_cons]; exact ⟨⟨d1.1, nA _⟩, ⟨d1.2.2.1, nA _⟩, ⟨d1.2.2.2, nA _⟩, ⟨d1.2.1, nA _⟩, by simp⟩)
 refine (gcd_any T TK w0 w zb xb ab bb nilL nilL la lb _ _ A B (.pointer (some ⟨yb, 0, none⟩)) _ M h1 rfl rfl rfl rfl (Or.inr ⟨yb, nilL, _, rfl, rfl⟩) aM bM hM hT hK hD).mono ?_
 rintro e w' ⟨he, X, Y, lz, lx, s, R', k1, k2, k3, k4, k5, _⟩
 obtain ⟨ly, k6⟩ := k4 yb rfl
 exact ⟨he, X, Y, lz, lx, ly, s, (k1.at_ _ _ _ _ k2).s, (k1.at_ _ _ _ _ k3).s, (k1.at_ _ _ _ _ k6).s, k1.up, k5⟩
set_option maxHeartbeats 3200000 in
theorem implGcd_any (T TK : Int) (v1 v2 : Value) (n m : Nat) (A B : Int) (w : World) (hA : NumR w v1 n A) (hB : NumR w v2 m B) (hn : n <= 300) (hm : m <= 300) (hT : DThr w T) (hK : KThr w TK (max n m))
  (hD : ∀ X Y : Nat, Y ≠ 0 -> (digs Y).length <= max n m -> (digs X).length <= 1000 -> DivAtT T X Y) :
  Calls Tryz.prog 10 #[v1, v2] w fun e w' => ∃ (vz vx vy : Value) (X Y : Int), e = .returned (.tuple #[vz, vx, vy]) /\ GcdR A B (Nat.gcd A.natAbs B.natAbs) X Y /\ NumI w' vz (Nat.gcd A.natAbs B.natAbs : Int) /\ NumI w' vx X /\ NumI w' vy Y /\ Upd NoF w w' := by
 have hlA := hA.len
 have hlB := hB.len
 obtain ⟨M, hM1, hM2, hM3⟩ : ∃ M, A.natAbs <= M /\ B.natAbs <= M /\ (digs M).length <= max n m := by
  rcases Nat.le_total A.natAbs B.natAbs with h | h
  . exact ⟨B.natAbs, h, Nat.le_refl _, by omega⟩
  . exact ⟨A.natAbs, Nat.le_refl _, h, by omega⟩
 have HOX := Qq (fun (w' : World) (u : Upd NoF w w') => of_num _ n A w' (hA.upd u) (by omega))
 have HOY := Qq (fun (w' : World) (u : Upd NoF w w') => of_num _ m B w' (hB.upd u) (by omega))
 have HM := Qq (Qj hM1 (Qj hM2 (Qj (show (digs M).length <= 400 by omega) (Qj hT (Qj (hK.le hM3) (fun (X Y : Nat) (h0 : Y ≠ 0) (h1 : (digs Y).length <= (digs M).length) (h2 : (digs X).length <= 1000) => hD X Y h0 (Nat.le_trans h1 hM3) h2))))))
 obtain ⟨sx, xA, cx, xs, rfl, hX2⟩ := id hA
 obtain ⟨sy, yA, cy, ys, rfl, hY2⟩ := id hB
 clear hA hB hX2 hY2 hT hK hD hlA hlB hM1 hM2 hM3
 go_enter Tryz.func10, Tryz.ntmps10
 go_wp2_with fail
 have hB := boxes5 w sx sy xA yA n cx m cy
 obtain ⟨g, hg⟩ : ∃ g, w.heap.size = g := ⟨_, rfl⟩
 obtain ⟨w5, hw5⟩ : ∃ w5, (((((w.alloc (.cells #[.bool sx, .slice xA n cx] 24)).alloc (.cells #[.bool sy, .slice yA m cy] 24)).alloc (.cells #[.bool false, .slice none 0 0] 24)).alloc (.cells #[.bool false, .slice none 0 0] 24)).alloc (.cells #[.bool false, .slice none 0 0] 24)) = w5 := ⟨_, rfl⟩
 have s5 : w5.heap.size = g + 1 + 1 + 1 + 1 + 1 := by rw [<- hw5]; simp [hg]
 rw [hg, hw5] at hB
 have hI := (Zp.nil w5).new.new
 simp only [size_alloc] at hI
 rw [s5] at hI
 obtain ⟨w7, hw7⟩ : ∃ w7, (w5.alloc (.cells #[.bool false, .slice none 0 0] 58)).alloc (.cells #[.bool false, .slice none 0 0] 58) = w7 := ⟨_, rfl⟩
 have s7 : w7.heap.size = g + 1 + 1 + 1 + 1 + 1 + 1 + 1 := by rw [<- hw7]; simp [s5]
 rw [hw7] at hI
 rw [hg, hw5, hw7]
 have u57 := hI.up
 have HU0 := Qq (fun (w' : World) (u : Upd NoF w5 w') => hB.2.trans u)
 have HS := Qq (fun (w' : World) (u : Upd NoF w5 w') => (show w'.cell? ⟨g, 0, none⟩ = some (.bool sx) /\ w'.cell? ⟨g, 1, none⟩ = some (.slice xA n cx) /\ w'.cell? ⟨g + 1, 0, none⟩ = some (.bool sy) /\ w'.cell? ⟨g + 1, 1, none⟩ = some (.slice yA m cy) from
  ⟨(hB.1.1.upd u).c0.cell, (hB.1.1.upd u).c1.cell, (hB.1.2.1.upd u).c0.cell, (hB.1.2.1.upd u).c1.cell⟩))
 have HG := Qq (fun (zb ab bb : Nat) (la lb : Loc) (w' : World) (u : Upd NoF w7 w') (hz : IntP w' zb nilL (sv 0)) (ha : IntV w' ab la A) (hb : IntV w' bb lb B) (nz : w7.heap.size <= zb) (na : w7.heap.size <= ab) (nb : w7.heap.size <= bb) (ka : 0 < la.c -> w7.heap.size <= la.b) (kb : 0 < lb.c -> w7.heap.size <= lb.b) (d : zb ≠ ab /\ zb ≠ bb /\ ab ≠ bb) (hap : Zq la lb) =>
  gcd_news T TK w5 w' zb (g + 1 + 1 + 1 + 1 + 1) (g + 1 + 1 + 1 + 1 + 1 + 1) ab bb la lb A B M (u57.trans u) hz ((hI.upd u).at_ 1 _ _ _ rfl) ((hI.upd u).at_ 0 _ _ _ rfl) ha hb (by omega) (by omega) (by omega) (by omega) (by omega) (fun h => by have := ka h; omega) (fun h => by have := kb h; omega)
   ⟨by omega, by omega, d.1, d.2.1⟩ ⟨by omega, by omega, by omega⟩ ⟨by omega, by omega⟩ d.2.2 hap HM.out.1 HM.out.2.1 HM.out.2.2.1 (HM.out.2.2.2.1.upd hB.2 (fun _ h => h)) (HM.out.2.2.2.2.1.upd hB.2 (fun _ h => h)) HM.out.2.2.2.2.2)
 have HB := Qq (Qj hB (Qj s5 hg))
 clear hB hI hg hw5 hw7 s5 s7
 go_region_held3 (fun w' => w'.cell? ⟨g, 0, none⟩ = some (.bool sx) /\ w'.cell? ⟨g, 1, none⟩ = some (.slice xA n cx) /\ w'.cell? ⟨g + 1, 0, none⟩ = some (.bool sy) /\ w'.cell? ⟨g + 1, 1, none⟩ = some (.slice yA m cy))
  (exact HS.out _ (by (repeat (first | exact Upd.refl _ _ | assumption | refine Upd.alloc ?_ _ | refine Upd.drew ?_ | refine Upd.drewN ?_ _ | refine Upd.trans ?_ (by assumption)))))
  (first
   | ((go_at_call_of 30 (Value.agg #[.bool sx, .slice xA n cx]); refine (HOX.out _ (HU0.out _ (by (repeat (first | exact Upd.refl _ _ | assumption | refine Upd.alloc ?_ _ | refine Upd.drew ?_ | refine Upd.drewN ?_ _ | refine Upd.trans ?_ (by assumption)))))).mono ?_; rintro e wx ⟨ibx, lx, rfl, hbx, hlx, hIx, hUx⟩))
   | ((go_at_call_of 30 (Value.agg #[.bool sy, .slice yA m cy]); refine (HOY.out _ (HU0.out _ (by (repeat (first | exact Upd.refl _ _ | assumption | refine Upd.alloc ?_ _ | refine Upd.drew ?_ | refine Upd.drewN ?_ _ | refine Upd.trans ?_ (by assumption)))))).mono ?_; rintro e wy ⟨iby, ly, rfl, hby, hly, hIy, hUy⟩))
   | ((go_at_call 29; refine (HG.out _ _ _ lx ly _ ?_ ?_ ?_ ?_ ?_ ?_ ?_ ?_ ?_ ?_ ?_).mono ?_; (exact (by (repeat (first | exact Upd.refl _ _ | assumption | refine Upd.alloc ?_ _ | refine Upd.drew ?_ | refine Upd.drewN ?_ _ | refine Upd.trans ?_ (by assumption))))); (exact IntD.zero (IntD.made (by (repeat (first | exact Upd.refl _ _ | assumption | refine Upd.alloc ?_ _ | refine Upd.drew ?_ | refine Upd.drewN ?_ _ | refine Upd.trans ?_ (by assumption)))))); (exact IntV.upd0 hIx (by (repeat (first | exact Upd.refl _ _ | assumption | refine Upd.alloc ?_ _ | refine Upd.drew ?_ | refine Upd.drewN ?_ _ | refine Upd.trans ?_ (by assumption))))); (exact IntV.upd0 hIy (by (repeat (first | exact Upd.refl _ _ | assumption | refine Upd.alloc ?_ _ | refine Upd.drew ?_ | refine Upd.drewN ?_ _ | refine Upd.trans ?_ (by assumption))))); (exact Upd.size (F := NoF) (by (repeat (first | exact Upd.refl _ _ | assumption | refine Upd.alloc ?_ _ | refine Upd.drew ?_ | refine Upd.drewN ?_ _ | refine Upd.trans ?_ (by assumption))))); (exact Nat.le_trans (Upd.size (F := NoF) (by (repeat (first | exact Upd.refl _ _ | assumption | refine Upd.alloc ?_ _ | refine Upd.drew ?_ | refine Upd.drewN ?_ _ | refine Upd.trans ?_ (by assumption))))) hbx); (exact Nat.le_trans (Upd.size (F := NoF) (by (repeat (first | exact Upd.refl _ _ | assumption | refine Upd.alloc ?_ _ | refine Upd.drew ?_ | refine Upd.drewN ?_ _ | refine Upd.trans ?_ (by assumption))))) hby); (exact fun h => Nat.le_trans (Upd.size (F := NoF) (by (repeat (first | exact Upd.refl _ _ | assumption | refine Upd.alloc ?_ _ | refine Upd.drew ?_ | refine Upd.drewN ?_ _ | refine Upd.trans ?_ (by assumption))))) (hlx h)); (exact fun h => Nat.le_trans (Upd.size (F := NoF) (by (repeat (first | exact Upd.refl _ _ | assumption | refine Upd.alloc ?_ _ | refine Upd.drew ?_ | refine Upd.drewN ?_ _ | refine Upd.trans ?_ (by assumption))))) (hly h)); (have h1 := hIx.neg.lt; have h2 := hIy.neg.lt; have h3 := hUx.size; have h4 := hUy.size; (try simp only [World.size_alloc, World.heap_drewN, heap_drew'] at h1 h2 h3 h4 hbx hby ⊢); refine ⟨?_, ?_, ?_⟩ <;> omega); (rcases Nat.eq_zero_or_pos ly.c with h0 | h0; exact Or.inr (Or.inl h0); exact Zq.new (hIx.nat.ok.upd (F := NoF) (by (repeat (first | exact Upd.refl _ _ | assumption | refine Upd.alloc ?_ _ | refine Upd.drew ?_ | refine Upd.drewN ?_ _ | refine Upd.trans ?_ (by assumption))))) (hly h0)); rintro e wg ⟨rfl, hG⟩; have hUg : Upd NoF w5 wg := hG.up)))
 all_goals
  obtain ⟨X, Y, lz, lx2, ly2, s, kz, kx, ky, ku, kR⟩ := hG
  have lM := HM.out.2.2.1
  have lG : (digs (Nat.gcd A.natAbs B.natAbs : Int).natAbs).length <= 1099511627776 := by
   rw [Int.natAbs_natCast]
   have := Zn (gcd_le_max HM.out.1 HM.out.2.1)
   omega
  have lX : (digs X.natAbs).length <= 1099511627776 := by
   have := Zn (show X.natAbs <= M + 1 by have := kR.bX; have := HM.out.2.1; omega)
   have := digs_succ_len M
   omega
  have lY : (digs Y.natAbs).length <= 1099511627776 := by
   have := Zn (show Y.natAbs <= M + 1 by have := kR.bY; have := HM.out.1; omega)
   have := digs_succ_len M
   omega
  have HK := Qq (Qj kz (Qj kx (Qj ky (Qj ku (Qj kR (Qj lG (Qj lX lY)))))))
  clear kz kx ky ku kR lG lX lY lM hUg hIx hIy hUx hUy hbx hby hlx hly u57
  obtain ⟨G, hG⟩ : ∃ G : Int, (Nat.gcd A.natAbs B.natAbs : Int) = G := ⟨_, rfl⟩
  rw [hG] at HK
  have HGE := Qq hG
  clear hG
  go_wp2_with fail
  refine (told_numS _ lz _ G wg HK.out.1 HK.out.2.2.2.2.2.1).mono ?_
  rintro e w8 ⟨vz, rfl, nz, u8⟩
  have N8 := Qq (Qj nz u8)
  clear nz u8
  go_wp2_with fail
  refine (told_numS _ lx2 s X w8 (HK.out.2.1.upd0 N8.out.2) HK.out.2.2.2.2.2.2.1).mono ?_
  rintro e w9 ⟨vx, rfl, nx, u9⟩
  have N9 := Qq (Qj nx (Qj (N8.out.1.upd u9) (N8.out.2.trans u9)))
  clear nx u9 N8
  go_wp2_with fail
  refine (told_numS _ ly2 _ Y w9 (HK.out.2.2.1.upd0 N9.out.2.2) HK.out.2.2.2.2.2.2.2).mono ?_
  rintro e wt ⟨vy, rfl, ny, u10⟩
  have NT := Qq (Qj ny (Qj (N9.out.1.upd u10) (Qj (N9.out.2.1.upd u10) (N9.out.2.2.trans u10))))
  have uw : Upd NoF w5 wt := HK.out.2.2.2.1.trans (N9.out.2.2.trans u10)
  have bz := (HB.out.1.1.2.2.1.upd uw).v
  have bx := (HB.out.1.1.2.2.2.1.upd uw).v
  have b_y := (HB.out.1.1.2.2.2.2.upd uw).v
  clear ny u10 N9
  have nz := NT.out.2.2.1
  have nx := NT.out.2.1
  have ny := NT.out.1
  obtain ⟨Az, cz, rfl, kz1, kz2⟩ := id nz
  obtain ⟨Ax, cx', rfl, kx1, kx2⟩ := id nx
  obtain ⟨Ay, cy', rfl, ky1, ky2⟩ := id ny
  obtain ⟨sz', hsz⟩ : ∃ s, decide (G < 0) = s := ⟨_, rfl⟩
  obtain ⟨sx', hsx⟩ : ∃ s, decide (X < 0) = s := ⟨_, rfl⟩
  obtain ⟨sy', hsy⟩ : ∃ s, decide (Y < 0) = s := ⟨_, rfl⟩
  obtain ⟨mz, hmz⟩ : ∃ m, (digs G.natAbs).length = m := ⟨_, rfl⟩
  obtain ⟨mx, hmx⟩ : ∃ m, (digs X.natAbs).length = m := ⟨_, rfl⟩
  obtain ⟨my, hmy⟩ : ∃ m, (digs Y.natAbs).length = m := ⟨_, rfl⟩
  rw [hsz, hmz] at nz ⊢
  rw [hsx, hmx] at nx ⊢
  rw [hsy, hmy] at ny ⊢
  obtain ⟨wf, hwf, f1, f2, f3, f4, f5, f6, f7⟩ := stored3 (a0 := .bool sz') (a1 := .slice Az mz cz) (b0 := .bool sx') (b1 := .slice Ax mx cx') (d0 := .bool sy') (d1 := .slice Ay my cy') (w := w) (g := g) (HB.out.1.2.trans uw) (by have := HB.out.2.2; omega) bz bx b_y nz nx ny
  have z0 := bz.c0.cell
  have z1 := bz.c1.cell
  have x0 := bx.c0.cell
  have x1 := bx.c1.cell
  have y0 := b_y.c0.cell
  have y1 := b_y.c1.cell
  have z0' := bz.c0.frozen
  have z1' := bz.c1.frozen
  have x0' := bx.c0.frozen
  have x1' := bx.c1.frozen
  have y0' := b_y.c0.frozen
  have y1' := b_y.c1.frozen
  have HF := Qq (Qj hwf (Qj f1 (Qj f2 (Qj f3 (Qj f4 (Qj f5 (Qj f6 (Qj f7 HK.out.2.2.2.2.1))))))))
  clear hwf f1 f2 f3 f4 f5 f6 f7 nz nx ny kz1 kz2 kx1 kx2 ky1 ky2 hsz hsx hsy hmz hmx hmy bz bx b_y uw
  go_wp2_with fail
  rw [<- HF.out.1]
  have r1 := HF.out.2.1.c0.cell
  have r2 := HF.out.2.1.c1.cell
  have r3 := HF.out.2.2.1.c0.cell
  have r4 := HF.out.2.2.1.c1.cell
  have r5 := HF.out.2.2.2.1.c0.cell
  have r6 := HF.out.2.2.2.1.c1.cell
  refine bodyPost_ret (v := .tuple #[.agg #[.bool sz', .slice Az mz cz], .agg #[.bool sx', .slice Ax mx cx'], .agg #[.bool sy', .slice Ay my cy']]) (by simp [results, Tryz.results10, go_sem, r1, r2, r3, r4, r5, r6]) rfl ?_
  exact ⟨_, _, _, X, Y, rfl, by rw [HGE.out]; exact HF.out.2.2.2.2.2.2.2.2, by rw [HGE.out]; exact HF.out.2.2.2.2.1, HF.out.2.2.2.2.2.1, HF.out.2.2.2.2.2.2.1, HF.out.2.2.2.2.2.2.2.1⟩
end Go.Proofs.YthkklkjldpcbkaaGreatDoor
