/- For the claim of laws.FnInverse: Region2, Ints, Quo, IntCmp, IntAt, Binom. -/
import Derived.Test.YthkklkjldpcbkaaGreatDoorLiA3
import Derived.Test.YthkklkjldpcbkaaGreatDoorLiD2
import Derived.Test.YthkklkjldpcbkaaGreatDoorLiC1
import Derived.Test.YthkklkjldpcbkaaGreatDoorLiB1
import Derived.Test.YthkklkjldpcbkaaGreatDoorLiB2
import Derived.Test.YthkklkjldpcbkaaGreatDoorLiB4
set_option linter.unusedVariables false
set_option linter.unusedSimpArgs false
namespace Go.Proofs.YthkklkjldpcbkaaGreatDoor
open Go.RowKit
section
variable {P : Program} {ops : Array Oper} {md : Region.Mode} {w : World}
def chainW (md : Region.Mode) (ops : Array Oper) (n : Nat) : Bool := (List.range ops.size).all fun t => decide (t <= n) || (List.range t).any fun s => decide (n <= s) && Region.waitsFor md ops t s
theorem waits_of2 {p n : Nat} (hs : sinkFrom md ops p n = true) (hc : chainW md ops n = true) (hn : n < ops.size) : Waits md ops p n := by
 intro listed inv
 suffices H : ∀ (d i : Nat), n - i <= d -> p <= i -> i < n -> listed.getD i true = false -> ∀ t, n <= t -> t ∉ Region.ready md ops listed by
  rintro ⟨i, h1, h2, h3⟩
  exact H (n - i) i (Nat.le_refl _) h1 h2 h3
 intro d
 induction d with
 | zero => intro i hd _ hi; omega
 | succ d ih =>
  intro i hd hpi hi hun t ht hr
  obtain ⟨_, ot, hot, hall⟩ := mem_ready.1 hr
  have htlt : t < ops.size := (Array.getElem?_eq_some_iff.1 hot).1
  have notyet : ∀ j, Region.waitsFor md ops t j = true -> listed.getD j false = true := fun j hj => by
   obtain ⟨o', ho', e, he, hb, hon⟩ := Region.waitsFor_spec hj
   have : o' = ot := Option.some.inj (ho'.symm.trans hot)
   subst this
   rw [<- hon]; exact hall e he hb
  rcases Nat.lt_or_ge n t with hlt | hge
  .
   have h1 := List.all_eq_true.1 hc t (List.mem_range.2 htlt)
   simp only [Bool.or_eq_true, decide_eq_true_eq] at h1
   rcases h1 with h1 | h1
   . omega
   .
    obtain ⟨s, hs1, hs2⟩ := List.any_eq_true.1 h1
    simp only [Bool.and_eq_true, decide_eq_true_eq] at hs2
    have hst := List.mem_range.1 hs1
    have := notyet _ hs2.2
    rw [getD_both (inv.tail s (by omega) (by omega))] at this
    cases this
  .
   have htn : t = n := by omega
   subst htn
   have h1 := List.all_eq_true.1 hs i (List.mem_range.2 hi)
   simp only [Bool.or_eq_true, decide_eq_true_eq] at h1
   rcases h1 with h1 | h1
   . omega
   obtain ⟨j, hj, hj2⟩ := List.any_eq_true.1 h1
   simp only [Bool.and_eq_true, decide_eq_true_eq] at hj2
   have hjle := List.mem_range.1 hj
   by_cases hjt : j = t
   .
    subst hjt
    have := notyet _ hj2.2
    rw [getD_both hun] at this
    cases this
   .
    obtain ⟨oj, hoj, e, he, hb, hon⟩ := Region.waitsFor_spec hj2.2
    cases hl : listed.getD j false with
    | true =>
     have h2 := inv.closed j oj hoj hl e he hb
     rw [hon, getD_both hun] at h2
     cases h2
    | false => exact ih j (by omega) (by omega) (by omega) (getD_in (by rw [inv.size]; omega) hl) t ht hr
def lexAll (md : Region.Mode) (ops : Array Oper) (n : Nat) (H : Array Bool) : Nat -> Nat -> Array Bool -> Bool
 | 0, _, listed => decide (listed = H) && (Region.ready md ops listed).all (fun j => decide (n <= j))
 | f + 1, k, listed => (Region.ready md ops listed).contains k && Region.free md ops listed k && lexAll md ops n H f (k + 1) (listed.setIfInBounds k true)
theorem mid_all {p n : Nat} {H : Array Bool} {Lq : Act -> Prop} (hsel : Region.noSelect ops = true) (hW : Waits md ops p n) :
  ∀ (l : List Oper) (k : Nat) (listed : Array Bool) (a : Act), (∀ j, j < l.length -> l[j]? = ops[k + j]?) -> k + l.length = n -> p <= k -> HeadInv md ops n listed →
  lexAll md ops n H l.length k listed = true -> wpStill P ops w Lq l a →
  wpAnyL P md ops w n (fun listed' a' => (listed' = H /\ ∀ j ∈ Region.ready md ops listed', n <= j) /\ Lq a') l.length listed a := by
 intro l
 induction l with
 | nil =>
  intro k listed a _ hk _ _ hB h
  simp only [List.length_nil, lexAll, Bool.and_eq_true, decide_eq_true_eq, List.all_eq_true] at hB
  exact ⟨hB, h⟩
 | cons o l ih =>
  intro k listed a hl hk hpk inv hB h
  have h0 : ops[k]? = some o := by simpa using (hl 0 (by simp)).symm
  simp only [List.length_cons, lexAll, Bool.and_eq_true] at hB
  obtain ⟨⟨hr, hf⟩, hB'⟩ := hB
  have hkn : k < n := by simp only [List.length_cons] at hk; omega
  have hr' : k ∈ Region.ready md ops listed := by simpa using hr
  have hst : stOp P ops w k (wpStill P ops w Lq l) a := by unfold stOp; simp only [h0]; exact h
  obtain ⟨v, hy, hK⟩ := yieldsAt_of_stOp h0 hst
  refine mid_first h0 (Region.noSelect_spec hsel) hW hpk hkn (fun listed' a' hL => hL.1.2) l.length listed a inv (Region.free_spec h0 hf) hr' hy ?_
  exact ih (k + 1) _ _ (fun j hj => by have := hl (j + 1) (by simp; omega); simpa [Nat.add_assoc, Nat.add_comm 1 j] using this) (by simp only [List.length_cons] at hk; omega) (by omega) (inv.set hr' hkn) hB' hK
def preOpenB (md : Region.Mode) (ops : Array Oper) (p n : Nat) (H : Array Bool) : Bool :=
 Region.noSelect ops && decide (p <= n) && decide (n < ops.size) && sinkFrom md ops p n && chainW md ops n &&
  pureB md ops (fun listed => lexAll md ops n H (n - p) p listed) p 0 (Array.replicate ops.size false)
theorem wp_region_pre_open {id : Nat} {Q : Exit -> Act -> World -> Prop} {a : Act} {w : World} {l : List Oper} (p n g : Nat) (H : Array Bool) (hm : P.follows .mixedOrders = true) (hB : preOpenB .any l.toArray p n H = true) (hg : l.length = n + g)
  (h : wpPure P l.toArray Q (fun a1 => wpStill P l.toArray w.drew (fun a' => wpAny P .any l.toArray Q g H a' w.drew) ((l.take n).drop p) a1) (l.take p) a) : (Code.region id l.toArray true).wp P Q a w := by
 simp only [preOpenB, Bool.and_eq_true, decide_eq_true_eq] at hB
 obtain ⟨⟨⟨⟨⟨hsel, hpn⟩, hn⟩, hs⟩, hc⟩, hpure⟩ := hB
 have hn' : n < l.length := by simpa using hn
 have hW := waits_of2 hs hc hn
 have inv0 : HeadInv .any l.toArray n (Array.replicate l.toArray.size false) :=
  ⟨by simp, fun j oj _ hl => (by rw [getD_replicate_false] at hl; cases hl), fun t _ ht => getD_in (by simpa using ht) (getD_replicate_false _ _)⟩
 refine wp_region_any hm ?_
 have hpl : (l.take p).length = p := by rw [List.length_take]; omega
 have hml : ((l.take n).drop p).length = n - p := by rw [List.length_drop, List.length_take]; omega
 have hsz : l.toArray.size = n + g := by simpa using hg
 have key := pure_lex (P := P) (w := w.drew) (fuel := (n - p) + g) (Q := Q) (n := n) (last := fun listed => lexAll .any l.toArray n H (n - p) p listed)
  (L := fun a1 => wpStill P l.toArray w.drew (fun a' => wpAny P .any l.toArray Q g H a' w.drew) ((l.take n).drop p) a1) hsel ?_ (l.take p) 0 _ a (fun j hj => by
   rw [hpl] at hj; simp [hj]) (by rw [hpl]; omega) inv0 (by rw [hpl]; exact hpure) h
 .
  rw [hpl, show p + (n - p + g) = l.toArray.size by omega] at key
  exact key
 .
  intro listed a1 hlex inv hL
  have H := mid_all (P := P) (w := w.drew) (H := H) hsel hW ((l.take n).drop p) p listed a1 (fun j hj => by
   rw [hml] at hj
   rw [List.getElem?_drop, List.getElem?_take_of_lt (by omega)]; simp) (by rw [hml]; omega) (Nat.le_refl _) inv (by rw [hml]; exact hlex) hL
  rw [hml] at H
  refine wpAny_of_head (Q' := Q) (g := g) (fun listed' a' hL' => ?_) _ _ _ H
  rw [hL'.1.1]
  exact hL'.2
end
def OutL (w : World) (z r : Loc) : Prop := r = z \/ w.heap.size <= r.b \/ r.c = 0
theorem OutL.apart {w : World} {z r x : Loc} (h : OutL w z r) (a : Zj z x) (hx : x.Ok w) : Zj r x := by
 rcases h with rfl | h | h
 . exact a
 . exact (Zj.new hx h).symm
 . exact Or.inl h
def IntOut (w : World) (zb : Nat) (z : Loc) (v : Int) (w' : World) : Prop := ∃ r : Loc, OutL w z r /\ Upd (Or2 (Blk zb) (ZF z z.c)) w w' /\ IntV w' zb r v
theorem ZF.all {z : Loc} {k b i : Nat} (h : ZF z k b i) : ZF z z.c b i := ⟨h.1, h.2.1, h.2.2.2, h.2.2.2⟩
theorem Yb.out {w w' : World} {zb k : Nat} {z : Loc} {v : Int} (h : Yb w zb z k v w') : IntOut w zb z v w' := by
 obtain ⟨r, h1, _, h3, h4⟩ := h
 exact ⟨r, h1.elim Or.inl (fun h => Or.inr (Or.inl h)), h3.mono (fun b i _ h => h.imp id ZF.all), h4⟩
theorem IntMulRes.out {w w' : World} {zb : Nat} {z x y : Loc} {X Y : Int} (h : IntMulRes w zb z x y X Y w') : IntOut w zb z (X * Y) w' := by
 obtain ⟨r, k, h1, _, _, h4, h5⟩ := h
 exact ⟨r, h1.elim Or.inl (fun h => Or.inr (Or.inl h)), h5.mono (fun b i _ h => h.imp id ZF.all), h4⟩
structure Ints (w0 w : World) (L : List (Nat × Loc × Int)) : Prop where
 at_ : ∀ (i b : Nat) (l : Loc) (v : Int), L[i]? = some (b, l, v) -> IntV w b l v
 ap : ∀ (i j b : Nat) (l : Loc) (v : Int) (b' : Nat) (l' : Loc) (v' : Int), i ≠ j -> L[i]? = some (b, l, v) -> L[j]? = some (b', l', v') -> b ≠ b' /\ Zj l l'
 nw : ∀ (i b : Nat) (l : Loc) (v : Int), L[i]? = some (b, l, v) -> w0.heap.size <= b /\ (l.c = 0 \/ w0.heap.size <= l.b)
 up : Upd NoF w0 w
theorem Ints.upd {w0 w w' : World} {L : List (Nat × Loc × Int)} (h : Ints w0 w L) (u : Upd NoF w w') : Ints w0 w' L :=
 ⟨fun i b l v hi => (h.at_ i b l v hi).upd u (fun _ h => h) (fun _ _ h => h), h.ap, h.nw, h.up.trans u⟩
theorem Ints.cons {w0 w w' : World} {L : List (Nat × Loc × Int)} (h : Ints w0 w L) {b : Nat} {l : Loc} {v : Int} (u : Upd NoF w w') (hv : IntV w' b l v) (hb : w.heap.size <= b) (hl : l.c = 0 \/ w.heap.size <= l.b) : Ints w0 w' ((b, l, v) :: L) := by
 have h' := h.upd u
 have hs := h.up.size
 refine ⟨?_, ?_, ?_, h'.up⟩
 .
  intro i b' l' v' hi
  cases i with
  | zero => simp at hi; obtain ⟨rfl, rfl, rfl⟩ := hi; exact hv
  | succ i => exact h'.at_ i b' l' v' (by simpa using hi)
 .
  have key : ∀ (i b' : Nat) (l' : Loc) (v' : Int), L[i]? = some (b', l', v') -> b ≠ b' /\ Zj l l' := by
   intro i b' l' v' hi
   have hI := h.at_ i b' l' v' hi
   refine ⟨fun e => ?_, ?_⟩
   . have := hI.neg.lt; omega
   .
    rcases hl with h0 | h0
    . exact Or.inl h0
    . exact (Zj.new hI.nat.ok h0).symm
  intro i j b1 l1 v1 b2 l2 v2 hij h1 h2
  cases i with
  | zero =>
   cases j with
   | zero => exact absurd rfl hij
   | succ j =>
    simp at h1; obtain ⟨rfl, rfl, rfl⟩ := h1
    exact key j b2 l2 v2 (by simpa using h2)
  | succ i =>
   cases j with
   | zero =>
    simp at h2; obtain ⟨rfl, rfl, rfl⟩ := h2
    obtain ⟨k1, k2⟩ := key i b1 l1 v1 (by simpa using h1)
    exact ⟨Ne.symm k1, k2.symm⟩
   | succ j => exact h.ap i j _ _ _ _ _ _ (by omega) (by simpa using h1) (by simpa using h2)
 .
  intro i b' l' v' hi
  cases i with
  | zero => simp at hi; obtain ⟨rfl, rfl, rfl⟩ := hi; exact ⟨by omega, hl.imp id (fun h => by omega)⟩
  | succ i => exact h.nw i b' l' v' (by simpa using hi)
theorem Ints.tail {w0 w : World} {L : List (Nat × Loc × Int)} {p : Nat × Loc × Int} (h : Ints w0 w (p :: L)) : Ints w0 w L :=
 ⟨fun i b l v hi => h.at_ (i + 1) b l v (by simpa using hi), fun i j _ _ _ _ _ _ hij h1 h2 => h.ap (i + 1) (j + 1) _ _ _ _ _ _ (by omega) (by simpa using h1) (by simpa using h2), fun i b l v hi => h.nw (i + 1) b l v (by simpa using hi), h.up⟩
theorem Ints.sub {w0 w : World} {L M : List (Nat × Loc × Int)} (h : Ints w0 w L) (f : Nat -> Nat) (hf : ∀ i j, i < M.length -> j < M.length -> f i = f j -> i = j) (hM : ∀ i, i < M.length -> L[f i]? = M[i]?) : Ints w0 w M := by
 have hl : ∀ (i : Nat) (p : Nat × Loc × Int), M[i]? = some p -> i < M.length /\ L[f i]? = some p := fun i p hi => by
  have : i < M.length := by
   rcases Nat.lt_or_ge i M.length with h | h
   . exact h
   . rw [List.getElem?_eq_none h] at hi; cases hi
  exact ⟨this, by rw [hM i this, hi]⟩
 exact ⟨fun i b l v hi => h.at_ _ b l v (hl i _ hi).2, fun i j _ _ _ _ _ _ hij h1 h2 => h.ap _ _ _ _ _ _ _ _ (fun e => hij (hf i j (hl i _ h1).1 (hl j _ h2).1 e)) (hl i _ h1).2 (hl j _ h2).2, fun i b l v hi => h.nw _ b l v (hl i _ hi).2, h.up⟩
theorem Ints.out {w0 w w' : World} {L : List (Nat × Loc × Int)} (h : Ints w0 w L) {i zb : Nat} {z : Loc} {Z V : Int} (hi : L[i]? = some (zb, z, Z)) (ho : IntOut w zb z V w') : ∃ r : Loc, Ints w0 w' (L.set i (zb, r, V)) := by
 obtain ⟨r, o, u, hv⟩ := ho
 have hz := h.at_ i zb z Z hi
 obtain ⟨n1, n2⟩ := h.nw i zb z Z hi
 have hs := h.up.size
 have hlt : i < L.length := by
  rcases Nat.lt_or_ge i L.length with h | h
  . exact h
  . rw [List.getElem?_eq_none h] at hi; cases hi
 have get : ∀ (j b : Nat) (l : Loc) (v : Int), (L.set i (zb, r, V))[j]? = some (b, l, v) -> (j = i /\ b = zb /\ l = r /\ v = V) \/ (j ≠ i /\ L[j]? = some (b, l, v)) := by
  intro j b l v hj
  by_cases hji : j = i
  .
   subst hji
   rw [List.getElem?_set_self hlt] at hj
   simp only [Option.some.injEq, Prod.mk.injEq] at hj
   exact Or.inl ⟨rfl, hj.1.symm, hj.2.1.symm, hj.2.2.symm⟩
  .
   rw [List.getElem?_set_ne (Ne.symm hji)] at hj
   exact Or.inr ⟨hji, hj⟩
 refine ⟨r, ?_, ?_, ?_, ?_⟩
 .
  intro j b l v hj
  rcases get j b l v hj with ⟨_, rfl, rfl, rfl⟩ | ⟨hji, hj⟩
  . exact hv
  .
   have hx := h.at_ j b l v hj
   obtain ⟨a1, a2⟩ := h.ap i j _ _ _ _ _ _ (Ne.symm hji) hi hj
   refine hx.upd u ?_ ?_
   .
    rintro k (e | e)
    . exact a1 (Eq.symm e)
    . exact ZF.no hz.nat.ok hx.neg (by decide) _ _ e
   .
    rintro k hk (e | e)
    . exact hz.neg.neW (hx.nat.at_ k hk) (by decide) (Eq.symm e)
    . exact a2.zf (Nat.lt_of_lt_of_le hk hx.nat.le) e
 .
  have key : ∀ (j b : Nat) (l : Loc) (v : Int), j ≠ i -> L[j]? = some (b, l, v) -> zb ≠ b /\ Zj r l := fun j b l v hji hj => by
   obtain ⟨a1, a2⟩ := h.ap i j _ _ _ _ _ _ (Ne.symm hji) hi hj
   exact ⟨a1, o.apart a2 (h.at_ j b l v hj).nat.ok⟩
  intro j k b l v b' l' v' hjk hj hk
  rcases get j b l v hj with ⟨e1, e2, e3, e4⟩ | ⟨hji, hj2⟩
  .
   rcases get k b' l' v' hk with ⟨e5, _⟩ | ⟨hki, hk2⟩
   . exact absurd (e1.trans e5.symm) hjk
   .
    subst e2; subst e3
    exact key k b' l' v' hki hk2
  .
   rcases get k b' l' v' hk with ⟨e1, e2, e3, e4⟩ | ⟨hki, hk2⟩
   .
    subst e2; subst e3
    obtain ⟨k1, k2⟩ := key j b l v hji hj2
    exact ⟨Ne.symm k1, k2.symm⟩
   . exact h.ap j k _ _ _ _ _ _ hjk hj2 hk2
 .
  intro j b l v hj
  rcases get j b l v hj with ⟨_, rfl, rfl, rfl⟩ | ⟨hji, hj⟩
  .
   refine ⟨n1, ?_⟩
   rcases o with rfl | o | o
   . exact n2
   . exact Or.inr (by omega)
   . exact Or.inl o
  . exact h.nw j b l v hj
 .
  refine h.up.then u (fun _ _ _ h => h) (fun b i hb e => ?_)
  rcases e with e | ⟨e1, e2, e3, e4⟩
  .
   have : b = zb := e
   omega
  . rcases n2 with n2 | n2 <;> omega
theorem Ints.rel {w0 w : World} {L : List (Nat × Loc × Int)} (h : Ints w0 w L) {i j zb xb : Nat} {z x : Loc} {Z X : Int} (hi : L[i]? = some (zb, z, Z)) (hj : L[j]? = some (xb, x, X)) : Rel z x := by
 by_cases e : i = j
 .
  subst e
  rw [hi] at hj
  cases hj
  exact Or.inl rfl
 . exact Or.inr (h.ap i j _ _ _ _ _ _ e hi hj).2
theorem IntV.low {w : World} {zb : Nat} {z : Loc} {Z : Int} (h : IntV w zb z Z) (h0 : z.c = 0) : IntV w zb ⟨z.A, 0, 0, 0⟩ Z := by
 have hd : digs Z.natAbs = [] := List.eq_nil_of_length_eq_zero (by have := h.nat.le; omega)
 have := h.abs
 rw [h0] at this
 refine ⟨h.neg, this, ⟨Nat.zero_le _, fun h => absurd h (Nat.lt_irrefl 0)⟩, by rw [hd]; exact Nat.le_refl _, by rw [hd]; exact U64.nil _ _ _, h.nat.dig⟩
theorem IntOut.low {w w' : World} {zb : Nat} {z : Loc} {V : Int} (h0 : z.c = 0) (h : IntOut w zb ⟨z.A, 0, 0, 0⟩ V w') : IntOut w zb z V w' := by
 obtain ⟨r, o, u, hv⟩ := h
 refine ⟨r, ?_, u.mono (fun b i _ h => h.imp id (fun ⟨_, h2, _, h4⟩ => absurd h4 (by simp only at h2 ⊢; omega))), hv⟩
 rcases o with rfl | o | o
 . exact Or.inr (Or.inr rfl)
 . exact Or.inr (Or.inl o)
 . exact Or.inr (Or.inr o)
theorem Add_o (zb xb yb : Nat) (z x y : Loc) (Z X Y : Int) (w : World) (hz : IntV w zb z Z) (hx : IntV w xb x X) (hy : IntV w yb y Y) (rx : Rel z x) (ry : Rel z y) (hm : (digs X.natAbs).length + 1 <= 1099511627776) (hn : (digs Y.natAbs).length + 1 <= 1099511627776) :
  Calls Tryz.prog 64 #[.pointer (some ⟨zb, 0, none⟩), .pointer (some ⟨xb, 0, none⟩), .pointer (some ⟨yb, 0, none⟩)] w fun e w' => e = .returned (.pointer (some ⟨zb, 0, none⟩)) /\ IntOut w zb z (X + Y) w' := by
 rcases Nat.eq_zero_or_pos z.c with h0 | h0
 . exact (Int_Add_any zb xb yb _ x y _ _ X Y w (hz.low h0).dest hx hy hm hn (Or.inr (Or.inl (Nat.zero_le _))) (Or.inr (Or.inl (Nat.zero_le _)))).mono (fun _ _ ⟨h1, h2⟩ => ⟨h1, h2.out.low h0⟩)
 . exact (Int_Add_any zb xb yb z x y _ _ X Y w hz.dest hx hy hm hn (rx.up hx.nat.le h0) (ry.up hy.nat.le h0)).mono (fun _ _ ⟨h1, h2⟩ => ⟨h1, h2.out⟩)
theorem Sub_o (zb xb yb : Nat) (z x y : Loc) (Z X Y : Int) (w : World) (hz : IntV w zb z Z) (hx : IntV w xb x X) (hy : IntV w yb y Y) (rx : Rel z x) (ry : Rel z y) (hm : (digs X.natAbs).length + 1 <= 1099511627776) (hn : (digs Y.natAbs).length + 1 <= 1099511627776) :
  Calls Tryz.prog 79 #[.pointer (some ⟨zb, 0, none⟩), .pointer (some ⟨xb, 0, none⟩), .pointer (some ⟨yb, 0, none⟩)] w fun e w' => e = .returned (.pointer (some ⟨zb, 0, none⟩)) /\ IntOut w zb z (X - Y) w' := by
 rcases Nat.eq_zero_or_pos z.c with h0 | h0
 . exact (Int_Sub_any zb xb yb _ x y _ _ X Y w (hz.low h0).dest hx hy hm hn (Or.inr (Or.inl (Nat.zero_le _))) (Or.inr (Or.inl (Nat.zero_le _)))).mono (fun _ _ ⟨h1, h2⟩ => ⟨h1, h2.out.low h0⟩)
 . exact (Int_Sub_any zb xb yb z x y _ _ X Y w hz.dest hx hy hm hn (rx.up hx.nat.le h0) (ry.up hy.nat.le h0)).mono (fun _ _ ⟨h1, h2⟩ => ⟨h1, h2.out⟩)
theorem SetInt64_o (zb x : Nat) (z : Loc) (Z : Int) (w : World) (hz : IntV w zb z Z) (hx : x < 9223372036854775808) :
  Calls Tryz.prog 74 #[.pointer (some ⟨zb, 0, none⟩), .int .i64 (x : Int)] w fun e w' => e = .returned (.pointer (some ⟨zb, 0, none⟩)) /\ IntOut w zb z (x : Int) w' :=
 (SetInt64_any zb x z _ _ w hz.dest hx).mono (fun _ _ ⟨h1, h2⟩ => ⟨h1, h2.out⟩)
theorem Set_o (zb xb : Nat) (z x : Loc) (Z X : Int) (w : World) (hz : IntV w zb z Z) (hx : IntV w xb x X) (hne : zb ≠ xb) (hm : (digs X.natAbs).length <= 1099511627776) :
  Calls Tryz.prog 49 #[.pointer (some ⟨zb, 0, none⟩), .pointer (some ⟨xb, 0, none⟩)] w fun e w' => e = .returned (.pointer (some ⟨zb, 0, none⟩)) /\ IntOut w zb z X w' :=
 (Set_any zb xb _ z x _ X w hz.dest hx hne hm).mono (fun _ _ ⟨h1, h2⟩ => ⟨h1, h2.out⟩)
set_option linter.unusedSimpArgs false
theorem sign_quo {X Y : Int} {sx sy : Bool} (hx : decide (X < 0) = sx) (hy : decide (Y < 0) = sy) (h0 : X.natAbs / Y.natAbs ≠ 0) : decide (X.tdiv Y < 0) = (sx != sy) := by
 have hX : X ≠ 0 := by intro h; subst h; simp at h0
 have hY : Y ≠ 0 := by intro h; subst h; simp at h0
 have hq : X.tdiv Y ≠ 0 := by
  intro h; rw [<- Int.natAbs_eq_zero, Int.natAbs_tdiv] at h
  exact h0 h
 subst hx; subst hy
 rcases Int.lt_or_gt_of_ne hX with h1 | h1 <;> rcases Int.lt_or_gt_of_ne hY with h2 | h2
 .
  have : 0 <= X.tdiv Y := Int.tdiv_nonneg_of_nonpos_of_nonpos (by omega) (by omega)
  simp [h1, h2]; omega
 .
  have : X.tdiv Y <= 0 := by
   have := Int.tdiv_nonneg (a := -X) (b := Y) (by omega) (by omega)
   rw [Int.neg_tdiv] at this; omega
  have h3 : ¬ Y < 0 := by omega
  simp [h1, h3]; omega
 .
  have : X.tdiv Y <= 0 := by
   have := Int.tdiv_nonneg (a := X) (b := -Y) (by omega) (by omega)
   rw [Int.tdiv_neg] at this; omega
  have h3 : ¬ X < 0 := by omega
  simp [h2, h3]; omega
 .
  have : 0 <= X.tdiv Y := Int.tdiv_nonneg (by omega) (by omega)
  have h3 : ¬ X < 0 := by omega
  have h4 : ¬ Y < 0 := by omega
  simp [h3, h4]; omega
def cmpI (X Y : Int) : Int := if X < Y then -1 else if Y < X then 1 else 0
theorem cmpI_pos {X Y : Int} (hx : decide (X < 0) = false) (hy : decide (Y < 0) = false) : cmpN X.natAbs Y.natAbs = cmpI X Y := by
 have hx := of_decide_eq_false hx
 have hy := of_decide_eq_false hy
 unfold cmpN cmpI
 by_cases h : X < Y
 . rw [if_pos h, if_pos (by omega)]
 .
  rw [if_neg h, if_neg (by omega)]
  by_cases h2 : Y < X
  . rw [if_pos h2, if_pos (by omega)]
  . rw [if_neg h2, if_neg (by omega)]
theorem cmpI_neg {X Y : Int} (hx : decide (X < 0) = true) (hy : decide (Y < 0) = true) : IntKind.i64.wrap (-(cmpN X.natAbs Y.natAbs)) = cmpI X Y := by
 have hx := of_decide_eq_true hx
 have hy := of_decide_eq_true hy
 unfold cmpN cmpI
 by_cases h : X < Y
 . rw [if_pos h, if_neg (by omega), if_pos (by omega)]; rfl
 .
  rw [if_neg h]
  by_cases h2 : Y < X
  . rw [if_pos h2, if_pos (by omega)]; rfl
  . rw [if_neg h2, if_neg (by omega), if_neg (by omega)]; rfl
set_option maxRecDepth 1000000 in
set_option maxHeartbeats 1600000 in
theorem Cmp_oO (xb yb yo : Nat) (x y : Loc) (X Y : Int) (w : World) (hx : IntV w xb x X) (hy : IntVo w yb yo y Y) (hne : xb ≠ yb) (hm : (digs X.natAbs).length <= 1099511627776) :
  Calls Tryz.prog 63 #[.pointer (some ⟨xb, 0, none⟩), .pointer (some ⟨yb, yo, none⟩)] w fun e w' => e = .returned (.int .i64 (cmpI X Y)) /\ Drew w w' := by
 have c5 := hx.neg.cell
 have c6 := hx.abs.cell
 have c7 := hy.neg
 have c8 := hy.abs
 have heq := eql_intsO (o' := yo) hx.neg.free hy.free (r := false) (by rw [addr_beq]; exact decide_eq_false (fun h => hne h.1))
 obtain ⟨sx, hsx⟩ : ∃ s, decide (X < 0) = s := ⟨_, rfl⟩
 obtain ⟨sy, hsy⟩ : ∃ s, decide (Y < 0) = s := ⟨_, rfl⟩
 rw [hsx] at c5
 rw [hsy] at c7
 have HC := Qq (fun (w' : World) (u : Upd NoF w w') => cmp_any x y X.natAbs Y.natAbs w' (hx.nat.upd0 u) (hy.nat.upd0 u) (by omega))
 obtain ⟨k, hk⟩ : ∃ k, cmpN X.natAbs Y.natAbs = k := ⟨_, rfl⟩
 rw [hk] at HC
 obtain ⟨r, hr⟩ : ∃ r, cmpI X Y = r := ⟨_, rfl⟩
 have HR := Qq (Qj hsx (Qj hsy (Qj hk hr)))
 rw [hr]
 clear hx hy hsx hsy hk hr hne
 by_cases hs : sx = sy
 .
  subst hs
  have q1 : (sx == sx) = true := by simp
  cases sx with
  | false =>
   have e1 : k = r := by rw [<- HR.out.2.2.1, <- HR.out.2.2.2]; exact cmpI_pos HR.out.1 HR.out.2.1
   subst e1
   clear HR
   go_enter Tryz.func63, Tryz.ntmps63
   go_wp2_with fail
   go_quiet (fail)
   go_wp2_with fail
   go_quiet ((go_at_call 71; exact Calls.quiet_add (HC.out _ ((Upd.refl NoF w).drewN _))))
   go_wp2_with fail
   go_ret
   exact ⟨rfl, _, rfl⟩
  | true =>
   have e1 : IntKind.i64.wrap (-k) = r := by rw [<- HR.out.2.2.1, <- HR.out.2.2.2]; exact cmpI_neg HR.out.1 HR.out.2.1
   clear HR
   go_enter Tryz.func63, Tryz.ntmps63
   go_wp2_with fail
   go_quiet (fail)
   go_wp2_with fail
   go_quiet ((go_at_call 71; exact Calls.quiet_add (HC.out _ ((Upd.refl NoF w).drewN _))))
   go_wp2_with fail
   go_ret
   exact ⟨rfl, _, rfl⟩
 .
  have q1 : (sx == sy) = false := by simpa using hs
  have e1 : r = if sx = true then -1 else 1 := by
   rw [<- HR.out.2.2.2]
   have h1 := HR.out.1
   have h2 := HR.out.2.1
   unfold cmpI
   cases sx <;> cases sy
   . exact absurd rfl hs
   .
    have h1 := of_decide_eq_false h1
    have h2 := of_decide_eq_true h2
    rw [if_neg (by omega), if_pos (by omega)]; rfl
   .
    have h1 := of_decide_eq_true h1
    have h2 := of_decide_eq_false h2
    rw [if_pos (by omega)]; rfl
   . exact absurd rfl hs
  clear HR HC hs
  subst e1
  cases sx <;> cases sy
  . cases q1
  .
   go_enter Tryz.func63, Tryz.ntmps63
   go_wp2_with fail
   go_quiet (fail)
   go_wp2_with fail
   go_ret
   exact ⟨rfl, _, rfl⟩
  .
   go_enter Tryz.func63, Tryz.ntmps63
   go_wp2_with fail
   go_quiet (fail)
   go_wp2_with fail
   go_ret
   exact ⟨rfl, _, rfl⟩
  . cases q1
theorem IntV.inj {w : World} {b : Nat} {l l' : Loc} {v v' : Int} (h : IntV w b l v) (k : IntV w b l' v') : v = v' := by
 have e1 := h.neg.cell.symm.trans k.neg.cell
 have e2 := h.abs.cell.symm.trans k.abs.cell
 simp only [Option.some.injEq, Value.bool.injEq, Value.slice.injEq, decide_eq_decide] at e1 e2
 obtain ⟨e3, e4, e5⟩ := e2
 have e6 : digs v.natAbs = digs v'.natAbs := by
  have e4 : (digs v.natAbs).length = (digs v'.natAbs).length := by omega
  refine List.ext_getElem e4 (fun i h1 h2 => ?_)
  have a1 := h.nat.addr (by omega)
  have a2 := k.nat.addr (by omega)
  have c1 := (h.nat.at_ i h1).cell
  have c2 := (k.nat.at_ i h2).cell
  rw [e3, a2] at a1
  simp only [Option.some.injEq, Addr.mk.injEq] at a1
  rw [<- a1.1, <- a1.2.1] at c1
  have := c1.symm.trans c2
  simp only [Option.some.injEq, Value.int.injEq] at this
  omega
 have e7 : v.natAbs = v'.natAbs := by
  have := congrArg (val B64) e6
  rwa [Zv, Zv] at this
 omega
open Classical in
noncomputable def intAt (w : World) (b : Nat) : Int := if h : ∃ v : Int, ∃ l : Loc, IntV w b l v then Classical.choose h else 0
theorem IntV.val {w : World} {b : Nat} {l : Loc} {v : Int} (h : IntV w b l v) : intAt w b = v := by
 have hx : ∃ v : Int, ∃ l : Loc, IntV w b l v := ⟨v, l, h⟩
 unfold intAt
 rw [dif_pos hx]
 obtain ⟨l', hl⟩ := Classical.choose_spec hx
 exact hl.inj h
def OneI (w : World) : Prop := ∃ (ob oo : Nat) (lo : Loc), Zh 54 w 0 0 (.pointer (some ⟨ob, oo, none⟩)) /\ IntVo w ob oo lo 1
theorem OneI.upd {w w' : World} (h : OneI w) (u : Upd NoF w w') : OneI w' := let ⟨ob, oo, lo, h1, h2⟩ := h; ⟨ob, oo, lo, h1.upd u (fun h => h), h2.upd u (fun _ h => h) (fun _ _ h => h)⟩
theorem G_small {k : Nat} (h : k <= 10000) : G k <= 1099511627776 := Nat.le_trans (G_mono h) (by decide)
theorem Ints.new {w0 w : World} {L : List (Nat × Loc × Int)} (h : Ints w0 w L) : Ints w0 (w.alloc (.cells #[.bool false, .slice none 0 0] 58)) ((w.heap.size, nilL, 0) :: L) := by
 have hD := intBox w _ (Upd.refl NoF _)
 refine h.cons ((Upd.refl NoF w).alloc _) ⟨?_, ?_, ?_⟩ (Nat.le_refl _) (Or.inl rfl)
 . exact hD.neg
 .
  have := hD.abs
  show Zh _ _ _ _ (.slice nilL.A (digs 0).length nilL.c)
  rw [Yg]; exact this
 . exact NatV.zero (nilL_ok _)
theorem size_alloc (w : World) (o : Obj) : (w.alloc o).heap.size = w.heap.size + 1 := by simp
end Go.Proofs.YthkklkjldpcbkaaGreatDoor
