/- For the claim of laws.FnInverse: Region3, QuoRem, Mod. -/
import Derived.Test.YthkklkjldpcbkaaGreatDoorLiD3
import Derived.Test.YthkklkjldpcbkaaGreatDoorLiD6
import Derived.BigQuiet
set_option linter.unusedVariables false
set_option linter.unusedSimpArgs false
set_option maxHeartbeats 16000000
set_option maxRecDepth 1000000
open List renaming setIfInBounds_toArray → zqd, set_cons_zero → zqe, set_cons_succ → zqf
namespace Go.Proofs.YthkklkjldpcbkaaGreatDoor
open Go.RowKit
section
variable {P : Program} {ops : Array Oper} {md : Region.Mode} {w : World} {Q : Exit -> Act -> World -> Prop}
structure HStill (P : Program) (ops : Array Oper) (w : World) (L : Act -> Prop) (l : List Oper) (a : Act) : Prop where
 out : wpStill P ops w L l a
theorem HStill.nil {L : Act -> Prop} {a : Act} (h : L a) : HStill P ops w L [] a := ⟨h⟩
theorem HStill.step {L : Act -> Prop} {a : Act} {o : Oper} {rest : List Oper}
  (h : ∀ K : Act -> Prop, (∀ a, HStill P ops w L rest a -> K a) -> if Region.wanted o (yielded ops a.tmps) then o.still P a w K else K (a.put o.dst undef)) : HStill P ops w L (o :: rest) a :=
 ⟨wpStill_step (fun K hK => h K (fun a h' => hK a h'.out))⟩
def wpMix (P : Program) (md : Region.Mode) (ops : Array Oper) (Q : Exit -> Act -> World -> Prop) (w : World) (n : Nat) : Nat -> Array Bool -> Act -> Prop
 | 0, listed, a => wpAny P md ops Q 0 listed a w
 | f + 1, listed, a => (Region.ready md ops listed = [] -> Q .normal a w) ∧
   ∀ i ∈ Region.ready md ops listed, if i < n then stOp P ops w i (wpMix P md ops Q w n f (listed.setIfInBounds i true)) a else wpOp P ops Q i (wpAny P md ops Q f (listed.setIfInBounds i true)) a w
theorem wpAny_of_mix {n : Nat} : ∀ (f : Nat) (listed : Array Bool) (a : Act), wpMix P md ops Q w n f listed a -> wpAny P md ops Q f listed a w
 | 0, _, _, h => h
 | f + 1, listed, a, h => by
  refine ⟨h.1, fun i hi => ?_⟩
  have h2 := h.2 i hi
  by_cases hin : i < n
  .
   rw [if_pos hin] at h2
   exact wpOp_of_stOp (fun a' h' => wpAny_of_mix f _ a' h') h2
  .
   rw [if_neg hin] at h2
   exact h2
theorem mix_of_any {n f : Nat} {listed : Array Bool} {a : Act} (hr : ∀ j ∈ Region.ready md ops listed, n <= j) (h : wpAny P md ops Q f listed a w) : wpMix P md ops Q w n f listed a := by
 cases f with
 | zero => exact h
 | succ f => exact ⟨h.1, fun i hi => by rw [if_neg (by have := hr i hi; omega)]; exact h.2 i hi⟩
def GateI (md : Region.Mode) (ops : Array Oper) (n i : Nat) : Prop := ∀ (listed : Array Bool), HeadInv md ops n listed -> listed.getD i true = false -> ∀ t, n <= t -> t ∉ Region.ready md ops listed
theorem mix_read {n i : Nat} {oi : Oper} {v : Value} (hi : ops[i]? = some oi) (hsel : ∀ (j : Nat) (o : Oper) cs b, ops[j]? = some o -> o.op ≠ .select cs b) (hin : i < n) (hG : GateI md ops n i) :
  ∀ (f : Nat) (listed : Array Bool) (a : Act), HeadInv md ops n listed →
   (∀ j oj, ops[j]? = some oj -> j ≠ i -> listed.getD j true = false -> (∀ e ∈ oj.after, Region.binds md e = true -> e.on ≠ i) -> oi.apart ops oj = true) →
   i ∈ Region.ready md ops listed -> YieldsAt P ops w oi v a →
   wpMix P md ops Q w n f (listed.setIfInBounds i true) (a.put oi.dst v) -> wpMix P md ops Q w n (f + 1) listed a := by
 intro f
 induction f with
 | zero =>
  intro listed a inv _ hr hy H
  refine ⟨fun h => absurd (h ▸ hr) (by simp), fun j hj => ?_⟩
  by_cases hji : j = i
  . rw [hji, if_pos hin]; exact hy.stOp hi H
  .
   have := ready_mono hj hji
   rw [H.1] at this
   cases this
 | succ f ih =>
  intro listed a inv hfree hr hy H
  refine ⟨fun h => absurd (h ▸ hr) (by simp), fun j hj => ?_⟩
  have hun := (mem_ready.1 hr).1
  have hjn : j < n := Nat.lt_of_not_le fun h => hG listed inv hun j h hj
  rw [if_pos hjn]
  by_cases hji : j = i
  . rw [hji]; exact hy.stOp hi H
  obtain ⟨hjun, oj, hoj, hall⟩ := mem_ready.1 hj
  have hnot : ∀ e ∈ oj.after, Region.binds md e = true -> e.on ≠ i := fun e he hb heq => by
   have h1 := hall e he hb
   rw [heq, getD_both hun] at h1
   cases h1
  have h2 := H.2 j (ready_mono hj hji)
  rw [if_pos hjn] at h2
  refine stOp_mono (fun a' h3 => ih (listed.setIfInBounds j true) a' (inv.set hj hjn) ?_ (ready_mono hr (Ne.symm hji)) h3.1 ?_)
   (stOp_put hoj (hfree j oj hoj hji hjun hnot) (fun cs b => hsel i oi cs b hi) (fun cs b => hsel j oj cs b hoj) hy h2)
  .
   intro k ok hk hki hkun hno
   refine hfree k ok hk hki ?_ hno
   by_cases hjk : j = k
   . rw [<- hjk]; exact hjun
   . rwa [getD_set_ne true hjk] at hkun
  .
   rw [Array.setIfInBounds_comm _ _ hji]
   exact h3.2
theorem yields_at {o : Oper} {v : Value} {a : Act} (hy : Yields P ops o v a) : YieldsAt P ops w o v a := hy.imp (fun h => ⟨h.1, Or.inl (h.2 w)⟩) id
theorem mix_pure {n i : Nat} {oi : Oper} {v : Value} (hi : ops[i]? = some oi) (hsel : ∀ (j : Nat) (o : Oper) cs b, ops[j]? = some o -> o.op ≠ .select cs b) (hin : i < n) (hQ : ∀ c a w, Q (.panic c) (Act.put a oi.dst v) w -> Q (.panic c) a w) :
  ∀ (f : Nat) (listed : Array Bool) (a : Act), HeadInv md ops n listed →
   (∀ j oj, ops[j]? = some oj -> j ≠ i -> listed.getD j true = false -> (∀ e ∈ oj.after, Region.binds md e = true -> e.on ≠ i) -> oi.apart ops oj = true) →
   i ∈ Region.ready md ops listed -> Yields P ops oi v a →
   wpMix P md ops Q w n f (listed.setIfInBounds i true) (a.put oi.dst v) -> wpMix P md ops Q w n (f + 1) listed a := by
 intro f
 induction f with
 | zero =>
  intro listed a inv _ hr hy H
  refine ⟨fun h => absurd (h ▸ hr) (by simp), fun j hj => ?_⟩
  by_cases hji : j = i
  . rw [hji, if_pos hin]; exact (yields_at hy).stOp hi H
  .
   have := ready_mono hj hji
   rw [H.1] at this
   cases this
 | succ f ih =>
  intro listed a inv hfree hr hy H
  refine ⟨fun h => absurd (h ▸ hr) (by simp), fun j hj => ?_⟩
  have hun := (mem_ready.1 hr).1
  by_cases hji : j = i
  . rw [hji, if_pos hin]; exact (yields_at hy).stOp hi H
  obtain ⟨hjun, oj, hoj, hall⟩ := mem_ready.1 hj
  have hnot : ∀ e ∈ oj.after, Region.binds md e = true -> e.on ≠ i := fun e he hb heq => by
   have h1 := hall e he hb
   rw [heq, getD_both hun] at h1
   cases h1
  have hap := hfree j oj hoj hji hjun hnot
  have h2 := H.2 j (ready_mono hj hji)
  have hfree' : ∀ k ok, ops[k]? = some ok -> k ≠ i -> (listed.setIfInBounds j true).getD k true = false -> (∀ e ∈ ok.after, Region.binds md e = true -> e.on ≠ i) -> oi.apart ops ok = true := by
   intro k ok hk hki hkun hno
   refine hfree k ok hk hki ?_ hno
   by_cases hjk : j = k
   . rw [<- hjk]; exact hjun
   . rwa [getD_set_ne true hjk] at hkun
  by_cases hjn : j < n
  .
   rw [if_pos hjn] at h2 ⊢
   obtain ⟨_, _, h3⟩ := Oper.apart_spec hap
   obtain ⟨u, hyj, hYA, hK⟩ := yieldsAt_of_stOp hoj (stOp_put hoj hap (fun cs b => hsel i oi cs b hi) (fun cs b => hsel j oj cs b hoj) (yields_at hy) h2)
   refine hyj.stOp hoj (ih (listed.setIfInBounds j true) _ (inv.set hj hjn) hfree' (ready_mono hr (Ne.symm hji)) (hy.of_same (execOp_put oi (fun cs b => hsel i oi cs b hi) a oj.dst u h3) (wanted_put oi a oj.dst u h3)) ?_)
   rw [Array.setIfInBounds_comm _ _ hji]
   exact hK
  .
   rw [if_neg hjn] at h2 ⊢
   refine wpOp_mono (fun a' w' h3 => wpAny_first hi hsel hQ f (listed.setIfInBounds j true) a' w' hfree' (ready_mono hr (Ne.symm hji)) h3.1 ?_)
    (wpOp_put hoj hap (fun cs b => hsel i oi cs b hi) (fun cs b => hsel j oj cs b hoj) hQ hy h2)
   rw [Array.setIfInBounds_comm _ _ hji]
   exact h3.2
theorem mix_stills {n f : Nat} {last : Array Bool -> Bool} {L : Act -> Prop} (hsel : Region.noSelect ops = true)
  (hlast : ∀ listed a, last listed = true -> HeadInv md ops n listed -> L a -> wpMix P md ops Q w n f listed a) :
  ∀ (l : List Oper) (k : Nat) (listed : Array Bool) (a : Act), (∀ j, j < l.length -> l[j]? = ops[k + j]?) -> k + l.length <= n -> (∀ i, k <= i -> i < k + l.length -> GateI md ops n i) -> HeadInv md ops n listed →
  pureB md ops last l.length k listed = true -> wpStill P ops w L l a -> wpMix P md ops Q w n (l.length + f) listed a := by
 intro l
 induction l with
 | nil =>
  intro k listed a _ _ _ inv hB h
  rw [List.length_nil, Nat.zero_add]
  exact hlast listed a hB inv h
 | cons o l ih =>
  intro k listed a hl hk hG inv hB h
  have h0 : ops[k]? = some o := by simpa using (hl 0 (by simp)).symm
  simp only [List.length_cons] at hk hG
  simp only [List.length_cons, pureB, Bool.and_eq_true] at hB
  obtain ⟨⟨hr, hf⟩, hB'⟩ := hB
  have hr' : k ∈ Region.ready md ops listed := by simpa using hr
  have hst : stOp P ops w k (wpStill P ops w L l) a := by unfold stOp; simp only [h0]; exact h
  obtain ⟨v, hy, hK⟩ := yieldsAt_of_stOp h0 hst
  rw [List.length_cons, show l.length + 1 + f = (l.length + f) + 1 by omega]
  refine mix_read h0 (Region.noSelect_spec hsel) (by omega) (hG k (Nat.le_refl _) (by omega)) _ listed a inv (Region.free_spec h0 hf) hr' hy ?_
  exact ih (k + 1) _ _ (fun j hj => by have := hl (j + 1) (by simp; omega); simpa [Nat.add_assoc, Nat.add_comm 1 j] using this) (by omega) (fun i h1 h2 => hG i (by omega) (by omega)) (inv.set hr' (by omega)) hB' hK
theorem mix_pures {n f : Nat} {last : Array Bool -> Bool} {L : Act -> Prop} (hsel : Region.noSelect ops = true)
  (hlast : ∀ listed a, last listed = true -> HeadInv md ops n listed -> L a -> wpMix P md ops Q w n f listed a) :
  ∀ (l : List Oper) (k : Nat) (listed : Array Bool) (a : Act), (∀ j, j < l.length -> l[j]? = ops[k + j]?) -> k + l.length <= n -> HeadInv md ops n listed →
  pureB md ops last l.length k listed = true -> wpPure P ops Q L l a -> wpMix P md ops Q w n (l.length + f) listed a := by
 intro l
 induction l with
 | nil =>
  intro k listed a _ _ inv hB h
  rw [List.length_nil, Nat.zero_add]
  exact hlast listed a hB inv h
 | cons o l ih =>
  intro k listed a hl hk inv hB h
  have h0 : ops[k]? = some o := by simpa using (hl 0 (by simp)).symm
  simp only [List.length_cons] at hk
  simp only [List.length_cons, pureB, Bool.and_eq_true] at hB
  obtain ⟨⟨hr, hf⟩, hB'⟩ := hB
  have hr' : k ∈ Region.ready md ops listed := by simpa using hr
  obtain ⟨v, hQ, hy, hK⟩ := h
  rw [List.length_cons, show l.length + 1 + f = (l.length + f) + 1 by omega]
  refine mix_pure h0 (Region.noSelect_spec hsel) (by omega) hQ _ listed a inv (Region.free_spec h0 hf) hr' hy ?_
  exact ih (k + 1) _ _ (fun j hj => by have := hl (j + 1) (by simp; omega); simpa [Nat.add_assoc, Nat.add_comm 1 j] using this) (by omega) (inv.set hr' (by omega)) hB' hK
def gateQ (md : Region.Mode) (ops : Array Oper) (p q n : Nat) : Bool := (List.range ops.size).all fun t => decide (t < n) || (List.range t).any (fun s => decide (n <= s) && Region.waitsFor md ops t s) ||
 (List.range n).all fun i => decide (i < p) || decide (i = q) || Region.waitsFor md ops t i || (List.range n).any fun j => decide (i < j) && decide (j ≠ q) && Region.waitsFor md ops j i
theorem gate_of {p q n : Nat} (hc : gateQ md ops p q n = true) : ∀ (d i : Nat), n - i <= d -> p <= i -> i < n -> i ≠ q -> GateI md ops n i := by
 intro d
 induction d with
 | zero => intro i hd _ hi; omega
 | succ d ih =>
  intro i hd hpi hi hiq listed inv hun t ht hr
  obtain ⟨_, ot, hot, hall⟩ := mem_ready.1 hr
  have htlt : t < ops.size := (Array.getElem?_eq_some_iff.1 hot).1
  have notyet : ∀ j, Region.waitsFor md ops t j = true -> listed.getD j false = true := fun j hj => by
   obtain ⟨o', ho', e, he, hb, hon⟩ := Region.waitsFor_spec hj
   have : o' = ot := Option.some.inj (ho'.symm.trans hot)
   subst this
   rw [<- hon]; exact hall e he hb
  have h1 := List.all_eq_true.1 hc t (List.mem_range.2 htlt)
  simp only [Bool.or_eq_true, decide_eq_true_eq] at h1
  rcases h1 with (h1 | h1) | h1
  . omega
  .
   obtain ⟨s, hs1, hs2⟩ := List.any_eq_true.1 h1
   simp only [Bool.and_eq_true, decide_eq_true_eq] at hs2
   have hst := List.mem_range.1 hs1
   have := notyet _ hs2.2
   rw [getD_both (inv.tail s (by omega) (by omega))] at this
   cases this
  .
   have h2 := List.all_eq_true.1 h1 i (List.mem_range.2 hi)
   simp only [Bool.or_eq_true, decide_eq_true_eq] at h2
   rcases h2 with ((h2 | h2) | h2) | h2
   . omega
   . exact hiq h2
   .
    have := notyet _ h2
    rw [getD_both hun] at this
    cases this
   .
    obtain ⟨j, hj, hj2⟩ := List.any_eq_true.1 h2
    simp only [Bool.and_eq_true, decide_eq_true_eq] at hj2
    have hjn := List.mem_range.1 hj
    obtain ⟨oj, hoj, e, he, hb, hon⟩ := Region.waitsFor_spec hj2.2
    cases hl : listed.getD j false with
    | true =>
     have h2 := inv.closed j oj hoj hl e he hb
     rw [hon, getD_both hun] at h2
     cases h2
    | false => exact ih j (by omega) (by omega) hjn hj2.1.2 listed inv (getD_in (by rw [inv.size]; omega) hl) t ht hr
def mixB (md : Region.Mode) (ops : Array Oper) (p q n : Nat) (H : Array Bool) : Bool :=
 Region.noSelect ops && decide (p <= q) && decide (q < n) && decide (n < ops.size) && gateQ md ops p q n &&
  pureB md ops (pureB md ops (pureB md ops (pureB md ops (fun listed => decide (listed = H) && (Region.ready md ops listed).all (fun j => decide (n <= j))) (n - (q + 1)) (q + 1)) 1 q) (q - p) p) p 0 (Array.replicate ops.size false)
theorem wp_region_mix {id : Nat} {a : Act} {l : List Oper} (p q n g : Nat) (H : Array Bool) (hm : P.follows .mixedOrders = true) (hB : mixB .any l.toArray p q n H = true) (hg : l.length = n + g)
  (h : wpPure P l.toArray Q (fun a1 => HStill P l.toArray w.drew (fun a2 => wpPure P l.toArray Q (fun a3 => HStill P l.toArray w.drew (fun a' => wpAny P .any l.toArray Q g H a' w.drew) ((l.take n).drop (q + 1)) a3) ((l.take (q + 1)).drop q) a2) ((l.take q).drop p) a1) (l.take p) a) :
  (Code.region id l.toArray true).wp P Q a w := by
 simp only [mixB, Bool.and_eq_true, decide_eq_true_eq] at hB
 obtain ⟨⟨⟨⟨⟨hsel, hpq⟩, hqn⟩, hn⟩, hc⟩, hpure⟩ := hB
 have hn' : n < l.length := by simpa using hn
 have hG : ∀ i, p <= i -> i < n -> i ≠ q -> GateI .any l.toArray n i := fun i h1 h2 h3 => gate_of hc _ i (Nat.le_refl _) h1 h2 h3
 have inv0 : HeadInv .any l.toArray n (Array.replicate l.toArray.size false) :=
  ⟨by simp, fun j oj _ hl => (by rw [getD_replicate_false] at hl; cases hl), fun t _ ht => getD_in (by simpa using ht) (getD_replicate_false _ _)⟩
 refine wp_region_any hm ?_
 have e1 : (l.take p).length = p := by rw [List.length_take]; omega
 have e2 : ((l.take q).drop p).length = q - p := by rw [List.length_drop, List.length_take]; omega
 have e3 : ((l.take (q + 1)).drop q).length = 1 := by rw [List.length_drop, List.length_take]; omega
 have e4 : ((l.take n).drop (q + 1)).length = n - (q + 1) := by rw [List.length_drop, List.length_take]; omega
 have hsz : l.toArray.size = n + g := by simpa using hg
 have f2 : ∀ j, j < ((l.take q).drop p).length -> ((l.take q).drop p)[j]? = l.toArray[p + j]? := fun j hj => by
  rw [e2] at hj; rw [List.getElem?_drop, List.getElem?_take_of_lt (by omega)]; simp
 have f3 : ∀ j, j < ((l.take (q + 1)).drop q).length -> ((l.take (q + 1)).drop q)[j]? = l.toArray[q + j]? := fun j hj => by
  rw [e3] at hj; rw [List.getElem?_drop, List.getElem?_take_of_lt (by omega)]; simp
 have f4 : ∀ j, j < ((l.take n).drop (q + 1)).length -> ((l.take n).drop (q + 1))[j]? = l.toArray[q + 1 + j]? := fun j hj => by
  rw [e4] at hj; rw [List.getElem?_drop, List.getElem?_take_of_lt (by omega)]; simp
 have key := pure_lex (P := P) (w := w.drew) (fuel := ((l.take q).drop p).length + (((l.take (q + 1)).drop q).length + (((l.take n).drop (q + 1)).length + g))) (Q := Q) (n := n) hsel ?_ (l.take p) 0 _ a (fun j hj => by
   rw [e1] at hj; simp [hj]) (by rw [e1]; omega) inv0 (by rw [e1]; exact hpure) h
 .
  rw [e1, e2, e3, e4, show p + (q - p + (1 + (n - (q + 1) + g))) = l.toArray.size by omega] at key
  exact key
 .
  intro listed1 a1 h1 inv1 hL1
  refine wpAny_of_mix (n := n) _ _ _ (mix_stills hsel ?_ _ p listed1 a1 f2 (by rw [e2]; omega) (fun i g1 g2 => hG i g1 (by rw [e2] at g2; omega) (by rw [e2] at g2; omega)) inv1 (by rw [e2]; exact h1) hL1.out)
  intro listed2 a2 h2 inv2 hL2
  refine mix_pures hsel ?_ _ q listed2 a2 f3 (by rw [e3]; omega) inv2 (by rw [e3]; exact h2) hL2
  intro listed3 a3 h3 inv3 hL3
  refine mix_stills hsel ?_ _ (q + 1) listed3 a3 f4 (by rw [e4]; omega) (fun i g1 g2 => hG i (by omega) (by rw [e4] at g2; omega) (by omega)) inv3 (by rw [e4]; exact h3) hL3.out
  intro listed4 a4 h4 _ hL4
  simp only [Bool.and_eq_true, decide_eq_true_eq, List.all_eq_true] at h4
  rw [h4.1]
  exact mix_of_any (fun j hj => h4.2 j (h4.1 ▸ hj)) hL4
end
def IntOut2 (w : World) (zb rb : Nat) (z r : Loc) (Q R : Int) (w' : World) : Prop := ∃ lz lr : Loc, OutL w z lz /\ OutL w r lr /\ Zj lz lr ∧
 Upd (fun b i => (b = zb \/ b = rb) \/ (ZF z z.c b i \/ ZF r r.c b i)) w w' /\ IntV w' zb lz Q /\ IntV w' rb lr R
theorem Ints.out2 {w0 w w' : World} {L : List (Nat × Loc × Int)} (h : Ints w0 w L) {i j zb rb : Nat} {z r : Loc} {Z R0 Q R : Int} (hij : i ≠ j) (hi : L[i]? = some (zb, z, Z)) (hj : L[j]? = some (rb, r, R0)) (ho : IntOut2 w zb rb z r Q R w') :
  ∃ lz lr : Loc, Ints w0 w' ((L.set i (zb, lz, Q)).set j (rb, lr, R)) := by
 obtain ⟨lz, lr, o1, o2, oa, u, hv1, hv2⟩ := ho
 have hz := h.at_ i zb z Z hi
 have hr := h.at_ j rb r R0 hj
 obtain ⟨n1, n2⟩ := h.nw i zb z Z hi
 obtain ⟨m1, m2⟩ := h.nw j rb r R0 hj
 obtain ⟨c1, c2⟩ := h.ap i j _ _ _ _ _ _ hij hi hj
 have hs := h.up.size
 have hlt : ∀ {k : Nat} {p : Nat × Loc × Int}, L[k]? = some p -> k < L.length := fun {k p} hk => by
  rcases Nat.lt_or_ge k L.length with h | h
  . exact h
  . rw [List.getElem?_eq_none h] at hk; cases hk
 have get : ∀ (k b : Nat) (l : Loc) (v : Int), ((L.set i (zb, lz, Q)).set j (rb, lr, R))[k]? = some (b, l, v) -> (k = i /\ b = zb /\ l = lz /\ v = Q) \/ (k = j /\ b = rb /\ l = lr /\ v = R) \/ (k ≠ i /\ k ≠ j /\ L[k]? = some (b, l, v)) := by
  intro k b l v hk
  by_cases hkj : k = j
  .
   subst hkj
   rw [List.getElem?_set_self (by rw [List.length_set]; exact hlt hj)] at hk
   simp only [Option.some.injEq, Prod.mk.injEq] at hk
   exact Or.inr (Or.inl ⟨rfl, hk.1.symm, hk.2.1.symm, hk.2.2.symm⟩)
  .
   rw [List.getElem?_set_ne (Ne.symm hkj)] at hk
   by_cases hki : k = i
   .
    subst hki
    rw [List.getElem?_set_self (hlt hi)] at hk
    simp only [Option.some.injEq, Prod.mk.injEq] at hk
    exact Or.inl ⟨rfl, hk.1.symm, hk.2.1.symm, hk.2.2.symm⟩
   .
    rw [List.getElem?_set_ne (Ne.symm hki)] at hk
    exact Or.inr (Or.inr ⟨hki, hkj, hk⟩)
 refine ⟨lz, lr, ?_, ?_, ?_, ?_⟩
 .
  intro k b l v hk
  rcases get k b l v hk with ⟨_, rfl, rfl, rfl⟩ | ⟨_, rfl, rfl, rfl⟩ | ⟨hki, hkj, hk⟩
  . exact hv1
  . exact hv2
  .
   have hx := h.at_ k b l v hk
   obtain ⟨a1, a2⟩ := h.ap i k _ _ _ _ _ _ (Ne.symm hki) hi hk
   obtain ⟨b1, b2⟩ := h.ap j k _ _ _ _ _ _ (Ne.symm hkj) hj hk
   refine hx.upd u ?_ ?_
   .
    rintro t ((e | e) | (e | e))
    . exact a1 (Eq.symm e)
    . exact b1 (Eq.symm e)
    . exact ZF.no hz.nat.ok hx.neg (by decide) _ _ e
    . exact ZF.no hr.nat.ok hx.neg (by decide) _ _ e
   .
    rintro t ht ((e | e) | (e | e))
    . exact hz.neg.neW (hx.nat.at_ t ht) (by decide) (Eq.symm e)
    . exact hr.neg.neW (hx.nat.at_ t ht) (by decide) (Eq.symm e)
    . exact a2.zf (Nat.lt_of_lt_of_le ht hx.nat.le) e
    . exact b2.zf (Nat.lt_of_lt_of_le ht hx.nat.le) e
 .
  have key1 : ∀ (k b : Nat) (l : Loc) (v : Int), k ≠ i -> L[k]? = some (b, l, v) -> zb ≠ b /\ Zj lz l := fun k b l v hk hl => by
   obtain ⟨a1, a2⟩ := h.ap i k _ _ _ _ _ _ (Ne.symm hk) hi hl
   exact ⟨a1, o1.apart a2 (h.at_ k b l v hl).nat.ok⟩
  have key2 : ∀ (k b : Nat) (l : Loc) (v : Int), k ≠ j -> L[k]? = some (b, l, v) -> rb ≠ b /\ Zj lr l := fun k b l v hk hl => by
   obtain ⟨a1, a2⟩ := h.ap j k _ _ _ _ _ _ (Ne.symm hk) hj hl
   exact ⟨a1, o2.apart a2 (h.at_ k b l v hl).nat.ok⟩
  intro k t b l v b' l' v' hkt hk ht
  rcases get k b l v hk with ⟨e1, rfl, rfl, rfl⟩ | ⟨e1, rfl, rfl, rfl⟩ | ⟨hki, hkj, hk2⟩ <;>
   rcases get t b' l' v' ht with ⟨f1, rfl, rfl, rfl⟩ | ⟨f1, rfl, rfl, rfl⟩ | ⟨hti, htj, ht2⟩
  . exact absurd (e1.trans f1.symm) hkt
  . exact ⟨c1, oa⟩
  . exact key1 t _ _ _ hti ht2
  . exact ⟨Ne.symm c1, oa.symm⟩
  . exact absurd (e1.trans f1.symm) hkt
  . exact key2 t _ _ _ htj ht2
  . have := key1 k _ _ _ hki hk2; exact ⟨Ne.symm this.1, this.2.symm⟩
  . have := key2 k _ _ _ hkj hk2; exact ⟨Ne.symm this.1, this.2.symm⟩
  . exact h.ap k t _ _ _ _ _ _ hkt hk2 ht2
 .
  intro k b l v hk
  rcases get k b l v hk with ⟨_, rfl, rfl, rfl⟩ | ⟨_, rfl, rfl, rfl⟩ | ⟨_, _, hk⟩
  .
   refine ⟨n1, ?_⟩
   rcases o1 with rfl | o | o
   . exact n2
   . exact Or.inr (by omega)
   . exact Or.inl o
  .
   refine ⟨m1, ?_⟩
   rcases o2 with rfl | o | o
   . exact m2
   . exact Or.inr (by omega)
   . exact Or.inl o
  . exact h.nw k b l v hk
 .
  refine h.up.then u (fun _ _ _ h => h) (fun b t hb e => ?_)
  rcases e with (e | e) | (⟨e1, e2, e3, e4⟩ | ⟨e1, e2, e3, e4⟩)
  . omega
  . omega
  . rcases n2 with n2 | n2 <;> omega
  . rcases m2 with m2 | m2 <;> omega
theorem IntOut2.made {w w1 : World} {zb rb N1 N2 k k2 nz nr : Nat} {z r l1 l2 : Loc} {sz sr : Bool} {Q R : Int} (hz : IntD w zb z sz nz) (hr : IntD w rb r sr nr) (hne : zb ≠ rb) (h1 : OutL w z l1) (h2 : OutL w r l2) (h3 : Zj l1 l2)
  (u : Upd (fun b i => ZF z k b i \/ ZF r k2 b i) w w1) (hQ : NatV w1 l1 N1) (hR : NatV w1 l2 N2) (eQ : Q.natAbs = N1) (eR : R.natAbs = N2) :
  IntOut2 w zb rb z r Q R ((((w1.setCell ⟨zb, 1, none⟩ (.slice l1.A (digs N1).length l1.c)).setCell ⟨rb, 1, none⟩ (.slice l2.A (digs N2).length l2.c)).setCell ⟨zb, 0, none⟩ (.bool (decide (Q < 0)))).setCell ⟨rb, 0, none⟩ (.bool (decide (R < 0)))) := by
 subst eQ; subst eR
 have no : ∀ {b i : Nat} {v : Value}, Zh 58 w b i v -> Zh 58 w1 b i v := fun c => c.upd u (fun h => h.elim (ZF.no hz.ok c (by decide) _ _) (ZF.no hr.ok c (by decide) _ _))
 have a0 := no hz.neg
 have a1 := no hz.abs
 have b0 := no hr.neg
 have b1 := no hr.abs
 have hne2 : rb ≠ zb := fun h => hne h.symm
 have u2 : Upd (fun b _ => b = zb \/ b = rb) w1 ((((w1.setCell ⟨zb, 1, none⟩ (.slice l1.A (digs Q.natAbs).length l1.c)).setCell ⟨rb, 1, none⟩ (.slice l2.A (digs R.natAbs).length l2.c)).setCell ⟨zb, 0, none⟩ (.bool (decide (Q < 0)))).setCell ⟨rb, 0, none⟩ (.bool (decide (R < 0)))) :=
  ((((Upd.refl (fun b _ => b = zb \/ b = rb) w1).setCell (fun _ => Or.inl rfl) _).setCell (fun _ => Or.inr rfl) _).setCell (fun _ => Or.inl rfl) _).setCell (fun _ => Or.inr rfl) _
 have hn : ∀ {l : Loc} {N : Nat}, NatV w1 l N -> ∀ i, i < (digs N).length -> ¬ (l.b = zb \/ l.b = rb) := fun h i hi e => e.elim (fun e => a0.neW (h.at_ i hi) (by decide) e.symm) (fun e => b0.neW (h.at_ i hi) (by decide) e.symm)
 refine ⟨l1, l2, h1, h2, h3, (u.mono (fun _ _ _ h => Or.inr (h.imp ZF.all ZF.all))).trans (u2.mono (fun _ _ _ h => Or.inl h)), ⟨?_, ?_, hQ.upd u2 (fun i hi => hn hQ i hi)⟩, ⟨?_, ?_, hR.upd u2 (fun i hi => hn hR i hi)⟩⟩
 . exact (((a0.far _ (by omega)).far _ (by omega)).set _).far _ (by omega)
 . exact (((a1.set _).far _ (by omega)).far _ (by omega)).far _ (by omega)
 . exact (((b0.far _ (by omega)).far _ (by omega)).far _ (by omega)).set _
 . exact (((b1.far _ (by omega)).set _).far _ (by omega)).far _ (by omega)
theorem IntOut2.drewN {w w' : World} {zb rb : Nat} {z r : Loc} {Q R : Int} (h : IntOut2 w zb rb z r Q R w') (n : Nat) : IntOut2 w zb rb z r Q R (w'.drewN n) := by
 obtain ⟨lz, lr, h1, h2, h3, h4, h5, h6⟩ := h
 exact ⟨lz, lr, h1, h2, h3, h4.drewN n, h5.upd ((Upd.refl NoF _).drewN n) (fun _ h => h) (fun _ _ h => h), h6.upd ((Upd.refl NoF _).drewN n) (fun _ h => h) (fun _ _ h => h)⟩
theorem QuoRem_D (T : Int) (zb xb yb rb : Nat) (z x y r : Loc) (sz sr : Bool) (nz nr : Nat) (X Y : Int) (w : World) (hz : IntD w zb z sz nz) (hx : IntV w xb x X) (hy : IntV w yb y Y) (hr : IntD w rb r sr nr) (hne : zb ≠ rb) (ha : Zj z r) (rx : Rel z x) (rx2 : Rel r x) (hT : DThr w T) (HD : DivAtT T X.natAbs Y.natAbs) :
  Calls Tryz.prog 41 #[.pointer (some ⟨zb, 0, none⟩), .pointer (some ⟨xb, 0, none⟩), .pointer (some ⟨yb, 0, none⟩), .pointer (some ⟨rb, 0, none⟩)] w fun e w' =>
   e = .returned (.tuple #[.pointer (some ⟨zb, 0, none⟩), .pointer (some ⟨rb, 0, none⟩)]) /\ IntOut2 w zb rb z r (X.tdiv Y) (X.tmod Y) w' := by
 have c3 := hz.abs.cell
 have c6 := hx.abs.cell
 have c8 := hy.abs.cell
 have c9 := hr.abs.cell
 have HM := Qq (fun (w' : World) (u : Upd NoF w w') => HD z r x y nz nr w' (hz.ok.upd u) (hr.ok.upd u) ha (hx.nat.upd0 u) (hy.nat.upd0 u) rx rx2 (hT.upd u (fun _ h => h)))
 have HZ := Qq (Qj hz (Qj hx (Qj hy hr)))
 have HN := Qq hne
 clear HD hx hy hz hr rx rx2 ha hne hT
 go_enter Tryz.func41, Tryz.ntmps41
 go_wp2_with fail
 refine wp_region_pre_open 2 18 10 (Array.replicate 18 true ++ Array.replicate 10 false) (by kernel_rfl) (by kernel_rfl) rfl ?_
 simp only [List.take_succ_cons, List.take_zero, List.drop_succ_cons, List.drop_zero]
 repeat (refine Zz ?_ (fun _ _ _ h => h) (by rfl) (by intro _; go_simp; with_reducible rfl) ?_; (try simp only [Act.put, zqd, zqe, zqf]))
 refine Yd ?_
 repeat still_step
 refine wpStill_nil ?_
 refine wpAny_ready (rs := [18]) (by kernel_rfl) (by simp) ?_
 refine AllReady.cons rfl (fun K hK => ?_) AllReady.nil
 go_simp
 refine (HM.out _ ((Upd.refl NoF w).drew)).mono ?_
 rintro e w1 ⟨k, k2, l1, l2, rfl, h1, h2, h3, h4, h5, h6⟩
 have u1 : Upd (fun b i => ZF z k b i \/ ZF r k2 b i) w w1 := (Upd.refl NoF w).drew.then h4 (fun _ _ _ h => h.elim) (fun b i _ h => h.elim id (fun h => h.elim))
 have no : ∀ {b i : Nat} {v : Value}, Zh 58 w b i v -> Zh 58 w1 b i v := fun c => c.upd u1 (fun h => h.elim (ZF.no HZ.out.1.ok c (by decide) _ _) (ZF.no HZ.out.2.2.2.ok c (by decide) _ _))
 have hm := IntOut2.made HZ.out.1 HZ.out.2.2.2 HN.out h1 h2 h3 u1 h5 h6 (Q := X.tdiv Y) (R := X.tmod Y) (by rw [Int.natAbs_tdiv]; rfl) (by rw [Int.natAbs_tmod])
 have HO := Qq (Qj (Qj (no HZ.out.1.neg) (no HZ.out.1.abs)) (Qj (Qj (no HZ.out.2.2.2.neg) (no HZ.out.2.2.2.abs)) (Qj (no HZ.out.2.1.neg) (no HZ.out.2.2.1.neg))))
 have HMM := Qq hm
 have d1 := HO.out.1.2.cell
 have d2 := HO.out.1.2.frozen
 clear no hm h1 h2 h3 h4 h5 h6 u1 c3 c6 c8 c9
 go_wp2_with fail
 refine wpAny_take (i := 19) (v := ?_) rfl (by kernel_rfl) (by kernel_rfl) (by kernel_rfl) (fun _ _ _ h => h) (Or.inl ⟨by rfl, ?_⟩) ?_
 rotate_left
 . (intro w'; go_simp; try with_reducible rfl)
 simp only [Act.put, zqd, zqe, zqf]
 refine wpAny_take (i := 20) (v := ?_) rfl (by kernel_rfl) (by kernel_rfl) (by kernel_rfl) (fun _ _ _ h => h) (Or.inl ⟨by rfl, ?_⟩) ?_
 rotate_left
 . (intro w'; go_simp; try with_reducible rfl)
 simp only [Act.put, zqd, zqe, zqf]
 refine wpAny_take (i := 21) (v := ?_) rfl (by kernel_rfl) (by kernel_rfl) (by kernel_rfl) (fun _ _ _ h => h) (Or.inl ⟨by rfl, ?_⟩) ?_
 rotate_left
 . (intro w'; go_simp; try with_reducible rfl)
 simp only [Act.put, zqd, zqe, zqf]
 refine wpAny_take (i := 22) (v := ?_) rfl (by kernel_rfl) (by kernel_rfl) (by kernel_rfl) (fun _ _ _ h => h) (Or.inl ⟨by rfl, ?_⟩) ?_
 rotate_left
 . (intro w'; go_simp; try with_reducible rfl)
 simp only [Act.put, zqd, zqe, zqf]
 refine wpAny_take (i := 23) (v := ?_) rfl (by kernel_rfl) (by kernel_rfl) (by kernel_rfl) (fun _ _ _ h => h) (Or.inl ⟨by rfl, ?_⟩) ?_
 rotate_left
 . (intro w'; go_simp; try with_reducible rfl)
 simp only [Act.put, zqd, zqe, zqf]
 refine wpAny_ready (rs := [24]) (by kernel_rfl) (by simp) ?_
 refine AllReady.cons rfl (fun K hK => ?_) AllReady.nil
 go_simp
 have p1 := HO.out.2.1.2.far (b' := zb) (i' := 1) (.slice l1.A (digs (X.natAbs / Y.natAbs)).length l1.c) (by have := HN.out; omega)
 have d3 := p1.cell
 have d4 := p1.frozen
 clear p1
 go_wp2_with fail
 refine wpAny_take (i := 25) (v := ?_) rfl (by kernel_rfl) (by kernel_rfl) (by kernel_rfl) (fun _ _ _ h => h) (Or.inl ⟨by rfl, ?_⟩) ?_
 rotate_left
 . (intro w'; go_simp; try with_reducible rfl)
 simp only [Act.put, zqd, zqe, zqf]
 refine wpAny_take (i := 26) (v := ?_) rfl (by kernel_rfl) (by kernel_rfl) (by kernel_rfl) (fun _ _ _ h => h) (Or.inl ⟨by rfl, ?_⟩) ?_
 rotate_left
 . (intro w'; go_simp; try with_reducible rfl)
 simp only [Act.put, zqd, zqe, zqf]
 refine wpAny_ready (rs := [27]) (by kernel_rfl) (by simp) ?_
 refine AllReady.cons rfl (fun K hK => ?_) AllReady.nil
 go_simp
 go_wp2_with fail
 refine wpAny_done (by kernel_rfl) ?_ _
 go_wp2_with fail
 obtain ⟨N, hN⟩ : ∃ N, X.natAbs / Y.natAbs = N := ⟨_, rfl⟩
 obtain ⟨M, hM⟩ : ∃ M, X.natAbs % Y.natAbs = M := ⟨_, rfl⟩
 have hne := HN.out
 have k1 := ((HO.out.1.2.set (.slice l1.A (digs N).length l1.c)).far (b' := rb) (i' := 1) (.slice l2.A (digs M).length l2.c) (by omega))
 have k2 := ((HO.out.2.1.2.far (b' := zb) (i' := 1) (.slice l1.A (digs N).length l1.c) (by omega)).set (.slice l2.A (digs M).length l2.c))
 have k3 := ((HO.out.1.1.far (b' := zb) (i' := 1) (.slice l1.A (digs N).length l1.c) (by omega)).far (b' := rb) (i' := 1) (.slice l2.A (digs M).length l2.c) (by omega))
 have k4 := ((HO.out.2.1.1.far (b' := zb) (i' := 1) (.slice l1.A (digs N).length l1.c) (by omega)).far (b' := rb) (i' := 1) (.slice l2.A (digs M).length l2.c) (by omega))
 have k5 := ((HO.out.2.2.1.far (b' := zb) (i' := 1) (.slice l1.A (digs N).length l1.c) (by omega)).far (b' := rb) (i' := 1) (.slice l2.A (digs M).length l2.c) (by omega))
 have k6 := ((HO.out.2.2.2.far (b' := zb) (i' := 1) (.slice l1.A (digs N).length l1.c) (by omega)).far (b' := rb) (i' := 1) (.slice l2.A (digs M).length l2.c) (by omega))
 have sN : N ≠ 0 -> decide (X.tdiv Y < 0) = (!(decide (X < 0) == decide (Y < 0))) := fun h => sign_quo rfl rfl (by rw [hN]; exact h)
 have sN0 : N = 0 -> decide (X.tdiv Y < 0) = false := fun h => decide_eq_false (fun h2 => by
  have : (X.tdiv Y).natAbs = 0 := by rw [Int.natAbs_tdiv]; exact hN.trans h
  omega)
 have sM0 : M = 0 -> decide (X.tmod Y < 0) = false := fun h => decide_eq_false (fun h2 => by
  have : (X.tmod Y).natAbs = 0 := by rw [Int.natAbs_tmod]; exact hM.trans h
  omega)
 have sM : M ≠ 0 -> decide (X.tmod Y < 0) = decide (X < 0) := fun h => by
  have h1 : (X.tmod Y).natAbs ≠ 0 := by rw [Int.natAbs_tmod]; exact fun k => h (hM ▸ k)
  by_cases hx : X < 0
  .
   have : X.tmod Y <= 0 := by
    have := Int.tmod_nonneg (a := -X) Y (by omega)
    rw [Int.neg_tmod] at this; omega
   rw [decide_eq_true hx, decide_eq_true (by omega)]
  .
   have := Int.tmod_nonneg (a := X) Y (by omega)
   rw [decide_eq_false hx, decide_eq_false (by omega)]
 have HQ := HMM.out
 rw [hN, hM] at HQ ⊢
 obtain ⟨w2, hw2⟩ : ∃ w2, (w1.setCell ⟨zb, 1, none⟩ (.slice l1.A (digs N).length l1.c)).setCell ⟨rb, 1, none⟩ (.slice l2.A (digs M).length l2.c) = w2 := ⟨_, rfl⟩
 rw [hw2] at k1 k2 k3 k4 k5 k6 HQ ⊢
 have hlN : decide (0 < (digs N).length) = decide (N ≠ 0) := decide_eq_decide.2 (by have := Zg (n := N); omega)
 have hlM : decide (0 < (digs M).length) = decide (M ≠ 0) := decide_eq_decide.2 (by have := Zg (n := M); omega)
 obtain ⟨n, hn⟩ : ∃ n, (digs N).length = n := ⟨_, rfl⟩
 obtain ⟨m, hm⟩ : ∃ m, (digs M).length = m := ⟨_, rfl⟩
 rw [hn] at k1 hlN
 rw [hm] at k2 hlM
 obtain ⟨sx, hsx⟩ : ∃ s, decide (X < 0) = s := ⟨_, rfl⟩
 obtain ⟨sy, hsy⟩ : ∃ s, decide (Y < 0) = s := ⟨_, rfl⟩
 rw [hsx] at k5 sN sM
 rw [hsy] at k6 sN
 have e1 := k1.cell
 have e2 := k2.cell
 have e3 := k3.cell
 have e4 := k3.frozen
 have e5 := (k4.far (b' := zb) (i' := 0) (.bool (decide (X.tdiv Y < 0))) (by omega)).cell
 have e6 := (k4.far (b' := zb) (i' := 0) (.bool (decide (X.tdiv Y < 0))) (by omega)).frozen
 have e7 := k5.cell
 have e8 := k6.cell
 clear d1 d2 d3 d4 hw2 k1 k2 k3 k4 k5 k6 hN hM hn hm hsx hsy hne HMM HO HM HZ
 by_cases hN0 : N = 0
 .
  by_cases hM0 : M = 0
  .
   have q0 : decide (0 < n) = false := by rw [hlN]; exact decide_eq_false (by omega)
   rw [sN0 hN0] at HQ e5 e6
   have q1 : decide (0 < m) = false := by rw [hlM]; exact decide_eq_false (by omega)
   rw [sM0 hM0] at HQ
   have HH := Qq HQ
   clear HQ sN sN0 sM sM0 hN0 hM0 hlN hlM
   refine wp_region_mix 2 30 33 4 (Array.replicate 33 true ++ Array.replicate 4 false) (by kernel_rfl) (by kernel_rfl) rfl ?_
   simp only [List.take_succ_cons, List.take_zero, List.drop_succ_cons, List.drop_zero]
   repeat (refine Zz ?_ (fun _ _ _ h => h) (by rfl) (by intro _; go_simp; with_reducible rfl) ?_; (try simp only [Act.put, zqd, zqe, zqf]))
   refine Yd ?_
   iterate 28 (refine HStill.step (fun K hK => ?_); go_simp; refine hK _ ?_; clear hK K)
   refine HStill.nil ?_
   repeat (refine Zz ?_ (fun _ _ _ h => h) (by rfl) (by intro _; go_simp; with_reducible rfl) ?_; (try simp only [Act.put, zqd, zqe, zqf]))
   refine Yd ?_
   iterate 2 (refine HStill.step (fun K hK => ?_); go_simp; refine hK _ ?_; clear hK K)
   refine HStill.nil ?_
   refine wpAny_ready (rs := [33]) (by kernel_rfl) (by simp) ?_
   refine AllReady.cons rfl (fun K hK => ?_) AllReady.nil
   go_simp
   go_wp2_with fail
   refine wpAny_take (i := 34) (v := ?_) rfl (by kernel_rfl) (by kernel_rfl) (by kernel_rfl) (fun _ _ _ h => h) (Or.inl ⟨by rfl, ?_⟩) ?_
   rotate_left
   . (intro w'; go_simp; try with_reducible rfl)
   simp only [Act.put, zqd, zqe, zqf]
   refine wpAny_take (i := 35) (v := ?_) rfl (by kernel_rfl) (by kernel_rfl) (by kernel_rfl) (fun _ _ _ h => h) (Or.inl ⟨by rfl, ?_⟩) ?_
   rotate_left
   . (intro w'; go_simp; try with_reducible rfl)
   simp only [Act.put, zqd, zqe, zqf]
   refine wpAny_ready (rs := [36]) (by kernel_rfl) (by simp) ?_
   refine AllReady.cons rfl (fun K hK => ?_) AllReady.nil
   go_simp
   go_wp2_with fail
   refine wpAny_done (by kernel_rfl) ?_ _
   go_wp2_with fail
   go_ret2
   exact ⟨rfl, HH.out.drewN 1⟩
  .
   have q0 : decide (0 < n) = false := by rw [hlN]; exact decide_eq_false (by omega)
   rw [sN0 hN0] at HQ e5 e6
   have q1 : decide (0 < m) = true := by rw [hlM]; exact decide_eq_true hM0
   rw [sM hM0] at HQ
   have HH := Qq HQ
   clear HQ sN sN0 sM sM0 hN0 hM0 hlN hlM
   refine wp_region_mix 2 30 33 4 (Array.replicate 33 true ++ Array.replicate 4 false) (by kernel_rfl) (by kernel_rfl) rfl ?_
   simp only [List.take_succ_cons, List.take_zero, List.drop_succ_cons, List.drop_zero]
   repeat (refine Zz ?_ (fun _ _ _ h => h) (by rfl) (by intro _; go_simp; with_reducible rfl) ?_; (try simp only [Act.put, zqd, zqe, zqf]))
   refine Yd ?_
   iterate 28 (refine HStill.step (fun K hK => ?_); go_simp; refine hK _ ?_; clear hK K)
   refine HStill.nil ?_
   repeat (refine Zz ?_ (fun _ _ _ h => h) (by rfl) (by intro _; go_simp; with_reducible rfl) ?_; (try simp only [Act.put, zqd, zqe, zqf]))
   refine Yd ?_
   iterate 2 (refine HStill.step (fun K hK => ?_); go_simp; refine hK _ ?_; clear hK K)
   refine HStill.nil ?_
   refine wpAny_ready (rs := [33]) (by kernel_rfl) (by simp) ?_
   refine AllReady.cons rfl (fun K hK => ?_) AllReady.nil
   go_simp
   go_wp2_with fail
   refine wpAny_take (i := 34) (v := ?_) rfl (by kernel_rfl) (by kernel_rfl) (by kernel_rfl) (fun _ _ _ h => h) (Or.inl ⟨by rfl, ?_⟩) ?_
   rotate_left
   . (intro w'; go_simp; try with_reducible rfl)
   simp only [Act.put, zqd, zqe, zqf]
   refine wpAny_take (i := 35) (v := ?_) rfl (by kernel_rfl) (by kernel_rfl) (by kernel_rfl) (fun _ _ _ h => h) (Or.inl ⟨by rfl, ?_⟩) ?_
   rotate_left
   . (intro w'; go_simp; try with_reducible rfl)
   simp only [Act.put, zqd, zqe, zqf]
   refine wpAny_ready (rs := [36]) (by kernel_rfl) (by simp) ?_
   refine AllReady.cons rfl (fun K hK => ?_) AllReady.nil
   go_simp
   go_wp2_with fail
   refine wpAny_done (by kernel_rfl) ?_ _
   go_wp2_with fail
   go_ret2
   exact ⟨rfl, HH.out.drewN 1⟩
 .
  by_cases hM0 : M = 0
  .
   have q0 : decide (0 < n) = true := by rw [hlN]; exact decide_eq_true hN0
   rw [sN hN0] at HQ e5 e6
   have q1 : decide (0 < m) = false := by rw [hlM]; exact decide_eq_false (by omega)
   rw [sM0 hM0] at HQ
   have HH := Qq HQ
   clear HQ sN sN0 sM sM0 hN0 hM0 hlN hlM
   refine wp_region_mix 2 30 33 4 (Array.replicate 33 true ++ Array.replicate 4 false) (by kernel_rfl) (by kernel_rfl) rfl ?_
   simp only [List.take_succ_cons, List.take_zero, List.drop_succ_cons, List.drop_zero]
   repeat (refine Zz ?_ (fun _ _ _ h => h) (by rfl) (by intro _; go_simp; with_reducible rfl) ?_; (try simp only [Act.put, zqd, zqe, zqf]))
   refine Yd ?_
   iterate 28 (refine HStill.step (fun K hK => ?_); go_simp; refine hK _ ?_; clear hK K)
   refine HStill.nil ?_
   repeat (refine Zz ?_ (fun _ _ _ h => h) (by rfl) (by intro _; go_simp; with_reducible rfl) ?_; (try simp only [Act.put, zqd, zqe, zqf]))
   refine Yd ?_
   iterate 2 (refine HStill.step (fun K hK => ?_); go_simp; refine hK _ ?_; clear hK K)
   refine HStill.nil ?_
   refine wpAny_ready (rs := [33]) (by kernel_rfl) (by simp) ?_
   refine AllReady.cons rfl (fun K hK => ?_) AllReady.nil
   go_simp
   go_wp2_with fail
   refine wpAny_take (i := 34) (v := ?_) rfl (by kernel_rfl) (by kernel_rfl) (by kernel_rfl) (fun _ _ _ h => h) (Or.inl ⟨by rfl, ?_⟩) ?_
   rotate_left
   . (intro w'; go_simp; try with_reducible rfl)
   simp only [Act.put, zqd, zqe, zqf]
   refine wpAny_take (i := 35) (v := ?_) rfl (by kernel_rfl) (by kernel_rfl) (by kernel_rfl) (fun _ _ _ h => h) (Or.inl ⟨by rfl, ?_⟩) ?_
   rotate_left
   . (intro w'; go_simp; try with_reducible rfl)
   simp only [Act.put, zqd, zqe, zqf]
   refine wpAny_ready (rs := [36]) (by kernel_rfl) (by simp) ?_
   refine AllReady.cons rfl (fun K hK => ?_) AllReady.nil
   go_simp
   go_wp2_with fail
   refine wpAny_done (by kernel_rfl) ?_ _
   go_wp2_with fail
   go_ret2
   exact ⟨rfl, HH.out.drewN 1⟩
  .
   have q0 : decide (0 < n) = true := by rw [hlN]; exact decide_eq_true hN0
   rw [sN hN0] at HQ e5 e6
   have q1 : decide (0 < m) = true := by rw [hlM]; exact decide_eq_true hM0
   rw [sM hM0] at HQ
   have HH := Qq HQ
   clear HQ sN sN0 sM sM0 hN0 hM0 hlN hlM
   refine wp_region_mix 2 30 33 4 (Array.replicate 33 true ++ Array.replicate 4 false) (by kernel_rfl) (by kernel_rfl) rfl ?_
   simp only [List.take_succ_cons, List.take_zero, List.drop_succ_cons, List.drop_zero]
   repeat (refine Zz ?_ (fun _ _ _ h => h) (by rfl) (by intro _; go_simp; with_reducible rfl) ?_; (try simp only [Act.put, zqd, zqe, zqf]))
   refine Yd ?_
   iterate 28 (refine HStill.step (fun K hK => ?_); go_simp; refine hK _ ?_; clear hK K)
   refine HStill.nil ?_
   repeat (refine Zz ?_ (fun _ _ _ h => h) (by rfl) (by intro _; go_simp; with_reducible rfl) ?_; (try simp only [Act.put, zqd, zqe, zqf]))
   refine Yd ?_
   iterate 2 (refine HStill.step (fun K hK => ?_); go_simp; refine hK _ ?_; clear hK K)
   refine HStill.nil ?_
   refine wpAny_ready (rs := [33]) (by kernel_rfl) (by simp) ?_
   refine AllReady.cons rfl (fun K hK => ?_) AllReady.nil
   go_simp
   go_wp2_with fail
   refine wpAny_take (i := 34) (v := ?_) rfl (by kernel_rfl) (by kernel_rfl) (by kernel_rfl) (fun _ _ _ h => h) (Or.inl ⟨by rfl, ?_⟩) ?_
   rotate_left
   . (intro w'; go_simp; try with_reducible rfl)
   simp only [Act.put, zqd, zqe, zqf]
   refine wpAny_take (i := 35) (v := ?_) rfl (by kernel_rfl) (by kernel_rfl) (by kernel_rfl) (fun _ _ _ h => h) (Or.inl ⟨by rfl, ?_⟩) ?_
   rotate_left
   . (intro w'; go_simp; try with_reducible rfl)
   simp only [Act.put, zqd, zqe, zqf]
   refine wpAny_ready (rs := [36]) (by kernel_rfl) (by simp) ?_
   refine AllReady.cons rfl (fun K hK => ?_) AllReady.nil
   go_simp
   go_wp2_with fail
   refine wpAny_done (by kernel_rfl) ?_ _
   go_wp2_with fail
   go_ret2
   exact ⟨rfl, HH.out.drewN 1⟩
theorem QuoRem_o (T : Int) (zb xb yb rb : Nat) (z x y r : Loc) (Z X Y R0 : Int) (w : World) (hz : IntV w zb z Z) (hx : IntV w xb x X) (hy : IntV w yb y Y) (hr : IntV w rb r R0) (hne : zb ≠ rb) (ha : Zj z r) (rx : Rel z x) (rx2 : Rel r x) (hT : DThr w T) (HD : DivAtT T X.natAbs Y.natAbs) :
  Calls Tryz.prog 41 #[.pointer (some ⟨zb, 0, none⟩), .pointer (some ⟨xb, 0, none⟩), .pointer (some ⟨yb, 0, none⟩), .pointer (some ⟨rb, 0, none⟩)] w fun e w' =>
   e = .returned (.tuple #[.pointer (some ⟨zb, 0, none⟩), .pointer (some ⟨rb, 0, none⟩)]) /\ IntOut2 w zb rb z r (X.tdiv Y) (X.tmod Y) w' :=
 QuoRem_D T zb xb yb rb z x y r _ _ _ _ X Y w hz.dest hx hy hr.dest hne ha rx rx2 hT HD
theorem emod_neg {X Y : Int} (hY : Y ≠ 0) (h : X.tmod Y < 0) : (Y < 0 -> X % Y = X.tmod Y - Y) /\ (¬ Y < 0 -> X % Y = X.tmod Y + Y) := by
 have h1 := Int.tmod_eq_emod (a := X) (b := Y)
 have h2 := Int.emod_nonneg X hY
 split at h1
 . omega
 . constructor <;> intro h3 <;> omega
theorem emod_pos {X Y : Int} (hY : Y ≠ 0) (h : ¬ X.tmod Y < 0) : X % Y = X.tmod Y := by
 have h1 := Int.tmod_eq_emod (a := X) (b := Y)
 have h2 : X % Y < Y.natAbs := by have := Int.emod_lt X hY; omega
 split at h1
 . omega
 . omega
theorem Ints.rel2 {w0 w : World} {L : List (Nat × Loc × Int)} (h : Ints w0 w L) {i j zb xb : Nat} {z x : Loc} {Z X : Int} (hij : i ≠ j) (hi : L[i]? = some (zb, z, Z)) (hj : L[j]? = some (xb, x, X)) : zb ≠ xb /\ Zj z x := h.ap i j _ _ _ _ _ _ hij hi hj
theorem Mod_I (T : Int) (w0 w : World) (L : List (Nat × Loc × Int)) (i j k zb xb yb : Nat) (z x y : Loc) (Z X Y : Int) (h : Ints w0 w L) (hi : L[i]? = some (zb, z, Z)) (hj : L[j]? = some (xb, x, X)) (hk : L[k]? = some (yb, y, Y)) (hik : i ≠ k)
  (hT : DThr w0 T) (HD : DivAtT T X.natAbs Y.natAbs) (hY : Y ≠ 0) (hX1 : (digs X.natAbs).length + 1 <= 1099511627776) (hY1 : (digs Y.natAbs).length + 1 <= 1099511627776) :
  Calls Tryz.prog 62 #[.pointer (some ⟨zb, 0, none⟩), .pointer (some ⟨xb, 0, none⟩), .pointer (some ⟨yb, 0, none⟩)] w fun e w' => e = .returned (.pointer (some ⟨zb, 0, none⟩)) /\ ∃ r : Loc, Ints w0 w' (L.set i (zb, r, X % Y)) := by
 obtain ⟨hne, hap⟩ := h.rel2 hik hi hk
 have hz := h.at_ i _ _ _ hi
 have hy := h.at_ k _ _ _ hk
 have q1 : ∀ nq, (binOp .eql 54 (.pointer (some ⟨zb, 0, none⟩)) (.pointer (some ⟨yb, 0, none⟩))).run Tryz.prog (w.drewN nq) = .ok (.bool false) (w.drewN nq) := fun nq => eql_ints (w := w.drewN nq) hz.neg.free hy.neg.free (r := false) (by rw [addr_beq]; exact decide_eq_false (fun h => hne h.1))
 have c1 := hz.abs.cell
 have c2 := hy.abs.cell
 have HA := Qq (fun (w' : World) (u : Upd NoF w w') => (by have := alias_any z y (digs Z.natAbs).length (digs Y.natAbs).length w' (hz.nat.ok.upd u) (hy.nat.ok.upd u); rw [hap.alias] at this; exact this : Calls Tryz.prog 66 #[.slice z.A (digs Z.natAbs).length z.c, .slice y.A (digs Y.natAbs).length y.c] w' fun e w2 => e = .returned (.bool false) /\ Drew w' w2))
 have H := Qq (Qj h (Qj hi (Qj hj (Qj hk (Qj hik (Qj hT (Qj HD (Qj hY (Qj hX1 hY1)))))))))
 clear h hi hj hk hik hT HD hY hX1 hY1 hne hap hz hy
 go_enter Tryz.func62, Tryz.ntmps62
 go_wp2_with fail
 go_quiet ((go_at_call 66; first | exact Calls.quiet_add (HA.out _ ((Upd.refl NoF w).drewN _)) | exact Calls.quiet_of (HA.out _ ((Upd.refl NoF w).drewN _))))
 go_wp2_with fail
 have hlt : i < L.length := by
  rcases Nat.lt_or_ge i L.length with h | h
  . exact h
  . have := H.out.2.1; rw [List.getElem?_eq_none h] at this; cases this
 have h2 : Ints w0 ((w.drewN nq).alloc (.cells #[.bool false, .slice none 0 0] 58)) ((w.heap.size, nilL, 0) :: L) := (H.out.1.upd ((Upd.refl NoF w).drewN nq)).new
 obtain ⟨g, hg⟩ : ∃ g, w.heap.size = g := ⟨_, rfl⟩
 obtain ⟨w2, hw2⟩ : ∃ w2, (w.drewN nq).alloc (.cells #[.bool false, .slice none 0 0] 58) = w2 := ⟨_, rfl⟩
 rw [hg, hw2] at h2
 have a0 : ((g, nilL, (0 : Int)) :: L)[0]? = some (g, nilL, 0) := rfl
 have ai : ((g, nilL, (0 : Int)) :: L)[i + 1]? = some (zb, z, Z) := H.out.2.1
 have aj : ((g, nilL, (0 : Int)) :: L)[j + 1]? = some (xb, x, X) := H.out.2.2.1
 have ak : ((g, nilL, (0 : Int)) :: L)[k + 1]? = some (yb, y, Y) := H.out.2.2.2.1
 obtain ⟨e1, e2⟩ := h2.rel2 (i := 0) (j := i + 1) (by omega) a0 ai
 have HQ := Qq (QuoRem_o T g xb yb zb nilL x y z 0 X Y Z w2 (h2.at_ _ _ _ _ a0) (h2.at_ _ _ _ _ aj) (h2.at_ _ _ _ _ ak) (h2.at_ _ _ _ _ ai) e1 e2 (nilL_rel _) (h2.rel ai aj) (H.out.2.2.2.2.2.1.upd h2.up (fun _ h => h)) H.out.2.2.2.2.2.2.1)
 have H2 := Qq (Qj h2 (Qj ai hlt))
 clear h2 a0 ai aj ak e1 e2 c1 c2 hlt HA
 rw [hg, hw2]
 clear hg hw2
 refine HQ.out.mono ?_
 rintro e w3 ⟨rfl, ho⟩
 obtain ⟨lz, lr, h3⟩ := H2.out.1.out2 (i := 0) (j := i + 1) (by omega) rfl H2.out.2.1 ho
 have h4 : Ints w0 w3 (L.set i (zb, lr, X.tmod Y)) := Ints.tail h3
 have bi : (L.set i (zb, lr, X.tmod Y))[i]? = some (zb, lr, X.tmod Y) := List.getElem?_set_self H2.out.2.2
 have bk : (L.set i (zb, lr, X.tmod Y))[k]? = some (yb, y, Y) := by rw [List.getElem?_set_ne H.out.2.2.2.2.1]; exact H.out.2.2.2.1
 have z4 := h4.at_ _ _ _ _ bi
 have y4 := h4.at_ _ _ _ _ bk
 have d1 := z4.neg.cell
 have d2 := y4.neg.cell
 have hmY : (digs (X.tmod Y).natAbs).length <= (digs Y.natAbs).length := by
  rw [Int.natAbs_tmod]
  exact Zn (Nat.le_of_lt (Nat.mod_lt _ (by have := H.out.2.2.2.2.2.2.2.1; omega)))
 have hset : ∀ v, (L.set i (zb, lr, X.tmod Y)).set i v = L.set i v := fun v => List.set_set _
 by_cases hn : X.tmod Y < 0
 .
  obtain ⟨m1, m2⟩ := emod_neg H.out.2.2.2.2.2.2.2.1 hn
  rw [decide_eq_true hn] at d1
  by_cases hyn : Y < 0
  .
   rw [decide_eq_true hyn] at d2
   have HS := Qq (Sub_o zb zb yb lr lr y (X.tmod Y) (X.tmod Y) Y w3 z4 z4 y4 (h4.rel bi bi) (h4.rel bi bk) (by have := H.out.2.2.2.2.2.2.2.2.2; omega) (by have := H.out.2.2.2.2.2.2.2.2.2; omega))
   rw [<- m1 hyn] at HS
   have HF := Qq (fun (w' : World) (ho : IntOut w3 zb lr (X % Y) w') => (by obtain ⟨r, hr⟩ := h4.out bi ho; rw [hset] at hr; exact ⟨r, hr⟩ : ∃ r : Loc, Ints w0 w' (L.set i (zb, r, X % Y))))
   clear ho h3 h4 bi bk z4 y4 hmY hset hn m1 m2 hyn HQ
   go_wp2_with fail
   refine HS.out.mono ?_
   rintro e w4 ⟨rfl, h5⟩
   have H5 := Qq h5
   clear h5 d1 d2
   go_wp2_with fail
   go_ret
   exact ⟨rfl, HF.out _ H5.out⟩
  .
   rw [decide_eq_false hyn] at d2
   have HS := Qq (Add_o zb zb yb lr lr y (X.tmod Y) (X.tmod Y) Y w3 z4 z4 y4 (h4.rel bi bi) (h4.rel bi bk) (by have := H.out.2.2.2.2.2.2.2.2.2; omega) (by have := H.out.2.2.2.2.2.2.2.2.2; omega))
   rw [<- m2 hyn] at HS
   have HF := Qq (fun (w' : World) (ho : IntOut w3 zb lr (X % Y) w') => (by obtain ⟨r, hr⟩ := h4.out bi ho; rw [hset] at hr; exact ⟨r, hr⟩ : ∃ r : Loc, Ints w0 w' (L.set i (zb, r, X % Y))))
   clear ho h3 h4 bi bk z4 y4 hmY hset hn m1 m2 hyn HQ
   go_wp2_with fail
   refine HS.out.mono ?_
   rintro e w4 ⟨rfl, h5⟩
   have H5 := Qq h5
   clear h5 d1 d2
   go_wp2_with fail
   go_ret
   exact ⟨rfl, HF.out _ H5.out⟩
 .
  have m := emod_pos H.out.2.2.2.2.2.2.2.1 hn
  rw [decide_eq_false hn] at d1
  rw [<- m] at h4
  have HF := Qq h4
  clear ho h3 h4 bi bk z4 y4 hmY hset hn m HQ
  go_wp2_with fail
  go_ret
  exact ⟨rfl, lr, HF.out⟩
end Go.Proofs.YthkklkjldpcbkaaGreatDoor
