/- For the claim of laws.FnInverse: BitLen, Lsh, SqrtM, Sqrt, ISqrt, Guard, Answer, ImplSqrt. -/
import Derived.Test.YthkklkjldpcbkaaGreatDoorLiD1
import Derived.Test.YthkklkjldpcbkaaGreatDoorLiA2
import Derived.Test.YthkklkjldpcbkaaGreatDoorLiD6
import Derived.Test.YthkklkjldpcbkaaGreatDoorLiA1
import Derived.Test.YthkklkjldpcbkaaGreatDoorLiC1
import Derived.Test.YthkklkjldpcbkaaGreatDoorLiD3
import Derived.WalkLawsBesides
import Derived.Test.YthkklkjldpcbkaaGreatDoorLiB2
import Derived.Recover
import Derived.Defers
import Derived.Test.YthkklkjldpcbkaaGreatDoorLiB4
set_option linter.unusedVariables false
set_option linter.unusedSimpArgs false
set_option maxRecDepth 1000000
namespace Go.Proofs.YthkklkjldpcbkaaGreatDoor
open Go.RowKit
theorem caught (p : Addr) (b : Value) (u : TypeId) (pv : Value) (older : List PanicEntry) (w : World) (hc : w.cell? p = some b) (hz : w.frozen? p = false) :
  CallsD Tryz.prog 58 #[.pointer (some p)] (.panicking ({ v := .iface u pv, recovered := false } :: older)) w fun e u' w' =>
   e = .returned (.tuple #[]) /\ u' = .panicking ({ v := .iface u pv, recovered := true } :: older) /\ w' = w.setCell p (.bool true) := by
 refine callsD_of_wpS Tryz.func58 rfl fun c₀ cs hu => ?_
 apply wpS_region
 simp [wpOpsS, go_sem, recoverD, hu, Tryz.ntmps58, hc, hz, bodyPostS, results, Tryz.results58]
theorem idle (p : Addr) (b : Value) (w : World) (hc : w.cell? p = some b) (hz : w.frozen? p = false) :
  CallsD Tryz.prog 58 #[.pointer (some p)] .returning w fun e u' w' => e = .returned (.tuple #[]) /\ u' = .returning /\ w' = w.setCell p (.bool false) := by
 refine callsD_of_wpS Tryz.func58 rfl fun c₀ cs hu => ?_
 apply wpS_region
 simp [wpOpsS, go_sem, recoverD, hu, Tryz.ntmps58, hc, hz, bodyPostS, results, Tryz.results58]
 cases c₀
 simp_all
theorem RdU.one {w : World} {g i : Nat} {v x : Value} {A : Option Addr} {xs : List Nat} (h : RdU w A xs) (c0 : w.cell? ⟨g, i, none⟩ = some v) (n1 : ∀ k, v ≠ .int .u64 k) : RdU (w.setCell ⟨g, i, none⟩ x) A xs := fun h0 => by
 obtain ⟨ad, rfl, hcell⟩ := h h0
 refine ⟨ad, rfl, fun j hj => ?_⟩
 have h1 := hcell j hj
 have h8 : (⟨g, i, none⟩ : Addr) ≠ ad.add j := fun e => by rw [<- e, c0] at h1; exact n1 _ (Option.some.inj h1)
 rw [World.cell?_setCell_other _ _ _ _ h8]
 exact h1
def Gd (g : Nat) (w w' : World) : Prop := Upd (Blk g) w w' /\ ∀ A xs, RdU w A xs -> RdU w' A xs
theorem Gd.set {g : Nat} {w w' : World} {b x : Value} (h : Gd g w w') (c : w'.cell? ⟨g, 0, none⟩ = some b) (n : ∀ k, b ≠ .int .u64 k) : Gd g w (w'.setCell ⟨g, 0, none⟩ x) :=
 ⟨h.1.setCell (fun _ => rfl) _, fun A xs k => (h.2 A xs k).one c n⟩
theorem Gd.refl (g : Nat) (w : World) : Gd g w w := ⟨Upd.refl _ _, fun _ _ h => h⟩
@[reducible] def gW (w : World) : World := w.alloc (.cells #[.bool false] 4)
theorem guarded_ret (f : FuncId) (cap : Array Value) (w : World) (F : Nat -> Nat -> Prop) (Q : World -> Prop) (hF : ¬ F w.heap.size 0) (hcf : ∀ w, (callFunc f cap).run Tryz.prog w = .ok (.enter f cap) w)
  (h : Calls Tryz.prog f cap (gW w) fun e w' => e = .returned (.tuple #[]) /\ Upd F (gW w) w' /\ Q w') :
  Calls Tryz.prog 39 #[.func (Fn.func f) #[] cap] w fun e w' => e = .returned (.bool false) /\ ∃ w1, Q w1 /\ Upd F (gW w) w1 /\ Gd w.heap.size w1 w' := by
 have hmf : ∀ (fn : Fn) (first cap : Array Value) (w : World), (Instr.makeFunc fn first cap).run Tryz.prog w = .ok (.func fn first cap) w := fun _ _ _ _ => rfl
 go_enter_defers Tryz.func39, Tryz.ntmps39
 go_wp2_with fail
 refine h.mono ?_
 rintro e w1 ⟨rfl, hU, hQ⟩
 have cb : Zh 4 w1 w.heap.size 0 (.bool false) := Zh.upd ⟨_, heap_alloc_new w _, by simp⟩ hU hF
 have c1 := cb.cell
 have c2 := cb.frozen
 have d1 := (cb.set (.bool false)).cell
 have d2 := (cb.set (.bool false)).frozen
 have d3 := ((cb.set (.bool false)).set (.bool false)).cell
 have HQ := Qq (Qj hQ hU)
 clear hQ hU cb h
 go_wp2_with fail
 refine leaves_cons (f := 58) (args := #[.pointer (some ⟨w.heap.size, 0, none⟩)]) (by simp) (by simp [go_sem]) ?_
 refine (idle ⟨w.heap.size, 0, none⟩ _ _ d1 d2).mono ?_
 rintro e u' w2 ⟨rfl, rfl, rfl⟩
 refine ⟨.bool false, ?_, rfl, w1, HQ.out.1, HQ.out.2, ((Gd.refl _ _).set c1 (fun _ h => by cases h)).set d1 (fun _ h => by cases h)⟩
 simp [results, Tryz.results39, go_sem, d3]
theorem guarded_panic (f : FuncId) (cap : Array Value) (w : World) (F : Nat -> Nat -> Prop) (hF : ¬ F w.heap.size 0) (hcf : ∀ w, (callFunc f cap).run Tryz.prog w = .ok (.enter f cap) w)
  (h : Calls Tryz.prog f cap (gW w) fun e w' => ∃ u pv, e = .panicked [{ v := .iface u pv, recovered := false }] /\ Upd F (gW w) w') :
  Calls Tryz.prog 39 #[.func (Fn.func f) #[] cap] w fun e w' => e = .returned (.bool true) /\ ∃ w1, Upd F (gW w) w1 /\ Gd w.heap.size w1 w' := by
 have hmf : ∀ (fn : Fn) (first cap : Array Value) (w : World), (Instr.makeFunc fn first cap).run Tryz.prog w = .ok (.func fn first cap) w := fun _ _ _ _ => rfl
 go_enter_defers Tryz.func39, Tryz.ntmps39
 go_wp2_with fail
 refine h.mono ?_
 rintro e w1 ⟨u, pv, rfl, hU⟩
 have cb : Zh 4 w1 w.heap.size 0 (.bool false) := Zh.upd ⟨_, heap_alloc_new w _, by simp⟩ hU hF
 have c1 := cb.cell
 have c2 := cb.frozen
 have d3 := (cb.set (.bool true)).cell
 have HQ := Qq hU
 clear hU cb h
 go_wp2_with fail
 refine leaves_cons (f := 58) (args := #[.pointer (some ⟨w.heap.size, 0, none⟩)]) (by simp) (by simp [go_sem]) ?_
 refine (caught ⟨w.heap.size, 0, none⟩ _ u pv [] _ c1 c2).mono ?_
 rintro e u' w2 ⟨rfl, rfl, rfl⟩
 refine ⟨.bool true, ?_, rfl, w1, HQ.out, (Gd.refl _ _).set c1 (fun _ h => by cases h)⟩
 simp [results, Tryz.results39, go_sem, d3]
theorem answer_any (zb : Nat) (l : Loc) (V : Int) (w : World) (hI : IntV w zb l V) (hlen : (digs V.natAbs).length <= 1099511627776) :
  Calls Tryz.prog 61 #[.pointer (some ⟨zb, 0, none⟩)] w fun e w' => ∃ v, e = .returned (.tuple #[v, .int .i64 0]) /\ NumI w' v V /\ Upd NoF w w' := by
 have HT := Qq (fun w' (u : Upd NoF w w') => told_num zb l V w' (hI.upd0 u) hlen)
 clear hI hlen
 go_enter Tryz.func61, Tryz.ntmps61
 go_wp2_with fail
 have h1 := heap_alloc_new w (.cells #[.bool false, .slice none 0 0] 24)
 have u1 : Upd NoF w (w.alloc (.cells #[.bool false, .slice none 0 0] 24)) := (Upd.refl NoF w).alloc _
 obtain ⟨g, hg⟩ : ∃ g, w.heap.size = g := ⟨_, rfl⟩
 obtain ⟨w1, hw1⟩ : ∃ w1, w.alloc (.cells #[.bool false, .slice none 0 0] 24) = w1 := ⟨_, rfl⟩
 rw [hg, hw1] at h1 ⊢
 rw [hw1] at u1
 refine (HT.out w1 u1).mono ?_
 rintro e w2 ⟨v, rfl, ⟨A, c, rfl, n1, n3⟩, u2⟩
 have k1 : Zh 24 w2 g 0 (.bool false) := Zh.upd ⟨_, h1, by simp⟩ u2 (fun h => h)
 have k2 : Zh 24 w2 g 1 (.slice none 0 0) := Zh.upd ⟨_, h1, by simp⟩ u2 (fun h => h)
 have c0 := k1.cell
 have f0 := k1.frozen
 have c1 := k2.cell
 have f1 := k2.frozen
 obtain ⟨s1, s2, s3⟩ := stored_pair (w := w) (x1 := .bool (decide (V < 0))) (x2 := .slice A (digs V.natAbs).length c) k1 k2 (u1.trans u2) (by omega)
 have s4 : RdU ((w2.setCell ⟨g, 0, none⟩ (.bool (decide (V < 0)))).setCell ⟨g, 1, none⟩ (.slice A (digs V.natAbs).length c)) A (digs V.natAbs) := n3.store k1 k2 (fun _ _ h => by cases h) (fun _ _ h => by cases h)
 have HE := Qq (Qj s1 (Qj n1 s4))
 clear s1 n1 n3 s4 k1 k2 u2 u1 h1 hw1 hg
 go_wp2_with fail
 refine bodyPost_ret (v := .tuple #[.agg #[.bool (decide (V < 0)), .slice A (digs V.natAbs).length c], .int .i64 0]) (by simp [results, Tryz.results61, go_sem, s2, s3]) rfl ?_
 exact ⟨_, rfl, ⟨A, c, rfl, HE.out.2.1, HE.out.2.2⟩, HE.out.1⟩
def GivesInt (f : FuncId) (cap : Array Value) (V : Int) (w : World) : Prop := Calls Tryz.prog f cap w fun e w' => ∃ (zb : Nat) (l : Loc), e = .returned (.pointer (some ⟨zb, 0, none⟩)) /\ IntV w' zb l V /\ Upd NoF w w'
def Panics (f : FuncId) (cap : Array Value) (w : World) : Prop := Calls Tryz.prog f cap w fun e w' => ∃ u pv, e = .panicked [{ v := .iface u pv, recovered := false }] /\ Upd NoF w w'
def Outs (ob cb : Nat) : Nat -> Nat -> Prop := fun b _ => b = ob \/ b = cb
theorem ans1_any (f : FuncId) (cap : Array Value) (fb ob cb : Nat) (V : Int) (w : World) (hcf : ∀ w, (callFunc f cap).run Tryz.prog w = .ok (.enter f cap) w) (hoc : ob ≠ cb) (hf : Zh 71 w fb 0 (.func (Fn.func f) #[] cap))
  (h0 : Zh 24 w ob 0 (.bool false)) (h1 : Zh 24 w ob 1 (.slice none 0 0)) (hc : Zh 3 w cb 0 (.int .i64 0)) (hlen : (digs V.natAbs).length <= 1099511627776) (h : GivesInt f cap V w) :
  Calls Tryz.prog 60 #[.pointer (some ⟨fb, 0, none⟩), .pointer (some ⟨ob, 0, none⟩), .pointer (some ⟨cb, 0, none⟩)] w fun e w' => e = .returned (.tuple #[]) /\ Upd (Outs ob cb) w w' ∧
   ∃ (A : Option Addr) (c : Nat), Zh 24 w' ob 0 (.bool (decide (V < 0))) /\ Zh 24 w' ob 1 (.slice A (digs V.natAbs).length c) /\ Zh 3 w' cb 0 (.int .i64 0) /\ (digs V.natAbs).length <= c /\ RdU w' A (digs V.natAbs) := by
 have cf := hf.cell
 have ne1 : ¬ ob = cb := hoc
 have ne2 : ¬ cb = ob := fun h => hoc h.symm
 have HI := Qq (Qj h (Qj h0 (Qj h1 (Qj hc hlen))))
 clear hf h0 h1 hc hlen h
 go_enter Tryz.func60, Tryz.ntmps60
 go_wp2_with fail
 refine HI.out.1.mono ?_
 rintro e w1 ⟨zb, l, rfl, h1, u1⟩
 have H1 := Qq (Qj h1 u1)
 clear h1 u1
 go_wp2_with fail
 refine (answer_any zb l V w1 H1.out.1 HI.out.2.2.2.2).mono ?_
 rintro e w2 ⟨v, rfl, ⟨A, c, rfl, n1, n3⟩, u2⟩
 have u2 := H1.out.2.trans u2
 have k1 := HI.out.2.1.upd u2 (fun h => h)
 have k2 := HI.out.2.2.1.upd u2 (fun h => h)
 have k3 := HI.out.2.2.2.1.upd u2 (fun h => h)
 have c0 := k1.cell
 have f0 := k1.frozen
 have c1 := k2.cell
 have f1 := k2.frozen
 have c2 := k3.cell
 have f2 := k3.frozen
 have HK := Qq (Qj k1 (Qj k2 (Qj k3 (Qj n1 (Qj n3 u2)))))
 clear k1 k2 k3 n1 n3 u2
 go_wp2_with fail
 refine ⟨rfl, _, results_none rfl _ _ _, rfl, ?_, A, c, ?_, ?_, ?_, HK.out.2.2.2.1, ?_⟩
 . exact (((HK.out.2.2.2.2.2.weak (G := Outs ob cb) (fun _ _ h => h.elim)).setCell (fun _ => Or.inl rfl) _).setCell (fun _ => Or.inl rfl) _).setCell (fun _ => Or.inr rfl) _
 . exact ((HK.out.1.set _).far _ (by omega)).far _ (by omega)
 . exact ((HK.out.2.1.far _ (by omega)).set _).far _ (by omega)
 . exact ((HK.out.2.2.1.far _ (by omega)).far _ (by omega)).set _
 . exact RdU.one (HK.out.2.2.2.2.1.store HK.out.1 HK.out.2.1 (fun _ _ h => by cases h) (fun _ _ h => by cases h)) ((HK.out.2.2.1.far _ (by omega)).far _ (by omega)).cell (fun _ h => by cases h)
theorem ans1_panic (f : FuncId) (cap : Array Value) (fb ob cb : Nat) (w : World) (hcf : ∀ w, (callFunc f cap).run Tryz.prog w = .ok (.enter f cap) w) (hf : Zh 71 w fb 0 (.func (Fn.func f) #[] cap)) (h : Panics f cap w) :
  Calls Tryz.prog 60 #[.pointer (some ⟨fb, 0, none⟩), .pointer (some ⟨ob, 0, none⟩), .pointer (some ⟨cb, 0, none⟩)] w fun e w' => ∃ u pv, e = .panicked [{ v := .iface u pv, recovered := false }] /\ Upd NoF w w' := by
 have cf := hf.cell
 have HI := Qq h
 clear hf h
 go_enter Tryz.func60, Tryz.ntmps60
 go_wp2_with fail
 refine HI.out.mono ?_
 rintro e w1 ⟨u, pv, rfl, u1⟩
 go_wp2
 exact ⟨rfl, _, _, rfl, u1⟩
theorem enters_94 (cap : Array Value) (w : World) : (callFunc 60 cap).run Tryz.prog w = .ok (.enter 60 cap) w := by
 simp [callFunc, go_sem, Tryz.func60]
 rfl
structure BoxF (w w4 : World) (g : Nat) (fv : Value) : Prop where
 up : Upd NoF w w4
 size : w4.heap.size = g + 4
 f : Zh 71 w4 g 0 fv
 r0 : Zh 24 w4 (g + 1) 0 (.bool false)
 r1 : Zh 24 w4 (g + 1) 1 (.slice none 0 0)
 o0 : Zh 24 w4 (g + 2) 0 (.bool false)
 o1 : Zh 24 w4 (g + 2) 1 (.slice none 0 0)
 c : Zh 3 w4 (g + 3) 0 (.int .i64 0)
theorem boxF (w : World) (fv : Value) : BoxF w ((((w.alloc (.cells #[fv] 71)).alloc (.cells #[.bool false, .slice none 0 0] 24)).alloc (.cells #[.bool false, .slice none 0 0] 24)).alloc (.cells #[.int .i64 0] 3)) w.heap.size fv := by
 obtain ⟨w1, hw1⟩ : ∃ w1, w.alloc (.cells #[fv] 71) = w1 := ⟨_, rfl⟩
 have h1 := heap_alloc_new w (.cells #[fv] 71)
 have s1 : w1.heap.size = w.heap.size + 1 := by rw [<- hw1]; simp
 have u1 : Upd NoF w w1 := by rw [<- hw1]; exact (Upd.refl NoF w).alloc _
 rw [hw1] at h1 ⊢
 obtain ⟨w2, hw2⟩ : ∃ w2, w1.alloc (.cells #[.bool false, .slice none 0 0] 24) = w2 := ⟨_, rfl⟩
 have h2 := heap_alloc_new w1 (.cells #[.bool false, .slice none 0 0] 24)
 have s2 : w2.heap.size = w.heap.size + 2 := by rw [<- hw2]; simp [s1]
 have u2 : Upd NoF w1 w2 := by rw [<- hw2]; exact (Upd.refl NoF w1).alloc _
 rw [hw2, s1] at h2
 rw [hw2]
 obtain ⟨w3, hw3⟩ : ∃ w3, w2.alloc (.cells #[.bool false, .slice none 0 0] 24) = w3 := ⟨_, rfl⟩
 have h3 := heap_alloc_new w2 (.cells #[.bool false, .slice none 0 0] 24)
 have s3 : w3.heap.size = w.heap.size + 3 := by rw [<- hw3]; simp [s2]
 have u3 : Upd NoF w2 w3 := by rw [<- hw3]; exact (Upd.refl NoF w2).alloc _
 rw [hw3, s2] at h3
 rw [hw3]
 have h4 := heap_alloc_new w3 (.cells #[.int .i64 0] 3)
 have u4 : Upd NoF w3 (w3.alloc (.cells #[.int .i64 0] 3)) := (Upd.refl NoF w3).alloc _
 rw [s3] at h4
 exact ⟨((u1.trans u2).trans u3).trans u4, by simp [s3], Zh.upd ⟨_, h1, by simp⟩ ((u2.trans u3).trans u4) (fun h => h), Zh.upd ⟨_, h2, by simp⟩ (u3.trans u4) (fun h => h), Zh.upd ⟨_, h2, by simp⟩ (u3.trans u4) (fun h => h),
  Zh.upd ⟨_, h3, by simp⟩ u4 (fun h => h), Zh.upd ⟨_, h3, by simp⟩ u4 (fun h => h), ⟨_, h4, by simp⟩⟩
theorem answered_any (f : FuncId) (cap : Array Value) (V : Int) (w : World) (hcf : ∀ w, (callFunc f cap).run Tryz.prog w = .ok (.enter f cap) w) (hlen : (digs V.natAbs).length <= 1099511627776) (h : ∀ w', Upd NoF w w' -> GivesInt f cap V w') :
  Calls Tryz.prog 42 #[.func (Fn.func f) #[] cap] w fun e w' => ∃ v, e = .returned (.tuple #[v, .int .i64 0]) /\ NumI w' v V /\ Upd NoF w w' := by
 have hmf : ∀ (fn : Fn) (first cap : Array Value) (w : World), (Instr.makeFunc fn first cap).run Tryz.prog w = .ok (.func fn first cap) w := fun _ _ _ _ => rfl
 have HH := Qq (Qj hcf (Qj hlen h))
 clear hcf hlen h
 go_enter Tryz.func42, Tryz.ntmps42
 go_wp2_with fail
 have HB := Qq (boxF w (.func (Fn.func f) #[] cap))
 obtain ⟨g, hg⟩ : ∃ g, w.heap.size = g := ⟨_, rfl⟩
 obtain ⟨w4, hw4⟩ : ∃ w4, ((((w.alloc (.cells #[.func (Fn.func f) #[] cap] 71)).alloc (.cells #[.bool false, .slice none 0 0] 24)).alloc (.cells #[.bool false, .slice none 0 0] 24)).alloc (.cells #[.int .i64 0] 3)) = w4 := ⟨_, rfl⟩
 rw [hg, hw4] at HB
 rw [hg, hw4]
 have hgs : w4.heap.size = g + 4 := HB.out.size
 have uG : Upd NoF w4 (gW w4) := (Upd.refl NoF w4).alloc _
 have HA := ans1_any f cap g (g + 2) (g + 3) V (gW w4) HH.out.1 (by omega) (HB.out.f.upd uG (fun h => h)) (HB.out.o0.upd uG (fun h => h)) (HB.out.o1.upd uG (fun h => h)) (HB.out.c.upd uG (fun h => h)) HH.out.2.1 (HH.out.2.2 _ (HB.out.up.trans uG))
 have HG := Qq (guarded_ret 60 #[.pointer (some ⟨g, 0, none⟩), .pointer (some ⟨g + 2, 0, none⟩), .pointer (some ⟨g + 3, 0, none⟩)] w4 (Outs (g + 2) (g + 3)) _ (by rw [hgs]; rintro (h | h) <;> omega) (enters_94 _) HA)
 clear HA hw4
 refine HG.out.mono ?_
 rintro e w6 ⟨rfl, w5, ⟨A, c, q1, q2, q3, q4, q5⟩, u5, u6, u6r⟩
 rw [hgs] at u6
 have k1 := q1.upd u6 (fun h => by have : g + 2 = g + 4 := h; omega)
 have k2 := q2.upd u6 (fun h => by have : g + 2 = g + 4 := h; omega)
 have k3 := q3.upd u6 (fun h => by have : g + 3 = g + 4 := h; omega)
 have U6 : Upd NoF w w6 := HB.out.up.then ((uG.weak (G := fun b _ => g <= b) (fun _ _ h => h.elim)).trans ((u5.weak (G := fun b _ => g <= b) (fun b i h => by rcases h with rfl | rfl <;> omega)).trans (u6.weak (G := fun b _ => g <= b) (fun b i h => by have : b = g + 4 := h; omega)))) (fun _ _ _ h => h.elim) (fun b i hb h => by omega)
 have r6 := u6r A _ q5
 have k5 := (HB.out.r0.upd uG (fun h => h)).upd u5 (by rintro (h | h) <;> omega)
 have k6 := (HB.out.r1.upd uG (fun h => h)).upd u5 (by rintro (h | h) <;> omega)
 have k5 := k5.upd u6 (fun h => by have : g + 1 = g + 4 := h; omega)
 have k6 := k6.upd u6 (fun h => by have : g + 1 = g + 4 := h; omega)
 have c1 := k1.cell
 have c2 := k2.cell
 have c3 := k3.cell
 have d1 := k5.cell
 have d2 := k5.frozen
 have d3 := k6.cell
 have d4 := k6.frozen
 obtain ⟨s1, s2, s3⟩ := stored_pair (w := w) (x1 := .bool (decide (V < 0))) (x2 := .slice A (digs V.natAbs).length c) k5 k6 U6 (by omega)
 have s4 : RdU ((w6.setCell ⟨g + 1, 0, none⟩ (.bool (decide (V < 0)))).setCell ⟨g + 1, 1, none⟩ (.slice A (digs V.natAbs).length c)) A (digs V.natAbs) := r6.store k5 k6 (fun _ _ h => by cases h) (fun _ _ h => by cases h)
 have HE := Qq (Qj s1 (Qj q4 s4))
 clear q1 q2 q3 q4 q5 u5 u6 u6r k1 k2 k3 k5 k6 U6 r6 s1 s4 uG
 go_wp2_with fail
 go_region
 all_goals
  go_wp2_with fail
  refine bodyPost_ret (v := .tuple #[.agg #[.bool (decide (V < 0)), .slice A (digs V.natAbs).length c], .int .i64 0]) (by simp [results, Tryz.results42, go_sem, s2, s3]) rfl ?_
  exact ⟨_, rfl, ⟨A, c, rfl, HE.out.2.1, HE.out.2.2.upd ((Upd.refl NoF _).drew)⟩, HE.out.1.drew⟩
theorem answered_panic (f : FuncId) (cap : Array Value) (w : World) (hcf : ∀ w, (callFunc f cap).run Tryz.prog w = .ok (.enter f cap) w) (h : ∀ w', Upd NoF w w' -> Panics f cap w') :
  Calls Tryz.prog 42 #[.func (Fn.func f) #[] cap] w fun e w' => e = .returned (.tuple #[.agg #[.bool false, .slice none 0 0], .int .i64 2]) /\ Upd NoF w w' := by
 have hmf : ∀ (fn : Fn) (first cap : Array Value) (w : World), (Instr.makeFunc fn first cap).run Tryz.prog w = .ok (.func fn first cap) w := fun _ _ _ _ => rfl
 have HH := Qq (Qj hcf h)
 clear hcf h
 go_enter Tryz.func42, Tryz.ntmps42
 go_wp2_with fail
 have HB := Qq (boxF w (.func (Fn.func f) #[] cap))
 obtain ⟨g, hg⟩ : ∃ g, w.heap.size = g := ⟨_, rfl⟩
 obtain ⟨w4, hw4⟩ : ∃ w4, ((((w.alloc (.cells #[.func (Fn.func f) #[] cap] 71)).alloc (.cells #[.bool false, .slice none 0 0] 24)).alloc (.cells #[.bool false, .slice none 0 0] 24)).alloc (.cells #[.int .i64 0] 3)) = w4 := ⟨_, rfl⟩
 rw [hg, hw4] at HB
 rw [hg, hw4]
 have hgs : w4.heap.size = g + 4 := HB.out.size
 have uG : Upd NoF w4 (gW w4) := (Upd.refl NoF w4).alloc _
 have HA := ans1_panic f cap g (g + 2) (g + 3) (gW w4) HH.out.1 (HB.out.f.upd uG (fun h => h)) (HH.out.2 _ (HB.out.up.trans uG))
 have HG := Qq (guarded_panic 60 #[.pointer (some ⟨g, 0, none⟩), .pointer (some ⟨g + 2, 0, none⟩), .pointer (some ⟨g + 3, 0, none⟩)] w4 NoF (fun h => h) (enters_94 _) HA)
 clear HA hw4
 refine HG.out.mono ?_
 rintro e w6 ⟨rfl, w5, u5, u6, u6r⟩
 rw [hgs] at u6
 have U5 : Upd NoF w4 w5 := uG.trans u5
 have U6 : Upd NoF w w6 := (HB.out.up.trans U5).then u6 (fun _ _ _ h => h) (fun b i hb h => by have : b = g + 4 := h; omega)
 have k5 := (HB.out.r0.upd U5 (fun h => h)).upd u6 (fun h => by have : g + 1 = g + 4 := h; omega)
 have k6 := (HB.out.r1.upd U5 (fun h => h)).upd u6 (fun h => by have : g + 1 = g + 4 := h; omega)
 have d1 := k5.cell
 have d2 := k5.frozen
 have d3 := k6.cell
 have d4 := k6.frozen
 obtain ⟨s1, s2, s3⟩ := stored_pair (w := w) (x1 := .bool false) (x2 := .slice none 0 0) k5 k6 U6 (by omega)
 have HE := Qq s1
 clear u5 u6 u6r U5 U6 k5 k6 s1 uG
 go_wp2_with fail
 refine bodyPost_ret (v := .tuple #[.agg #[.bool false, .slice none 0 0], .int .i64 2]) (by simp [results, Tryz.results42, go_sem, s2, s3]) rfl ?_
 exact ⟨rfl, HE.out⟩
end Go.Proofs.YthkklkjldpcbkaaGreatDoor
