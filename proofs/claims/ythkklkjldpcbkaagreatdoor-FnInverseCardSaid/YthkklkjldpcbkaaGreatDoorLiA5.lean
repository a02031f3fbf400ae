/- For the claim of laws.FnInverse: Int, MulC. -/
import Derived.Test.YthkklkjldpcbkaaGreatDoorLiA3
import Derived.Deep.QuietTactic
import Derived.BigQuiet
set_option linter.unusedVariables false
set_option linter.unusedSimpArgs false
set_option maxHeartbeats 16000000
set_option maxRecDepth 1000000
namespace Go.Proofs.YthkklkjldpcbkaaGreatDoor
open Go.RowKit
structure IntV (w : World) (b : Nat) (l : Loc) (v : Int) : Prop where
 neg : Zh 58 w b 0 (.bool (decide (v < 0)))
 abs : Zh 58 w b 1 (.slice l.A (digs v.natAbs).length l.c)
 nat : NatV w l v.natAbs
structure IntVo (w : World) (b o : Nat) (l : Loc) (v : Int) : Prop where
 free : Free w b
 neg : w.cell? ⟨b, o, none⟩ = some (.bool (decide (v < 0)))
 abs : w.cell? ⟨b, o + 1, none⟩ = some (.slice l.A (digs v.natAbs).length l.c)
 nat : NatR w l v.natAbs
theorem IntV.at0 {w : World} {b : Nat} {l : Loc} {v : Int} (h : IntV w b l v) : IntVo w b 0 l v := ⟨h.neg.free, h.neg.cell, h.abs.cell, h.nat.r⟩
theorem IntVo.upd {F : Nat -> Nat -> Prop} {w w' : World} {b o : Nat} {l : Loc} {v : Int} (h : IntVo w b o l v) (u : Upd F w w') (h1 : ∀ i, ¬ F b i) (h2 : ∀ i, i < (digs v.natAbs).length -> ¬ F l.b (l.o + i)) : IntVo w' b o l v :=
 ⟨h.free.upd u, u.cell h.neg (h1 _), u.cell h.abs (h1 _), h.nat.upd u h2⟩
theorem Calls.quiet_add {P : Program} {f : FuncId} {args : Array Value} {w : World} {n k : Nat} {v : Value} (h : Calls P f args (w.drewN (n + k)) fun e w' => e = .returned v /\ Drew (w.drewN (n + k)) w') :
  Calls P f args (w.drewN (n + k)) fun e w'' => e = .returned v /\ ∃ m, w'' = w.drewN (n + m) :=
 h.mono fun _ _ ⟨he, m, hm⟩ => ⟨he, k + m, by rw [hm, World.drewN_drewN, Nat.add_assoc]⟩
structure IntD (w : World) (b : Nat) (l : Loc) (s : Bool) (n : Nat) : Prop where
 neg : Zh 58 w b 0 (.bool s)
 abs : Zh 58 w b 1 (.slice l.A n l.c)
 ok : l.Ok w
theorem IntV.dest {w : World} {b : Nat} {l : Loc} {v : Int} (h : IntV w b l v) : IntD w b l (decide (v < 0)) (digs v.natAbs).length := ⟨h.neg, h.abs, h.nat.ok⟩
theorem IntV.upd {F : Nat -> Nat -> Prop} {w w' : World} {b : Nat} {l : Loc} {v : Int} (h : IntV w b l v) (u : Upd F w w') (h1 : ∀ i, ¬ F b i) (h2 : ∀ i, i < (digs v.natAbs).length -> ¬ F l.b (l.o + i)) : IntV w' b l v :=
 ⟨h.neg.upd u (h1 _), h.abs.upd u (h1 _), h.nat.upd u h2⟩
def SgnOk (s : Bool) (v : Int) : Prop := (s = true -> v <= 0) /\ (s = false -> 0 <= v)
structure IntS (w : World) (b : Nat) (l : Loc) (s : Bool) (v : Int) : Prop where
 neg : Zh 58 w b 0 (.bool s)
 abs : Zh 58 w b 1 (.slice l.A (digs v.natAbs).length l.c)
 nat : NatV w l v.natAbs
 sg : SgnOk s v
theorem IntV.s {w : World} {b : Nat} {l : Loc} {v : Int} (h : IntV w b l v) : IntS w b l (decide (v < 0)) v := ⟨h.neg, h.abs, h.nat, fun h => by have := of_decide_eq_true h; omega, fun h => by have := of_decide_eq_false h; omega⟩
theorem IntS.upd0 {w w' : World} {b : Nat} {l : Loc} {s : Bool} {v : Int} (h : IntS w b l s v) (u : Upd NoF w w') : IntS w' b l s v := ⟨h.neg.upd u (fun h => h), h.abs.upd u (fun h => h), h.nat.upd u (fun _ _ h => h), h.sg⟩
theorem ZF.no {w : World} {l : Loc} (hl : l.Ok w) {T : TypeId} {b i : Nat} {v : Value} (h : Zh T w b i v) (hT : T ∈ special) (need j : Nat) : ¬ ZF l need b j := by
 rintro ⟨h1, h2, h3, h4⟩
 obtain ⟨u, hu⟩ := (hl.2 (by omega)).2 0 (by omega)
 exact h.neW hu hT h1
def Blk (b : Nat) : Nat -> Nat -> Prop := fun b' _ => b' = b
def Yb (w : World) (zb : Nat) (z : Loc) (need : Nat) (v : Int) (w' : World) : Prop :=
 ∃ r : Loc, (r = z \/ w.heap.size <= r.b) /\ (need <= z.c -> r = z) /\ Upd (Or2 (Blk zb) (ZF z need)) w w' /\ IntV w' zb r v
theorem IntD.keep {w w1 : World} {l z : Loc} {need b n : Nat} {s : Bool} (h : IntD w b l s n) (hz : z.Ok w) (u : Upd (ZF z need) w w1) : IntD w1 b l s n :=
 ⟨h.neg.upd u (ZF.no hz h.neg (by decide) _ _), h.abs.upd u (ZF.no hz h.abs (by decide) _ _), h.ok.upd u⟩
theorem Yb.made {w w1 : World} {zb need n N : Nat} {z r : Loc} {s : Bool} {v : Int} (hz : IntD w zb z s n) (h1 : r = z \/ w.heap.size <= r.b) (h2 : need <= z.c -> r = z) (u : Upd (ZF z need) w w1) (hN : NatV w1 r N) (hv : v.natAbs = N) :
  Yb w zb z need v ((w1.setCell ⟨zb, 1, none⟩ (.slice r.A (digs N).length r.c)).setCell ⟨zb, 0, none⟩ (.bool (decide (v < 0)))) := by
 subst hv
 have hz1 := hz.keep hz.ok u
 have hb : ∀ i, i < (digs v.natAbs).length -> ¬ Blk zb r.b (r.o + i) := fun i hi h => by
  have := hN.at_ i hi
  exact hz1.neg.neW this (by decide) h.symm
 have u2 : Upd (Blk zb) w1 ((w1.setCell ⟨zb, 1, none⟩ (.slice r.A (digs v.natAbs).length r.c)).setCell ⟨zb, 0, none⟩ (.bool (decide (v < 0)))) :=
  ((Upd.refl (Blk zb) w1).setCell (fun _ => rfl) _).setCell (fun _ => rfl) _
 exact ⟨r, h1, h2, (u.mono (fun _ _ _ h => Or.inr h)).trans (u2.mono (fun _ _ _ h => Or.inl h)), ⟨(hz1.neg.far _ (by omega)).set _, (hz1.abs.set _).far _ (by omega), hN.upd u2 hb⟩⟩
theorem Ya.since {w w1 w' : World} {z : Loc} {need N : Nat} {e : Ending} (u : Upd NoF w w1) (h : Ya w1 z need N e w') : Ya w z need N e w' := by
 obtain ⟨r, h1, h2, h3, h4, h5⟩ := h
 exact ⟨r, h1, h2.imp id (fun h => by have := u.size; omega), h3, (u.mono (fun _ _ _ h => h.elim)).trans h4, h5⟩
theorem Yb.mono {w w' : World} {zb : Nat} {z : Loc} {need need' : Nat} {v : Int} (h : Yb w zb z need v w') (hn : need <= need') : Yb w zb z need' v w' := by
 obtain ⟨r, h1, h2, h3, h4⟩ := h
 exact ⟨r, h1, fun h => h2 (by omega), h3.mono (fun b i _ hf => hf.imp id (fun ⟨k1, k2, k3, k4⟩ => ⟨k1, k2, by omega, k4⟩)), h4⟩
theorem Int_Add_same (zb xb yb yo : Nat) (lz lx ly : Loc) (sz : Bool) (nz : Nat) (X Y : Int) (w : World) (hz : IntD w zb lz sz nz) (hx : IntV w xb lx X) (hy : IntVo w yb yo ly Y) (hyo : ly.Ok w \/ (digs Y.natAbs).length <= 1) (hs : decide (X < 0) = decide (Y < 0))
  (hm : (digs X.natAbs).length + 1 <= 1099511627776) (hn : (digs Y.natAbs).length + 1 <= 1099511627776)
  (okx : UpOk lz.b lz.o lx.b lx.o (digs X.natAbs).length) (oky : UpOk lz.b lz.o ly.b ly.o (digs Y.natAbs).length) :
  Calls Tryz.prog 64 #[.pointer (some ⟨zb, 0, none⟩), .pointer (some ⟨xb, 0, none⟩), .pointer (some ⟨yb, yo, none⟩)] w fun e w' => e = .returned (.pointer (some ⟨zb, 0, none⟩)) ∧
   Yb w zb lz (max (digs X.natAbs).length (digs Y.natAbs).length + 1) (X + Y) w' := by
 have c1 := hz.neg.cell
 have c2 := hz.neg.frozen
 have c3 := hz.abs.cell
 have c4 := hz.abs.frozen
 have c5 := hx.neg.cell
 have c6 := hx.abs.cell
 have c7 := hy.neg
 have c8 := hy.abs
 obtain ⟨sx, hsx⟩ : ∃ s, decide (X < 0) = s := ⟨_, rfl⟩
 obtain ⟨sy, hsy⟩ : ∃ s, decide (Y < 0) = s := ⟨_, rfl⟩
 rw [hsx] at c5
 rw [hsy] at c7
 have q1 : (sx == sy) = true := by rw [<- hsx, <- hsy]; simpa using hs
 have HA := Qq (fun (w' : World) (u : Upd NoF w w') => (add_anyR lz lx ly nz X.natAbs Y.natAbs w' (hz.ok.upd u) (hx.nat.upd0 u) (hy.nat.upd0 u) (hyo.imp (fun h => h.upd u) id) hm hn okx oky).mono (fun _ _ h => Ya.since u h))
 have HSX := Qq (Qj hsx (Qj hsy hs))
 clear hsx hsy hs
 go_enter Tryz.func64, Tryz.ntmps64
 go_wp2_with fail
 go_quiet (fail)
 go_wp2_with fail
 refine Zw 1 13 (by kernel_rfl) (by kernel_rfl) ?_
 simp only [List.take_succ_cons, List.take_zero, List.drop_succ_cons, List.drop_zero]
 repeat (refine Zz ?_ (fun _ _ _ h => h) (by rfl) (by intro _; go_simp; with_reducible rfl) ?_; (try simp only [Act.put, List.setIfInBounds_toArray, List.set_cons_zero, List.set_cons_succ]))
 refine Yd ?_
 repeat still_step
 refine wpStill_nil ?_
 go_wp2_with fail
 refine (HA.out _ (by first | exact ((Upd.refl NoF w).drewN _).drew | exact (((Upd.refl NoF w).drewN _).drewN _).drew)).mono ?_
 rintro e w1 ⟨r, rfl, h1, h2, h3, h4⟩
 have d1 := (hz.keep hz.ok h3).abs.cell
 have d2 := (hz.keep hz.ok h3).abs.frozen
 have d3 := (hz.keep hz.ok h3).neg.cell
 have d4 := (hz.keep hz.ok h3).neg.frozen
 have hsx := HSX.out.1
 have hsy := HSX.out.2.1
 have hs := HSX.out.2.2
 have HM0 : Yb w zb lz (max (digs X.natAbs).length (digs Y.natAbs).length + 1) (X + Y) _ := (Yb.made hz h1 h2 h3 h4 (v := X + Y) (by rw [decide_eq_decide] at hs; omega)).mono (by omega)
 by_cases h0 : X.natAbs + Y.natAbs = 0
 .
  have q0 : decide (0 < (digs (X.natAbs + Y.natAbs)).length) = false := decide_eq_false (by rw [Zg.2 h0]; omega)
  rw [show decide (X + Y < 0) = false from decide_eq_false (by rw [decide_eq_decide] at hs; omega)] at HM0
  have HM := Qq HM0
  clear HM0 h0 h1 h2 h3 h4 hs hsx hsy
  go_wp2
  go_ret
  exact ⟨rfl, HM.out⟩
 .
  have q0 : decide (0 < (digs (X.natAbs + Y.natAbs)).length) = true := decide_eq_true (by have := mt Zg.1 h0; omega)
  rw [show decide (X + Y < 0) = sx from by rw [<- hsx]; exact decide_eq_decide.2 (by rw [decide_eq_decide] at hs; omega)] at HM0
  have HM := Qq HM0
  clear HM0 h0 h1 h2 h3 h4 hs hsx hsy
  go_wp2
  go_ret
  exact ⟨rfl, HM.out⟩
theorem Int_Add_ge (zb xb yb yo : Nat) (lz lx ly : Loc) (sz : Bool) (nz : Nat) (X Y : Int) (w : World) (hz : IntD w zb lz sz nz) (hx : IntV w xb lx X) (hy : IntVo w yb yo ly Y) (hyo : ly.Ok w) (hs : decide (X < 0) ≠ decide (Y < 0)) (hle : Y.natAbs <= X.natAbs)
  (hm : (digs X.natAbs).length + 1 <= 1099511627776) (_hn : (digs Y.natAbs).length + 1 <= 1099511627776)
  (okx : UpOk lz.b lz.o lx.b lx.o (digs X.natAbs).length) (oky : UpOk lz.b lz.o ly.b ly.o (digs Y.natAbs).length) :
  Calls Tryz.prog 64 #[.pointer (some ⟨zb, 0, none⟩), .pointer (some ⟨xb, 0, none⟩), .pointer (some ⟨yb, yo, none⟩)] w fun e w' => e = .returned (.pointer (some ⟨zb, 0, none⟩)) ∧
   Yb w zb lz (max (digs X.natAbs).length (digs Y.natAbs).length + 1) (X + Y) w' := by
 have c1 := hz.neg.cell
 have c2 := hz.neg.frozen
 have c3 := hz.abs.cell
 have c4 := hz.abs.frozen
 have c5 := hx.neg.cell
 have c6 := hx.abs.cell
 have c7 := hy.neg
 have c8 := hy.abs
 obtain ⟨sx, hsx⟩ : ∃ s, decide (X < 0) = s := ⟨_, rfl⟩
 obtain ⟨sy, hsy⟩ : ∃ s, decide (Y < 0) = s := ⟨_, rfl⟩
 rw [hsx] at c5
 rw [hsy] at c7
 have q1 : (sx == sy) = false := by rw [<- hsx, <- hsy]; simpa using hs
 obtain ⟨k, hk⟩ : ∃ k, cmpN X.natAbs Y.natAbs = k := ⟨_, rfl⟩
 have HC := Qq (fun (w' : World) (u : Upd NoF w w') => cmp_any lx ly X.natAbs Y.natAbs w' (hx.nat.upd0 u) ((hy.nat.own hyo).upd0 u) (by omega))
 rw [hk] at HC
 have q2 : decide (0 <= k) = true := by rw [<- hk]; unfold cmpN; rw [if_neg (by omega)]; split <;> rfl
 have q3 : 0 <= k := by simpa using q2
 clear hk
 have HA := Qq (fun (w' : World) (u : Upd NoF w w') => (sub_any lz lx ly nz X.natAbs Y.natAbs w' (hz.ok.upd u) (hx.nat.upd0 u) ((hy.nat.own hyo).upd0 u) hle (by omega) (fun _ => okx) (fun _ => oky)).mono (fun _ _ h => Ya.since u h))
 have HSX := Qq (Qj hsx (Qj hsy hs))
 clear hsx hsy hs
 go_enter Tryz.func64, Tryz.ntmps64
 go_wp2_with fail
 go_quiet (fail)
 go_wp2_with fail
 go_quiet ((go_at_call 71; exact Calls.quiet_add (HC.out _ ((Upd.refl NoF w).drewN _))))
 clear q2
 go_wp2_with fail
 refine Zw 1 13 (by kernel_rfl) (by kernel_rfl) ?_
 simp only [List.take_succ_cons, List.take_zero, List.drop_succ_cons, List.drop_zero]
 repeat (refine Zz ?_ (fun _ _ _ h => h) (by rfl) (by intro _; go_simp; with_reducible rfl) ?_; (try simp only [Act.put, List.setIfInBounds_toArray, List.set_cons_zero, List.set_cons_succ]))
 refine Yd ?_
 repeat still_step
 refine wpStill_nil ?_
 go_wp2_with fail
 refine (HA.out _ (by first | exact ((Upd.refl NoF w).drewN _).drew | exact (((Upd.refl NoF w).drewN _).drewN _).drew)).mono ?_
 rintro e w1 ⟨r, rfl, h1, h2, h3, h4⟩
 have d1 := (hz.keep hz.ok h3).abs.cell
 have d2 := (hz.keep hz.ok h3).abs.frozen
 have d3 := (hz.keep hz.ok h3).neg.cell
 have d4 := (hz.keep hz.ok h3).neg.frozen
 have hsx := HSX.out.1
 have hsy := HSX.out.2.1
 have hs := HSX.out.2.2
 have HM0 : Yb w zb lz (max (digs X.natAbs).length (digs Y.natAbs).length + 1) (X + Y) _ := (Yb.made hz h1 h2 h3 h4 (v := X + Y) (by rw [ne_eq, decide_eq_decide] at hs; omega)).mono (by omega)
 by_cases h0 : X.natAbs - Y.natAbs = 0
 .
  have q0 : decide (0 < (digs (X.natAbs - Y.natAbs)).length) = false := decide_eq_false (by rw [Zg.2 h0]; omega)
  rw [show decide (X + Y < 0) = false from decide_eq_false (by rw [ne_eq, decide_eq_decide] at hs; omega)] at HM0
  have HM := Qq HM0
  clear HM0 h0 h1 h2 h3 h4 hs hsx hsy
  go_wp2
  go_ret
  exact ⟨rfl, HM.out⟩
 .
  have q0 : decide (0 < (digs (X.natAbs - Y.natAbs)).length) = true := decide_eq_true (by have := mt Zg.1 h0; omega)
  rw [show decide (X + Y < 0) = sx from by rw [<- hsx]; exact decide_eq_decide.2 (by rw [ne_eq, decide_eq_decide] at hs; omega)] at HM0
  have HM := Qq HM0
  clear HM0 h0 h1 h2 h3 h4 hs hsx hsy
  go_wp2
  go_ret
  exact ⟨rfl, HM.out⟩
theorem Int_Add_lt (zb xb yb yo : Nat) (lz lx ly : Loc) (sz : Bool) (nz : Nat) (X Y : Int) (w : World) (hz : IntD w zb lz sz nz) (hx : IntV w xb lx X) (hy : IntVo w yb yo ly Y) (hyo : ly.Ok w) (hs : decide (X < 0) ≠ decide (Y < 0)) (hle : X.natAbs < Y.natAbs)
  (hm : (digs X.natAbs).length + 1 <= 1099511627776) (hn : (digs Y.natAbs).length + 1 <= 1099511627776)
  (okx : UpOk lz.b lz.o lx.b lx.o (digs X.natAbs).length) (oky : UpOk lz.b lz.o ly.b ly.o (digs Y.natAbs).length) :
  Calls Tryz.prog 64 #[.pointer (some ⟨zb, 0, none⟩), .pointer (some ⟨xb, 0, none⟩), .pointer (some ⟨yb, yo, none⟩)] w fun e w' => e = .returned (.pointer (some ⟨zb, 0, none⟩)) ∧
   Yb w zb lz (max (digs X.natAbs).length (digs Y.natAbs).length + 1) (X + Y) w' := by
 have c1 := hz.neg.cell
 have c2 := hz.neg.frozen
 have c3 := hz.abs.cell
 have c4 := hz.abs.frozen
 have c5 := hx.neg.cell
 have c6 := hx.abs.cell
 have c7 := hy.neg
 have c8 := hy.abs
 obtain ⟨sx, hsx⟩ : ∃ s, decide (X < 0) = s := ⟨_, rfl⟩
 obtain ⟨sy, hsy⟩ : ∃ s, decide (Y < 0) = s := ⟨_, rfl⟩
 rw [hsx] at c5
 rw [hsy] at c7
 have q1 : (sx == sy) = false := by rw [<- hsx, <- hsy]; simpa using hs
 obtain ⟨k, hk⟩ : ∃ k, cmpN X.natAbs Y.natAbs = k := ⟨_, rfl⟩
 have HC := Qq (fun (w' : World) (u : Upd NoF w w') => cmp_any lx ly X.natAbs Y.natAbs w' (hx.nat.upd0 u) ((hy.nat.own hyo).upd0 u) (by omega))
 rw [hk] at HC
 have q2 : decide (0 <= k) = false := by rw [<- hk]; unfold cmpN; rw [if_pos hle]; rfl
 have q3 : ¬ 0 <= k := by simpa using q2
 clear hk
 have HA := Qq (fun (w' : World) (u : Upd NoF w w') => (sub_any lz ly lx nz Y.natAbs X.natAbs w' (hz.ok.upd u) ((hy.nat.own hyo).upd0 u) (hx.nat.upd0 u) (by omega) (by omega) (fun _ => oky) (fun _ => okx)).mono (fun _ _ h => Ya.since u h))
 have HSX := Qq (Qj hsx (Qj hsy hs))
 clear hsx hsy hs
 go_enter Tryz.func64, Tryz.ntmps64
 go_wp2_with fail
 go_quiet (fail)
 go_wp2_with fail
 go_quiet ((go_at_call 71; exact Calls.quiet_add (HC.out _ ((Upd.refl NoF w).drewN _))))
 clear q2
 go_wp2_with fail
 refine Zw 1 13 (by kernel_rfl) (by kernel_rfl) ?_
 simp only [List.take_succ_cons, List.take_zero, List.drop_succ_cons, List.drop_zero]
 repeat (refine Zz ?_ (fun _ _ _ h => h) (by rfl) (by intro _; go_simp; with_reducible rfl) ?_; (try simp only [Act.put, List.setIfInBounds_toArray, List.set_cons_zero, List.set_cons_succ]))
 refine Yd ?_
 repeat still_step
 refine wpStill_nil ?_
 go_wp2_with fail
 refine (HA.out _ (by first | exact ((Upd.refl NoF w).drewN _).drew | exact (((Upd.refl NoF w).drewN _).drewN _).drew)).mono ?_
 rintro e w1 ⟨r, rfl, h1, h2, h3, h4⟩
 have d1 := (hz.keep hz.ok h3).abs.cell
 have d2 := (hz.keep hz.ok h3).abs.frozen
 have d3 := (hz.keep hz.ok h3).neg.cell
 have d4 := (hz.keep hz.ok h3).neg.frozen
 have hsx := HSX.out.1
 have hsy := HSX.out.2.1
 have hs := HSX.out.2.2
 have HM0 : Yb w zb lz (max (digs X.natAbs).length (digs Y.natAbs).length + 1) (X + Y) _ := (Yb.made hz h1 h2 h3 h4 (v := X + Y) (by rw [ne_eq, decide_eq_decide] at hs; omega)).mono (by omega)
 by_cases h0 : Y.natAbs - X.natAbs = 0
 .
  have q0 : decide (0 < (digs (Y.natAbs - X.natAbs)).length) = false := decide_eq_false (by rw [Zg.2 h0]; omega)
  rw [show decide (X + Y < 0) = false from decide_eq_false (by rw [ne_eq, decide_eq_decide] at hs; omega)] at HM0
  have HM := Qq HM0
  clear HM0 h0 h1 h2 h3 h4 hs hsx hsy
  go_wp2
  go_ret
  exact ⟨rfl, HM.out⟩
 .
  have q0 : decide (0 < (digs (Y.natAbs - X.natAbs)).length) = true := decide_eq_true (by have := mt Zg.1 h0; omega)
  rw [show decide (X + Y < 0) = !sx from by rw [<- hsx]; rw [<- decide_not]; exact decide_eq_decide.2 (by rw [ne_eq, decide_eq_decide] at hs; omega)] at HM0
  have HM := Qq HM0
  clear HM0 h0 h1 h2 h3 h4 hs hsx hsy
  go_wp2
  go_ret
  exact ⟨rfl, HM.out⟩
theorem Int_Sub_same (zb xb yb : Nat) (lz lx ly : Loc) (sz : Bool) (nz : Nat) (X Y : Int) (w : World) (hz : IntD w zb lz sz nz) (hx : IntV w xb lx X) (hy : IntV w yb ly Y) (hs : decide (X < 0) ≠ decide (Y < 0))
  (hm : (digs X.natAbs).length + 1 <= 1099511627776) (hn : (digs Y.natAbs).length + 1 <= 1099511627776)
  (okx : UpOk lz.b lz.o lx.b lx.o (digs X.natAbs).length) (oky : UpOk lz.b lz.o ly.b ly.o (digs Y.natAbs).length) :
  Calls Tryz.prog 79 #[.pointer (some ⟨zb, 0, none⟩), .pointer (some ⟨xb, 0, none⟩), .pointer (some ⟨yb, 0, none⟩)] w fun e w' => e = .returned (.pointer (some ⟨zb, 0, none⟩)) ∧
   Yb w zb lz (max (digs X.natAbs).length (digs Y.natAbs).length + 1) (X - Y) w' := by
 have c1 := hz.neg.cell
 have c2 := hz.neg.frozen
 have c3 := hz.abs.cell
 have c4 := hz.abs.frozen
 have c5 := hx.neg.cell
 have c6 := hx.abs.cell
 have c7 := hy.neg.cell
 have c8 := hy.abs.cell
 obtain ⟨sx, hsx⟩ : ∃ s, decide (X < 0) = s := ⟨_, rfl⟩
 obtain ⟨sy, hsy⟩ : ∃ s, decide (Y < 0) = s := ⟨_, rfl⟩
 rw [hsx] at c5
 rw [hsy] at c7
 have q1 : (sx == sy) = false := by rw [<- hsx, <- hsy]; simpa using hs
 have HA := Qq (fun (w' : World) (u : Upd NoF w w') => (add_any lz lx ly nz X.natAbs Y.natAbs w' (hz.ok.upd u) (hx.nat.upd0 u) (hy.nat.upd0 u) hm hn okx oky).mono (fun _ _ h => Ya.since u h))
 have HSX := Qq (Qj hsx (Qj hsy hs))
 clear hsx hsy hs
 go_enter Tryz.func79, Tryz.ntmps79
 go_wp2_with fail
 go_quiet (fail)
 go_wp2_with fail
 refine Zw 1 13 (by kernel_rfl) (by kernel_rfl) ?_
 simp only [List.take_succ_cons, List.take_zero, List.drop_succ_cons, List.drop_zero]
 repeat (refine Zz ?_ (fun _ _ _ h => h) (by rfl) (by intro _; go_simp; with_reducible rfl) ?_; (try simp only [Act.put, List.setIfInBounds_toArray, List.set_cons_zero, List.set_cons_succ]))
 refine Yd ?_
 repeat still_step
 refine wpStill_nil ?_
 go_wp2_with fail
 refine (HA.out _ (by first | exact ((Upd.refl NoF w).drewN _).drew | exact (((Upd.refl NoF w).drewN _).drewN _).drew)).mono ?_
 rintro e w1 ⟨r, rfl, h1, h2, h3, h4⟩
 have d1 := (hz.keep hz.ok h3).abs.cell
 have d2 := (hz.keep hz.ok h3).abs.frozen
 have d3 := (hz.keep hz.ok h3).neg.cell
 have d4 := (hz.keep hz.ok h3).neg.frozen
 have hsx := HSX.out.1
 have hsy := HSX.out.2.1
 have hs := HSX.out.2.2
 have HM0 : Yb w zb lz (max (digs X.natAbs).length (digs Y.natAbs).length + 1) (X - Y) _ := (Yb.made hz h1 h2 h3 h4 (v := X - Y) (by rw [ne_eq, decide_eq_decide] at hs; omega)).mono (by omega)
 by_cases h0 : X.natAbs + Y.natAbs = 0
 .
  have q0 : decide (0 < (digs (X.natAbs + Y.natAbs)).length) = false := decide_eq_false (by rw [Zg.2 h0]; omega)
  rw [show decide (X - Y < 0) = false from decide_eq_false (by rw [ne_eq, decide_eq_decide] at hs; omega)] at HM0
  have HM := Qq HM0
  clear HM0 h0 h1 h2 h3 h4 hs hsx hsy
  go_wp2
  go_ret
  exact ⟨rfl, HM.out⟩
 .
  have q0 : decide (0 < (digs (X.natAbs + Y.natAbs)).length) = true := decide_eq_true (by have := mt Zg.1 h0; omega)
  rw [show decide (X - Y < 0) = sx from by rw [<- hsx]; exact decide_eq_decide.2 (by rw [ne_eq, decide_eq_decide] at hs; omega)] at HM0
  have HM := Qq HM0
  clear HM0 h0 h1 h2 h3 h4 hs hsx hsy
  go_wp2
  go_ret
  exact ⟨rfl, HM.out⟩
theorem Int_Sub_ge (zb xb yb : Nat) (lz lx ly : Loc) (sz : Bool) (nz : Nat) (X Y : Int) (w : World) (hz : IntD w zb lz sz nz) (hx : IntV w xb lx X) (hy : IntV w yb ly Y) (hs : decide (X < 0) = decide (Y < 0)) (hle : Y.natAbs <= X.natAbs)
  (hm : (digs X.natAbs).length + 1 <= 1099511627776) (_hn : (digs Y.natAbs).length + 1 <= 1099511627776)
  (okx : UpOk lz.b lz.o lx.b lx.o (digs X.natAbs).length) (oky : UpOk lz.b lz.o ly.b ly.o (digs Y.natAbs).length) :
  Calls Tryz.prog 79 #[.pointer (some ⟨zb, 0, none⟩), .pointer (some ⟨xb, 0, none⟩), .pointer (some ⟨yb, 0, none⟩)] w fun e w' => e = .returned (.pointer (some ⟨zb, 0, none⟩)) ∧
   Yb w zb lz (max (digs X.natAbs).length (digs Y.natAbs).length + 1) (X - Y) w' := by
 have c1 := hz.neg.cell
 have c2 := hz.neg.frozen
 have c3 := hz.abs.cell
 have c4 := hz.abs.frozen
 have c5 := hx.neg.cell
 have c6 := hx.abs.cell
 have c7 := hy.neg.cell
 have c8 := hy.abs.cell
 obtain ⟨sx, hsx⟩ : ∃ s, decide (X < 0) = s := ⟨_, rfl⟩
 obtain ⟨sy, hsy⟩ : ∃ s, decide (Y < 0) = s := ⟨_, rfl⟩
 rw [hsx] at c5
 rw [hsy] at c7
 have q1 : (sx == sy) = true := by rw [<- hsx, <- hsy]; simpa using hs
 obtain ⟨k, hk⟩ : ∃ k, cmpN X.natAbs Y.natAbs = k := ⟨_, rfl⟩
 have HC := Qq (fun (w' : World) (u : Upd NoF w w') => cmp_any lx ly X.natAbs Y.natAbs w' (hx.nat.upd0 u) (hy.nat.upd0 u) (by omega))
 rw [hk] at HC
 have q2 : decide (0 <= k) = true := by rw [<- hk]; unfold cmpN; rw [if_neg (by omega)]; split <;> rfl
 have q3 : 0 <= k := by simpa using q2
 clear hk
 have HA := Qq (fun (w' : World) (u : Upd NoF w w') => (sub_any lz lx ly nz X.natAbs Y.natAbs w' (hz.ok.upd u) (hx.nat.upd0 u) (hy.nat.upd0 u) hle (by omega) (fun _ => okx) (fun _ => oky)).mono (fun _ _ h => Ya.since u h))
 have HSX := Qq (Qj hsx (Qj hsy hs))
 clear hsx hsy hs
 go_enter Tryz.func79, Tryz.ntmps79
 go_wp2_with fail
 go_quiet (fail)
 go_wp2_with fail
 go_quiet ((go_at_call 71; exact Calls.quiet_add (HC.out _ ((Upd.refl NoF w).drewN _))))
 clear q2
 go_wp2_with fail
 refine Zw 1 13 (by kernel_rfl) (by kernel_rfl) ?_
 simp only [List.take_succ_cons, List.take_zero, List.drop_succ_cons, List.drop_zero]
 repeat (refine Zz ?_ (fun _ _ _ h => h) (by rfl) (by intro _; go_simp; with_reducible rfl) ?_; (try simp only [Act.put, List.setIfInBounds_toArray, List.set_cons_zero, List.set_cons_succ]))
 refine Yd ?_
 repeat still_step
 refine wpStill_nil ?_
 go_wp2_with fail
 refine (HA.out _ (by first | exact ((Upd.refl NoF w).drewN _).drew | exact (((Upd.refl NoF w).drewN _).drewN _).drew)).mono ?_
 rintro e w1 ⟨r, rfl, h1, h2, h3, h4⟩
 have d1 := (hz.keep hz.ok h3).abs.cell
 have d2 := (hz.keep hz.ok h3).abs.frozen
 have d3 := (hz.keep hz.ok h3).neg.cell
 have d4 := (hz.keep hz.ok h3).neg.frozen
 have hsx := HSX.out.1
 have hsy := HSX.out.2.1
 have hs := HSX.out.2.2
 have HM0 : Yb w zb lz (max (digs X.natAbs).length (digs Y.natAbs).length + 1) (X - Y) _ := (Yb.made hz h1 h2 h3 h4 (v := X - Y) (by rw [decide_eq_decide] at hs; omega)).mono (by omega)
 by_cases h0 : X.natAbs - Y.natAbs = 0
 .
  have q0 : decide (0 < (digs (X.natAbs - Y.natAbs)).length) = false := decide_eq_false (by rw [Zg.2 h0]; omega)
  rw [show decide (X - Y < 0) = false from decide_eq_false (by rw [decide_eq_decide] at hs; omega)] at HM0
  have HM := Qq HM0
  clear HM0 h0 h1 h2 h3 h4 hs hsx hsy
  go_wp2
  go_ret
  exact ⟨rfl, HM.out⟩
 .
  have q0 : decide (0 < (digs (X.natAbs - Y.natAbs)).length) = true := decide_eq_true (by have := mt Zg.1 h0; omega)
  rw [show decide (X - Y < 0) = sx from by rw [<- hsx]; exact decide_eq_decide.2 (by rw [decide_eq_decide] at hs; omega)] at HM0
  have HM := Qq HM0
  clear HM0 h0 h1 h2 h3 h4 hs hsx hsy
  go_wp2
  go_ret
  exact ⟨rfl, HM.out⟩
theorem Int_Sub_lt (zb xb yb : Nat) (lz lx ly : Loc) (sz : Bool) (nz : Nat) (X Y : Int) (w : World) (hz : IntD w zb lz sz nz) (hx : IntV w xb lx X) (hy : IntV w yb ly Y) (hs : decide (X < 0) = decide (Y < 0)) (hle : X.natAbs < Y.natAbs)
  (hm : (digs X.natAbs).length + 1 <= 1099511627776) (hn : (digs Y.natAbs).length + 1 <= 1099511627776)
  (okx : UpOk lz.b lz.o lx.b lx.o (digs X.natAbs).length) (oky : UpOk lz.b lz.o ly.b ly.o (digs Y.natAbs).length) :
  Calls Tryz.prog 79 #[.pointer (some ⟨zb, 0, none⟩), .pointer (some ⟨xb, 0, none⟩), .pointer (some ⟨yb, 0, none⟩)] w fun e w' => e = .returned (.pointer (some ⟨zb, 0, none⟩)) ∧
   Yb w zb lz (max (digs X.natAbs).length (digs Y.natAbs).length + 1) (X - Y) w' := by
 have c1 := hz.neg.cell
 have c2 := hz.neg.frozen
 have c3 := hz.abs.cell
 have c4 := hz.abs.frozen
 have c5 := hx.neg.cell
 have c6 := hx.abs.cell
 have c7 := hy.neg.cell
 have c8 := hy.abs.cell
 obtain ⟨sx, hsx⟩ : ∃ s, decide (X < 0) = s := ⟨_, rfl⟩
 obtain ⟨sy, hsy⟩ : ∃ s, decide (Y < 0) = s := ⟨_, rfl⟩
 rw [hsx] at c5
 rw [hsy] at c7
 have q1 : (sx == sy) = true := by rw [<- hsx, <- hsy]; simpa using hs
 obtain ⟨k, hk⟩ : ∃ k, cmpN X.natAbs Y.natAbs = k := ⟨_, rfl⟩
 have HC := Qq (fun (w' : World) (u : Upd NoF w w') => cmp_any lx ly X.natAbs Y.natAbs w' (hx.nat.upd0 u) (hy.nat.upd0 u) (by omega))
 rw [hk] at HC
 have q2 : decide (0 <= k) = false := by rw [<- hk]; unfold cmpN; rw [if_pos hle]; rfl
 have q3 : ¬ 0 <= k := by simpa using q2
 clear hk
 have HA := Qq (fun (w' : World) (u : Upd NoF w w') => (sub_any lz ly lx nz Y.natAbs X.natAbs w' (hz.ok.upd u) (hy.nat.upd0 u) (hx.nat.upd0 u) (by omega) (by omega) (fun _ => oky) (fun _ => okx)).mono (fun _ _ h => Ya.since u h))
 have HSX := Qq (Qj hsx (Qj hsy hs))
 clear hsx hsy hs
 go_enter Tryz.func79, Tryz.ntmps79
 go_wp2_with fail
 go_quiet (fail)
 go_wp2_with fail
 go_quiet ((go_at_call 71; exact Calls.quiet_add (HC.out _ ((Upd.refl NoF w).drewN _))))
 clear q2
 go_wp2_with fail
 refine Zw 1 13 (by kernel_rfl) (by kernel_rfl) ?_
 simp only [List.take_succ_cons, List.take_zero, List.drop_succ_cons, List.drop_zero]
 repeat (refine Zz ?_ (fun _ _ _ h => h) (by rfl) (by intro _; go_simp; with_reducible rfl) ?_; (try simp only [Act.put, List.setIfInBounds_toArray, List.set_cons_zero, List.set_cons_succ]))
 refine Yd ?_
 repeat still_step
 refine wpStill_nil ?_
 go_wp2_with fail
 refine (HA.out _ (by first | exact ((Upd.refl NoF w).drewN _).drew | exact (((Upd.refl NoF w).drewN _).drewN _).drew)).mono ?_
 rintro e w1 ⟨r, rfl, h1, h2, h3, h4⟩
 have d1 := (hz.keep hz.ok h3).abs.cell
 have d2 := (hz.keep hz.ok h3).abs.frozen
 have d3 := (hz.keep hz.ok h3).neg.cell
 have d4 := (hz.keep hz.ok h3).neg.frozen
 have hsx := HSX.out.1
 have hsy := HSX.out.2.1
 have hs := HSX.out.2.2
 have HM0 : Yb w zb lz (max (digs X.natAbs).length (digs Y.natAbs).length + 1) (X - Y) _ := (Yb.made hz h1 h2 h3 h4 (v := X - Y) (by rw [decide_eq_decide] at hs; omega)).mono (by omega)
 by_cases h0 : Y.natAbs - X.natAbs = 0
 .
  have q0 : decide (0 < (digs (Y.natAbs - X.natAbs)).length) = false := decide_eq_false (by rw [Zg.2 h0]; omega)
  rw [show decide (X - Y < 0) = false from decide_eq_false (by rw [decide_eq_decide] at hs; omega)] at HM0
  have HM := Qq HM0
  clear HM0 h0 h1 h2 h3 h4 hs hsx hsy
  go_wp2
  go_ret
  exact ⟨rfl, HM.out⟩
 .
  have q0 : decide (0 < (digs (Y.natAbs - X.natAbs)).length) = true := decide_eq_true (by have := mt Zg.1 h0; omega)
  rw [show decide (X - Y < 0) = !sx from by rw [<- hsx]; rw [<- decide_not]; exact decide_eq_decide.2 (by rw [decide_eq_decide] at hs; omega)] at HM0
  have HM := Qq HM0
  clear HM0 h0 h1 h2 h3 h4 hs hsx hsy
  go_wp2
  go_ret
  exact ⟨rfl, HM.out⟩
theorem Int_Add_anyO (zb xb yb yo : Nat) (lz lx ly : Loc) (sz : Bool) (nz : Nat) (X Y : Int) (w : World) (hz : IntD w zb lz sz nz) (hx : IntV w xb lx X) (hy : IntVo w yb yo ly Y) (hyo : ly.Ok w \/ ((digs Y.natAbs).length <= 1 /\ 0 <= X /\ 0 <= Y))
  (hm : (digs X.natAbs).length + 1 <= 1099511627776) (hn : (digs Y.natAbs).length + 1 <= 1099511627776)
  (okx : UpOk lz.b lz.o lx.b lx.o (digs X.natAbs).length) (oky : UpOk lz.b lz.o ly.b ly.o (digs Y.natAbs).length) :
  Calls Tryz.prog 64 #[.pointer (some ⟨zb, 0, none⟩), .pointer (some ⟨xb, 0, none⟩), .pointer (some ⟨yb, yo, none⟩)] w fun e w' => e = .returned (.pointer (some ⟨zb, 0, none⟩)) ∧
   Yb w zb lz (max (digs X.natAbs).length (digs Y.natAbs).length + 1) (X + Y) w' := by
 by_cases hs : decide (X < 0) = decide (Y < 0)
 . exact Int_Add_same zb xb yb yo lz lx ly sz nz X Y w hz hx hy (hyo.imp id (fun h => h.1)) hs hm hn okx oky
 .
  have hok : ly.Ok w := hyo.elim id (fun h => absurd (by rw [decide_eq_false (show ¬ X < 0 by omega), decide_eq_false (show ¬ Y < 0 by omega)]) hs)
  rcases Nat.lt_or_ge X.natAbs Y.natAbs with h | h
  . exact Int_Add_lt zb xb yb yo lz lx ly sz nz X Y w hz hx hy hok hs h hm hn okx oky
  . exact Int_Add_ge zb xb yb yo lz lx ly sz nz X Y w hz hx hy hok hs h hm hn okx oky
theorem Int_Add_any (zb xb yb : Nat) (lz lx ly : Loc) (sz : Bool) (nz : Nat) (X Y : Int) (w : World) (hz : IntD w zb lz sz nz) (hx : IntV w xb lx X) (hy : IntV w yb ly Y)
  (hm : (digs X.natAbs).length + 1 <= 1099511627776) (hn : (digs Y.natAbs).length + 1 <= 1099511627776)
  (okx : UpOk lz.b lz.o lx.b lx.o (digs X.natAbs).length) (oky : UpOk lz.b lz.o ly.b ly.o (digs Y.natAbs).length) :
  Calls Tryz.prog 64 #[.pointer (some ⟨zb, 0, none⟩), .pointer (some ⟨xb, 0, none⟩), .pointer (some ⟨yb, 0, none⟩)] w fun e w' => e = .returned (.pointer (some ⟨zb, 0, none⟩)) ∧
   Yb w zb lz (max (digs X.natAbs).length (digs Y.natAbs).length + 1) (X + Y) w' :=
 Int_Add_anyO zb xb yb 0 lz lx ly sz nz X Y w hz hx hy.at0 (Or.inl hy.nat.ok) hm hn okx oky
theorem Int_Sub_any (zb xb yb : Nat) (lz lx ly : Loc) (sz : Bool) (nz : Nat) (X Y : Int) (w : World) (hz : IntD w zb lz sz nz) (hx : IntV w xb lx X) (hy : IntV w yb ly Y)
  (hm : (digs X.natAbs).length + 1 <= 1099511627776) (hn : (digs Y.natAbs).length + 1 <= 1099511627776)
  (okx : UpOk lz.b lz.o lx.b lx.o (digs X.natAbs).length) (oky : UpOk lz.b lz.o ly.b ly.o (digs Y.natAbs).length) :
  Calls Tryz.prog 79 #[.pointer (some ⟨zb, 0, none⟩), .pointer (some ⟨xb, 0, none⟩), .pointer (some ⟨yb, 0, none⟩)] w fun e w' => e = .returned (.pointer (some ⟨zb, 0, none⟩)) ∧
   Yb w zb lz (max (digs X.natAbs).length (digs Y.natAbs).length + 1) (X - Y) w' := by
 by_cases hs : decide (X < 0) = decide (Y < 0)
 .
  rcases Nat.lt_or_ge X.natAbs Y.natAbs with h | h
  . exact Int_Sub_lt zb xb yb lz lx ly sz nz X Y w hz hx hy hs h hm hn okx oky
  . exact Int_Sub_ge zb xb yb lz lx ly sz nz X Y w hz hx hy hs h hm hn okx oky
 . exact Int_Sub_same zb xb yb lz lx ly sz nz X Y w hz hx hy hs hm hn okx oky
def MulRes (w : World) (z : Loc) (reuse : Prop) (need N : Nat) (F : Nat -> Nat -> Prop) (e : Ending) (w' : World) : Prop :=
 ∃ (r : Loc) (rs : List Nat), e = .returned (.slice r.A (digs N).length r.c) /\ (r = z \/ w.heap.size <= r.b) /\ (reuse -> r = z) /\ rs.length <= need /\ rs.length <= r.c /\ U64 w' r.b r.o rs /\ Digs B64 rs /\ val B64 rs = N /\ r.Ok w' ∧
  Upd (Or2 (ZF z rs.length) F) w w'
theorem setWord_zero (z : Loc) (nz : Nat) (w : World) :
  Calls Tryz.prog 84 #[.slice z.A nz z.c, .int .u64 0] w fun e w' => e = .returned (.slice z.A 0 z.c) /\ w' = w := by
 have q0 : (0 : Int) <= (z.c : Int) := by omega
 go_enter Tryz.func84, Tryz.ntmps84
 go_wp2
 go_ret
 exact ⟨by cases z.A <;> simp, rfl⟩
theorem mulAddWW_full (z : Loc) (nz xb xo xc m y : Nat) (xs : List Nat) (w : World) (hz : z.Ok w) (lx : xs.length = m) (hm0 : 0 < m) (hm : m + 1 <= 1099511627776)
  (hx : U64 w xb xo xs) (dx : Digs B64 xs) (hy0 : y ≠ 0) (hy : y < B64) (okx : m + 1 <= z.c -> UpOk z.b z.o xb xo m) :
  Calls Tryz.prog 93 #[.slice z.A nz z.c, .slice (some ⟨xb, xo, none⟩) m xc, .int .u64 (y : Int), .int .u64 0] w fun e w' => MulRes w z (m + 1 <= z.c) (m + 1) (val B64 xs * y) NoF e w' := by
 have p3 : ((m : Int) == 0) = false := beq_eq_false_iff_ne.2 (by omega)
 have p4 : ((y : Int) == 0) = false := beq_eq_false_iff_ne.2 (by omega)
 have H := Qq (Qj lx (Qj hx okx))
 clear lx hx okx
 go_enter Tryz.func93, Tryz.ntmps93
 go_wp2_with fail
 refine (make_pos z nz (m + 1) _ _ hz rfl (by omega) hm).mono ?_
 rintro e w1 ⟨b, o, c, rfl, hF, hO, hc, hU⟩
 have r2 : (m : Int) <= (c : Int) := by omega
 have kk : (m : Int) < (m : Int) + 1 := by omega
 have hx1 := H.out.2.1.upd hU (fun _ _ h => h)
 have ukx := hF.up H.out.2.2 H.out.2.1 H.out.1
 have hL : Live w1 b o c := hO.live
 have HH := Qq (Qj hx1 (Qj hF hO))
 clear hx1 hF hO
 go_wp2_with fail
 refine (mulAddVWW_any b o c xb xo xc m y 0 xs w1 (by omega) H.out.1 (hL.le (by omega)) HH.out.1 dx hy Zy ukx).mono ?_
 rintro e w2 ⟨c1, r1s, rfl, hU2, hR1, hl1, hD1, hv1, hc1⟩
 have hL2 := (hL.upd hU2)
 obtain ⟨v0, k0, k1, k2⟩ := hL2.at_ (k := m) (by omega)
 have HD := Qq (Qj hv1 hl1)
 clear hv1 hl1
 go_wp2_with fail
 have hR : U64 (w2.setCell ⟨b, o + m, none⟩ (.int .u64 (c1 : Int))) b o (r1s ++ [c1]) := by
  refine (hR1.far _ (by have := HD.out.2; omega)).snoc ?_
  rw [HD.out.2]
  exact k2.set _
 have hlen : (r1s ++ [c1]).length = m + 1 := by
  rw [List.length_append, HD.out.2]; rfl
 have hval : val B64 (r1s ++ [c1]) = val B64 xs * y := by
  rw [Yi, HD.out.2]
  have := HD.out.1
  rw [Nat.mul_comm (B64 ^ m)]; omega
 have hdig : Digs B64 (r1s ++ [c1]) := hD1.snoc hc1
 have hUp : Upd (Rg b o (o + (m + 1))) w1 (w2.setCell ⟨b, o + m, none⟩ (.int .u64 (c1 : Int))) := by
  refine Upd.setCell (hU2.mono ?_) (fun _ => ⟨rfl, by omega, by omega⟩) _
  rintro b' i _ ⟨rfl, k1, k2⟩; exact ⟨rfl, k1, by omega⟩
 have hfin : MulRes w z (m + 1 <= z.c) (m + 1) (val B64 xs * y) NoF (.returned (.slice (some ⟨b, o, none⟩) (digs (val B64 xs * y)).length c)) (w2.setCell ⟨b, o + m, none⟩ (.int .u64 (c1 : Int))) := by
  refine ⟨Loc.mk1 b o c, r1s ++ [c1], rfl, ?_, ?_, by omega, by simp only; omega, hR, hdig, hval, HH.out.2.2.upd hUp, ?_⟩
  .
   rcases HH.out.2.1 with ⟨_, h⟩ | ⟨_, h, _⟩
   . exact Or.inl h
   . exact Or.inr h
  .
   intro h
   rcases HH.out.2.1 with ⟨_, h'⟩ | ⟨h', _, _⟩
   . exact h'
   . omega
  .
   rw [hlen]
   refine hU.then hUp (fun _ _ _ h => h.elim) ?_
   rintro b' i hb ⟨rfl, g1, g2⟩
   rcases HH.out.2.1 with ⟨h, h'⟩ | ⟨_, h', _⟩
   . cases z; cases h'; exact Or.inl ⟨rfl, g1, g2, by simp only at *; omega⟩
   . simp only at h'; omega
 have HN := Qq (Qj hlen (Qj hval hfin))
 have hc63 := HH.out.2.2.1
 clear hlen hval hR1 hUp hL2 k2 hfin
 refine (norm_len b o c (m + 1) _ _ HN.out.1 hc hc63 hR hdig).mono ?_
 rintro e w4 ⟨rfl, hw4⟩
 cases hw4.symm
 go_wp2
 go_ret
 rw [HN.out.2.1]
 exact HN.out.2.2
theorem MulRes.zero {w : World} {z : Loc} {reuse : Prop} {need : Nat} {F : Nat -> Nat -> Prop} (hz : z.Ok w) : MulRes w z reuse need 0 F (.returned (.slice z.A 0 z.c)) w := by
 refine ⟨z, [], by rw [Yg]; rfl, Or.inl rfl, fun _ => rfl, Nat.zero_le _, Nat.zero_le _, U64.nil _ _ _, Digs.nil, rfl, hz, Upd.refl _ _⟩
theorem mulW_any (z x : Loc) (nz m y : Nat) (xs : List Nat) (w : World) (hz : z.Ok w) (hx : VecV w x xs) (lx : xs.length = m) (hm0 : 0 < m) (hm : m + 1 <= 1099511627776) (hy : y < B64)
  (okx : m + 1 <= z.c -> UpOk z.b z.o x.b x.o m) :
  Calls Tryz.prog 93 #[.slice z.A nz z.c, .slice x.A m x.c, .int .u64 (y : Int), .int .u64 0] w fun e w' => MulRes w z (m + 1 <= z.c) (m + 1) (val B64 xs * y) NoF e w' := by
 have e1 := hx.addr (by omega)
 obtain ⟨xA, xc, xb, xo⟩ := x
 simp only at e1 okx
 subst e1
 by_cases h0 : y = 0
 .
  subst h0
  rw [Nat.mul_zero]
  have HS := Qq (setWord_zero z nz w)
  have HR := Qq (MulRes.zero (reuse := m + 1 <= z.c) (need := m + 1) (F := NoF) hz)
  have p3 : ((m : Int) == 0) = false := beq_eq_false_iff_ne.2 (by omega)
  have q0 : ((0 : Int) == 0) = true := rfl
  clear lx hx okx
  go_enter Tryz.func93, Tryz.ntmps93
  go_wp2_with fail
  refine HS.out.mono ?_
  rintro e w1 ⟨rfl, hw⟩
  cases hw.symm
  go_wp2
  go_ret
  exact HR.out
 . exact mulAddWW_full z nz xb xo xc m y xs w hz lx hm0 hm hx.at_ hx.dig h0 hy okx
end Go.Proofs.YthkklkjldpcbkaaGreatDoor
