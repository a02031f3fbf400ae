/- For the claim of laws.FnInverse: AddS, Zl, LehM, SimM, LehSim, LehU, GcdM, Eucl, GcdT. -/
import Derived.Test.YthkklkjldpcbkaaGreatDoorLiA5
import Derived.Test.YthkklkjldpcbkaaGreatDoorLiG2
import Derived.Test.YthkklkjldpcbkaaGreatDoorLiA3
import Derived.Test.YthkklkjldpcbkaaGreatDoorLiA1
import Derived.Test.YthkklkjldpcbkaaGreatDoorLiD1
import Derived.Test.YthkklkjldpcbkaaGreatDoorLiA2
import Derived.Deep.CutBlock
import Derived.Deep.RegionHeld3
import Derived.Test.YthkklkjldpcbkaaGreatDoorLiD3
set_option linter.unusedVariables false
set_option linter.unusedSimpArgs false
set_option maxHeartbeats 16000000
set_option maxRecDepth 1000000
namespace Go.Proofs.YthkklkjldpcbkaaGreatDoor
open Go.RowKit
theorem sgn_same {s : Bool} {X Y : Int} (hx : SgnOk s X) (hy : SgnOk s Y) : (X + Y).natAbs = X.natAbs + Y.natAbs /\ (X.natAbs + Y.natAbs ≠ 0 -> decide (X + Y < 0) = s) /\ (X.natAbs + Y.natAbs = 0 -> decide (X + Y < 0) = false) := by
 cases s with
 | true =>
  have h1 := hx.1 rfl
  have h2 := hy.1 rfl
  exact ⟨by omega, fun h => decide_eq_true (by omega), fun h => decide_eq_false (by omega)⟩
 | false =>
  have h1 := hx.2 rfl
  have h2 := hy.2 rfl
  exact ⟨by omega, fun h => decide_eq_false (by omega), fun h => decide_eq_false (by omega)⟩
theorem sgn_ge {s t : Bool} {X Y : Int} (hx : SgnOk s X) (hy : SgnOk t Y) (hne : s ≠ t) (hle : Y.natAbs <= X.natAbs) : (X + Y).natAbs = X.natAbs - Y.natAbs /\ (X.natAbs - Y.natAbs ≠ 0 -> decide (X + Y < 0) = s) /\ (X.natAbs - Y.natAbs = 0 -> decide (X + Y < 0) = false) := by
 cases s <;> cases t
 . exact absurd rfl hne
 .
  have h1 := hx.2 rfl
  have h2 := hy.1 rfl
  exact ⟨by omega, fun h => decide_eq_false (by omega), fun h => decide_eq_false (by omega)⟩
 .
  have h1 := hx.1 rfl
  have h2 := hy.2 rfl
  exact ⟨by omega, fun h => decide_eq_true (by omega), fun h => decide_eq_false (by omega)⟩
 . exact absurd rfl hne
theorem sgn_lt {s t : Bool} {X Y : Int} (hx : SgnOk s X) (hy : SgnOk t Y) (hne : s ≠ t) (hle : X.natAbs < Y.natAbs) : (X + Y).natAbs = Y.natAbs - X.natAbs /\ (Y.natAbs - X.natAbs ≠ 0 -> decide (X + Y < 0) = !s) /\ (Y.natAbs - X.natAbs = 0 -> decide (X + Y < 0) = false) := by
 cases s <;> cases t
 . exact absurd rfl hne
 .
  have h1 := hx.2 rfl
  have h2 := hy.1 rfl
  exact ⟨by omega, fun h => decide_eq_true (by omega), fun h => decide_eq_false (by omega)⟩
 .
  have h1 := hx.1 rfl
  have h2 := hy.2 rfl
  exact ⟨by omega, fun h => decide_eq_false (by omega), fun h => decide_eq_false (by omega)⟩
 . exact absurd rfl hne
theorem AddS_same (zb xb yb : Nat) (lz lx ly : Loc) (sz : Bool) (nz : Nat) (sx sy : Bool) (X Y : Int) (w : World) (hz : IntD w zb lz sz nz) (hx : IntS w xb lx sx X) (hy : IntS w yb ly sy Y) (hs : sx = sy)
  (hm : (digs X.natAbs).length + 1 <= 1099511627776) (hn : (digs Y.natAbs).length + 1 <= 1099511627776)
  (okx : UpOk lz.b lz.o lx.b lx.o (digs X.natAbs).length) (oky : UpOk lz.b lz.o ly.b ly.o (digs Y.natAbs).length) :
  Calls Tryz.prog 64 #[.pointer (some ⟨zb, 0, none⟩), .pointer (some ⟨xb, 0, none⟩), .pointer (some ⟨yb, 0, none⟩)] w fun e w' => e = .returned (.pointer (some ⟨zb, 0, none⟩)) ∧
   Yb w zb lz (max (digs X.natAbs).length (digs Y.natAbs).length + 1) (X + Y) w' := by
 have c1 := hz.neg.cell
 have c2 := hz.neg.frozen
 have c3 := hz.abs.cell
 have c4 := hz.abs.frozen
 have c5 := hx.neg.cell
 have c6 := hx.abs.cell
 have c7 := hy.neg.cell
 have c8 := hy.abs.cell
 have hsx := hx.sg
 have hsy := hy.sg
 have q1 : (sx == sy) = true := by subst hs; simp
 have HA := Qq (fun (w' : World) (u : Upd NoF w w') => (add_any lz lx ly nz X.natAbs Y.natAbs w' (hz.ok.upd u) (hx.nat.upd0 u) (hy.nat.upd0 u) hm hn okx oky).mono (fun _ _ h => Ya.since u h))
 have HSX := Qq (Qj hsx (Qj hsy hs))
 clear hsx hsy hs
 go_enter Tryz.func64, Tryz.ntmps64
 go_wp2_with fail
 go_quiet (fail)
 go_wp2_with fail
 refine Zw 1 13 (by kernel_rfl) (by kernel_rfl) ?_
 simp only [List.take_succ_cons, List.take_zero, List.drop_succ_cons, List.drop_zero]
 repeat (refine Zz ?_ (fun _ _ _ h => h) (by rfl) (by intro _; go_simp; with_reducible rfl) ?_; (try simp only [Act.put, List.setIfInBounds_toArray, List.set_cons_zero, List.set_cons_succ]))
 refine Yd ?_
 repeat still_step
 refine wpStill_nil ?_
 go_wp2_with fail
 refine (HA.out _ (by first | exact ((Upd.refl NoF w).drewN _).drew | exact (((Upd.refl NoF w).drewN _).drewN _).drew)).mono ?_
 rintro e w1 ⟨r, rfl, h1, h2, h3, h4⟩
 have d1 := (hz.keep hz.ok h3).abs.cell
 have d2 := (hz.keep hz.ok h3).abs.frozen
 have d3 := (hz.keep hz.ok h3).neg.cell
 have d4 := (hz.keep hz.ok h3).neg.frozen
 have hsx := HSX.out.1
 have hsy := HSX.out.2.1
 have hs := HSX.out.2.2
 have KEY := sgn_same hsx (hs ▸ hsy)
 have HM0 : Yb w zb lz (max (digs X.natAbs).length (digs Y.natAbs).length + 1) (X + Y) _ := (Yb.made hz h1 h2 h3 h4 (v := X + Y) KEY.1).mono (by omega)
 by_cases h0 : X.natAbs + Y.natAbs = 0
 .
  have q0 : decide (0 < (digs (X.natAbs + Y.natAbs)).length) = false := decide_eq_false (by rw [Zg.2 h0]; omega)
  rw [KEY.2.2 h0] at HM0
  have HM := Qq HM0
  clear HM0 KEY h0 h1 h2 h3 h4 hs hsx hsy
  go_wp2
  go_ret
  exact ⟨rfl, HM.out⟩
 .
  have q0 : decide (0 < (digs (X.natAbs + Y.natAbs)).length) = true := decide_eq_true (by have := mt Zg.1 h0; omega)
  rw [KEY.2.1 h0] at HM0
  have HM := Qq HM0
  clear HM0 KEY h0 h1 h2 h3 h4 hs hsx hsy
  go_wp2
  go_ret
  exact ⟨rfl, HM.out⟩
theorem AddS_ge (zb xb yb : Nat) (lz lx ly : Loc) (sz : Bool) (nz : Nat) (sx sy : Bool) (X Y : Int) (w : World) (hz : IntD w zb lz sz nz) (hx : IntS w xb lx sx X) (hy : IntS w yb ly sy Y) (hs : sx ≠ sy) (hle : Y.natAbs <= X.natAbs)
  (hm : (digs X.natAbs).length + 1 <= 1099511627776) (_hn : (digs Y.natAbs).length + 1 <= 1099511627776)
  (okx : UpOk lz.b lz.o lx.b lx.o (digs X.natAbs).length) (oky : UpOk lz.b lz.o ly.b ly.o (digs Y.natAbs).length) :
  Calls Tryz.prog 64 #[.pointer (some ⟨zb, 0, none⟩), .pointer (some ⟨xb, 0, none⟩), .pointer (some ⟨yb, 0, none⟩)] w fun e w' => e = .returned (.pointer (some ⟨zb, 0, none⟩)) ∧
   Yb w zb lz (max (digs X.natAbs).length (digs Y.natAbs).length + 1) (X + Y) w' := by
 have c1 := hz.neg.cell
 have c2 := hz.neg.frozen
 have c3 := hz.abs.cell
 have c4 := hz.abs.frozen
 have c5 := hx.neg.cell
 have c6 := hx.abs.cell
 have c7 := hy.neg.cell
 have c8 := hy.abs.cell
 have hsx := hx.sg
 have hsy := hy.sg
 have q1 : (sx == sy) = false := by simpa using hs
 obtain ⟨k, hk⟩ : ∃ k, cmpN X.natAbs Y.natAbs = k := ⟨_, rfl⟩
 have HC := Qq (fun (w' : World) (u : Upd NoF w w') => cmp_any lx ly X.natAbs Y.natAbs w' (hx.nat.upd0 u) (hy.nat.upd0 u) (by omega))
 rw [hk] at HC
 have q2 : decide (0 <= k) = true := by rw [<- hk]; unfold cmpN; rw [if_neg (by omega)]; split <;> rfl
 have q3 : 0 <= k := by simpa using q2
 clear hk
 have HA := Qq (fun (w' : World) (u : Upd NoF w w') => (sub_any lz lx ly nz X.natAbs Y.natAbs w' (hz.ok.upd u) (hx.nat.upd0 u) (hy.nat.upd0 u) hle (by omega) (fun _ => okx) (fun _ => oky)).mono (fun _ _ h => Ya.since u h))
 have HSX := Qq (Qj hsx (Qj hsy hs))
 clear hsx hsy hs
 go_enter Tryz.func64, Tryz.ntmps64
 go_wp2_with fail
 go_quiet (fail)
 go_wp2_with fail
 go_quiet ((go_at_call 71; exact Calls.quiet_add (HC.out _ ((Upd.refl NoF w).drewN _))))
 clear q2
 go_wp2_with fail
 refine Zw 1 13 (by kernel_rfl) (by kernel_rfl) ?_
 simp only [List.take_succ_cons, List.take_zero, List.drop_succ_cons, List.drop_zero]
 repeat (refine Zz ?_ (fun _ _ _ h => h) (by rfl) (by intro _; go_simp; with_reducible rfl) ?_; (try simp only [Act.put, List.setIfInBounds_toArray, List.set_cons_zero, List.set_cons_succ]))
 refine Yd ?_
 repeat still_step
 refine wpStill_nil ?_
 go_wp2_with fail
 refine (HA.out _ (by first | exact ((Upd.refl NoF w).drewN _).drew | exact (((Upd.refl NoF w).drewN _).drewN _).drew)).mono ?_
 rintro e w1 ⟨r, rfl, h1, h2, h3, h4⟩
 have d1 := (hz.keep hz.ok h3).abs.cell
 have d2 := (hz.keep hz.ok h3).abs.frozen
 have d3 := (hz.keep hz.ok h3).neg.cell
 have d4 := (hz.keep hz.ok h3).neg.frozen
 have hsx := HSX.out.1
 have hsy := HSX.out.2.1
 have hs := HSX.out.2.2
 have KEY := sgn_ge hsx hsy hs hle
 have HM0 : Yb w zb lz (max (digs X.natAbs).length (digs Y.natAbs).length + 1) (X + Y) _ := (Yb.made hz h1 h2 h3 h4 (v := X + Y) KEY.1).mono (by omega)
 by_cases h0 : X.natAbs - Y.natAbs = 0
 .
  have q0 : decide (0 < (digs (X.natAbs - Y.natAbs)).length) = false := decide_eq_false (by rw [Zg.2 h0]; omega)
  rw [KEY.2.2 h0] at HM0
  have HM := Qq HM0
  clear HM0 KEY h0 h1 h2 h3 h4 hs hsx hsy
  go_wp2
  go_ret
  exact ⟨rfl, HM.out⟩
 .
  have q0 : decide (0 < (digs (X.natAbs - Y.natAbs)).length) = true := decide_eq_true (by have := mt Zg.1 h0; omega)
  rw [KEY.2.1 h0] at HM0
  have HM := Qq HM0
  clear HM0 KEY h0 h1 h2 h3 h4 hs hsx hsy
  go_wp2
  go_ret
  exact ⟨rfl, HM.out⟩
theorem AddS_lt (zb xb yb : Nat) (lz lx ly : Loc) (sz : Bool) (nz : Nat) (sx sy : Bool) (X Y : Int) (w : World) (hz : IntD w zb lz sz nz) (hx : IntS w xb lx sx X) (hy : IntS w yb ly sy Y) (hs : sx ≠ sy) (hle : X.natAbs < Y.natAbs)
  (hm : (digs X.natAbs).length + 1 <= 1099511627776) (hn : (digs Y.natAbs).length + 1 <= 1099511627776)
  (okx : UpOk lz.b lz.o lx.b lx.o (digs X.natAbs).length) (oky : UpOk lz.b lz.o ly.b ly.o (digs Y.natAbs).length) :
  Calls Tryz.prog 64 #[.pointer (some ⟨zb, 0, none⟩), .pointer (some ⟨xb, 0, none⟩), .pointer (some ⟨yb, 0, none⟩)] w fun e w' => e = .returned (.pointer (some ⟨zb, 0, none⟩)) ∧
   Yb w zb lz (max (digs X.natAbs).length (digs Y.natAbs).length + 1) (X + Y) w' := by
 have c1 := hz.neg.cell
 have c2 := hz.neg.frozen
 have c3 := hz.abs.cell
 have c4 := hz.abs.frozen
 have c5 := hx.neg.cell
 have c6 := hx.abs.cell
 have c7 := hy.neg.cell
 have c8 := hy.abs.cell
 have hsx := hx.sg
 have hsy := hy.sg
 have q1 : (sx == sy) = false := by simpa using hs
 obtain ⟨k, hk⟩ : ∃ k, cmpN X.natAbs Y.natAbs = k := ⟨_, rfl⟩
 have HC := Qq (fun (w' : World) (u : Upd NoF w w') => cmp_any lx ly X.natAbs Y.natAbs w' (hx.nat.upd0 u) (hy.nat.upd0 u) (by omega))
 rw [hk] at HC
 have q2 : decide (0 <= k) = false := by rw [<- hk]; unfold cmpN; rw [if_pos hle]; rfl
 have q3 : ¬ 0 <= k := by simpa using q2
 clear hk
 have HA := Qq (fun (w' : World) (u : Upd NoF w w') => (sub_any lz ly lx nz Y.natAbs X.natAbs w' (hz.ok.upd u) (hy.nat.upd0 u) (hx.nat.upd0 u) (by omega) (by omega) (fun _ => oky) (fun _ => okx)).mono (fun _ _ h => Ya.since u h))
 have HSX := Qq (Qj hsx (Qj hsy hs))
 clear hsx hsy hs
 go_enter Tryz.func64, Tryz.ntmps64
 go_wp2_with fail
 go_quiet (fail)
 go_wp2_with fail
 go_quiet ((go_at_call 71; exact Calls.quiet_add (HC.out _ ((Upd.refl NoF w).drewN _))))
 clear q2
 go_wp2_with fail
 refine Zw 1 13 (by kernel_rfl) (by kernel_rfl) ?_
 simp only [List.take_succ_cons, List.take_zero, List.drop_succ_cons, List.drop_zero]
 repeat (refine Zz ?_ (fun _ _ _ h => h) (by rfl) (by intro _; go_simp; with_reducible rfl) ?_; (try simp only [Act.put, List.setIfInBounds_toArray, List.set_cons_zero, List.set_cons_succ]))
 refine Yd ?_
 repeat still_step
 refine wpStill_nil ?_
 go_wp2_with fail
 refine (HA.out _ (by first | exact ((Upd.refl NoF w).drewN _).drew | exact (((Upd.refl NoF w).drewN _).drewN _).drew)).mono ?_
 rintro e w1 ⟨r, rfl, h1, h2, h3, h4⟩
 have d1 := (hz.keep hz.ok h3).abs.cell
 have d2 := (hz.keep hz.ok h3).abs.frozen
 have d3 := (hz.keep hz.ok h3).neg.cell
 have d4 := (hz.keep hz.ok h3).neg.frozen
 have hsx := HSX.out.1
 have hsy := HSX.out.2.1
 have hs := HSX.out.2.2
 have KEY := sgn_lt hsx hsy hs hle
 have HM0 : Yb w zb lz (max (digs X.natAbs).length (digs Y.natAbs).length + 1) (X + Y) _ := (Yb.made hz h1 h2 h3 h4 (v := X + Y) KEY.1).mono (by omega)
 by_cases h0 : Y.natAbs - X.natAbs = 0
 .
  have q0 : decide (0 < (digs (Y.natAbs - X.natAbs)).length) = false := decide_eq_false (by rw [Zg.2 h0]; omega)
  rw [KEY.2.2 h0] at HM0
  have HM := Qq HM0
  clear HM0 KEY h0 h1 h2 h3 h4 hs hsx hsy
  go_wp2
  go_ret
  exact ⟨rfl, HM.out⟩
 .
  have q0 : decide (0 < (digs (Y.natAbs - X.natAbs)).length) = true := decide_eq_true (by have := mt Zg.1 h0; omega)
  rw [KEY.2.1 h0] at HM0
  have HM := Qq HM0
  clear HM0 KEY h0 h1 h2 h3 h4 hs hsx hsy
  go_wp2
  go_ret
  exact ⟨rfl, HM.out⟩
theorem AddS_any (zb xb yb : Nat) (lz lx ly : Loc) (sz : Bool) (nz : Nat) (sx sy : Bool) (X Y : Int) (w : World) (hz : IntD w zb lz sz nz) (hx : IntS w xb lx sx X) (hy : IntS w yb ly sy Y)
  (hm : (digs X.natAbs).length + 1 <= 1099511627776) (hn : (digs Y.natAbs).length + 1 <= 1099511627776)
  (okx : UpOk lz.b lz.o lx.b lx.o (digs X.natAbs).length) (oky : UpOk lz.b lz.o ly.b ly.o (digs Y.natAbs).length) :
  Calls Tryz.prog 64 #[.pointer (some ⟨zb, 0, none⟩), .pointer (some ⟨xb, 0, none⟩), .pointer (some ⟨yb, 0, none⟩)] w fun e w' => e = .returned (.pointer (some ⟨zb, 0, none⟩)) ∧
   Yb w zb lz (max (digs X.natAbs).length (digs Y.natAbs).length + 1) (X + Y) w' := by
 by_cases hs : sx = sy
 . exact AddS_same zb xb yb lz lx ly sz nz sx sy X Y w hz hx hy hs hm hn okx oky
 .
  rcases Nat.lt_or_ge X.natAbs Y.natAbs with h | h
  . exact AddS_lt zb xb yb lz lx ly sz nz sx sy X Y w hz hx hy hs h hm hn okx oky
  . exact AddS_ge zb xb yb lz lx ly sz nz sx sy X Y w hz hx hy hs h hm hn okx oky
theorem sgn_sub {s t : Bool} {X Y : Int} (hx : SgnOk s X) (hy : SgnOk t Y) (hne : s ≠ t) : (X - Y).natAbs = X.natAbs + Y.natAbs /\ (X.natAbs + Y.natAbs ≠ 0 -> decide (X - Y < 0) = s) /\ (X.natAbs + Y.natAbs = 0 -> decide (X - Y < 0) = false) := by
 cases s <;> cases t
 . exact absurd rfl hne
 .
  have h1 := hx.2 rfl
  have h2 := hy.1 rfl
  exact ⟨by omega, fun h => decide_eq_false (by omega), fun h => decide_eq_false (by omega)⟩
 .
  have h1 := hx.1 rfl
  have h2 := hy.2 rfl
  exact ⟨by omega, fun h => decide_eq_true (by omega), fun h => decide_eq_false (by omega)⟩
 . exact absurd rfl hne
theorem SubS_same (zb xb yb : Nat) (lz lx ly : Loc) (sz : Bool) (nz : Nat) (sx sy : Bool) (X Y : Int) (w : World) (hz : IntD w zb lz sz nz) (hx : IntS w xb lx sx X) (hy : IntS w yb ly sy Y) (hs : sx ≠ sy)
  (hm : (digs X.natAbs).length + 1 <= 1099511627776) (hn : (digs Y.natAbs).length + 1 <= 1099511627776)
  (okx : UpOk lz.b lz.o lx.b lx.o (digs X.natAbs).length) (oky : UpOk lz.b lz.o ly.b ly.o (digs Y.natAbs).length) :
  Calls Tryz.prog 79 #[.pointer (some ⟨zb, 0, none⟩), .pointer (some ⟨xb, 0, none⟩), .pointer (some ⟨yb, 0, none⟩)] w fun e w' => e = .returned (.pointer (some ⟨zb, 0, none⟩)) ∧
   Yb w zb lz (max (digs X.natAbs).length (digs Y.natAbs).length + 1) (X - Y) w' := by
 have c1 := hz.neg.cell
 have c2 := hz.neg.frozen
 have c3 := hz.abs.cell
 have c4 := hz.abs.frozen
 have c5 := hx.neg.cell
 have c6 := hx.abs.cell
 have c7 := hy.neg.cell
 have c8 := hy.abs.cell
 have hsx := hx.sg
 have hsy := hy.sg
 have q1 : (sx == sy) = false := by simpa using hs
 have HA := Qq (fun (w' : World) (u : Upd NoF w w') => (add_any lz lx ly nz X.natAbs Y.natAbs w' (hz.ok.upd u) (hx.nat.upd0 u) (hy.nat.upd0 u) hm hn okx oky).mono (fun _ _ h => Ya.since u h))
 have HSX := Qq (Qj hsx (Qj hsy hs))
 clear hsx hsy hs
 go_enter Tryz.func79, Tryz.ntmps79
 go_wp2_with fail
 go_quiet (fail)
 go_wp2_with fail
 refine Zw 1 13 (by kernel_rfl) (by kernel_rfl) ?_
 simp only [List.take_succ_cons, List.take_zero, List.drop_succ_cons, List.drop_zero]
 repeat (refine Zz ?_ (fun _ _ _ h => h) (by rfl) (by intro _; go_simp; with_reducible rfl) ?_; (try simp only [Act.put, List.setIfInBounds_toArray, List.set_cons_zero, List.set_cons_succ]))
 refine Yd ?_
 repeat still_step
 refine wpStill_nil ?_
 go_wp2_with fail
 refine (HA.out _ (by first | exact ((Upd.refl NoF w).drewN _).drew | exact (((Upd.refl NoF w).drewN _).drewN _).drew)).mono ?_
 rintro e w1 ⟨r, rfl, h1, h2, h3, h4⟩
 have d1 := (hz.keep hz.ok h3).abs.cell
 have d2 := (hz.keep hz.ok h3).abs.frozen
 have d3 := (hz.keep hz.ok h3).neg.cell
 have d4 := (hz.keep hz.ok h3).neg.frozen
 have hsx := HSX.out.1
 have hsy := HSX.out.2.1
 have hs := HSX.out.2.2
 have KEY := sgn_sub hsx hsy hs
 have HM0 : Yb w zb lz (max (digs X.natAbs).length (digs Y.natAbs).length + 1) (X - Y) _ := (Yb.made hz h1 h2 h3 h4 (v := X - Y) KEY.1).mono (by omega)
 by_cases h0 : X.natAbs + Y.natAbs = 0
 .
  have q0 : decide (0 < (digs (X.natAbs + Y.natAbs)).length) = false := decide_eq_false (by rw [Zg.2 h0]; omega)
  rw [KEY.2.2 h0] at HM0
  have HM := Qq HM0
  clear HM0 KEY h0 h1 h2 h3 h4 hs hsx hsy
  go_wp2
  go_ret
  exact ⟨rfl, HM.out⟩
 .
  have q0 : decide (0 < (digs (X.natAbs + Y.natAbs)).length) = true := decide_eq_true (by have := mt Zg.1 h0; omega)
  rw [KEY.2.1 h0] at HM0
  have HM := Qq HM0
  clear HM0 KEY h0 h1 h2 h3 h4 hs hsx hsy
  go_wp2
  go_ret
  exact ⟨rfl, HM.out⟩
abbrev SV := Bool × Int
def sv (v : Int) : SV := (decide (v < 0), v)
structure IntP (w : World) (b : Nat) (l : Loc) (p : SV) : Prop where
 neg : Zh 58 w b 0 (.bool p.1)
 abs : Zh 58 w b 1 (.slice l.A (digs p.2.natAbs).length l.c)
 nat : NatV w l p.2.natAbs
 sg : SgnOk p.1 p.2
theorem IntP.upd {F : Nat -> Nat -> Prop} {w w' : World} {b : Nat} {l : Loc} {v : SV} (h : IntP w b l v) (u : Upd F w w') (h1 : ∀ i, ¬ F b i) (h2 : ∀ i, i < (digs v.2.natAbs).length -> ¬ F l.b (l.o + i)) : IntP w' b l v :=
 ⟨h.neg.upd u (h1 _), h.abs.upd u (h1 _), h.nat.upd u h2, h.sg⟩
theorem IntP.s {w : World} {b : Nat} {l : Loc} {p : SV} (h : IntP w b l p) : IntS w b l p.1 p.2 := ⟨h.neg, h.abs, h.nat, h.sg⟩
theorem IntP.dest {w : World} {b : Nat} {l : Loc} {p : SV} (h : IntP w b l p) : IntD w b l p.1 (digs p.2.natAbs).length := ⟨h.neg, h.abs, h.nat.ok⟩
theorem IntP.v {w : World} {b : Nat} {l : Loc} {v : Int} (h : IntP w b l (sv v)) : IntV w b l v := ⟨h.neg, h.abs, h.nat⟩
theorem sgnOk_self (v : Int) : SgnOk (decide (v < 0)) v := ⟨fun h => by have := of_decide_eq_true h; omega, fun h => by have := of_decide_eq_false h; omega⟩
theorem IntV.p {w : World} {b : Nat} {l : Loc} {v : Int} (h : IntV w b l v) : IntP w b l (sv v) := ⟨h.neg, h.abs, h.nat, sgnOk_self v⟩
def PutOut (w : World) (zb : Nat) (z : Loc) (v : SV) (w' : World) : Prop := ∃ r : Loc, OutL w z r /\ Upd (Or2 (Blk zb) (ZF z z.c)) w w' /\ IntP w' zb r v
theorem IntOut.put {w w' : World} {zb : Nat} {z : Loc} {v : Int} (h : IntOut w zb z v w') : PutOut w zb z (sv v) w' := by
 obtain ⟨r, h1, h2, h3⟩ := h
 exact ⟨r, h1, h2, h3.p⟩
structure Zl (w0 w : World) (L : List (Nat × Loc × SV)) : Prop where
 at_ : ∀ (i b : Nat) (l : Loc) (v : SV), L[i]? = some (b, l, v) -> IntP w b l v
 ap : ∀ (i j b : Nat) (l : Loc) (v : SV) (b' : Nat) (l' : Loc) (v' : SV), i ≠ j -> L[i]? = some (b, l, v) -> L[j]? = some (b', l', v') -> b ≠ b' /\ Zj l l'
 nw : ∀ (i b : Nat) (l : Loc) (v : SV), L[i]? = some (b, l, v) -> w0.heap.size <= b /\ (l.c = 0 \/ w0.heap.size <= l.b)
 up : Upd NoF w0 w
theorem Zl.upd {w0 w w' : World} {L : List (Nat × Loc × SV)} (h : Zl w0 w L) (u : Upd NoF w w') : Zl w0 w' L :=
 ⟨fun i b l v hi => (h.at_ i b l v hi).upd u (fun _ h => h) (fun _ _ h => h), h.ap, h.nw, h.up.trans u⟩
theorem Zl.of {w0 w : World} (u : Upd NoF w0 w) : Zl w0 w [] := ⟨fun _ _ _ _ h => by simp at h, fun _ _ _ _ _ _ _ _ _ h => by simp at h, fun _ _ _ _ h => by simp at h, u⟩
theorem Zl.cons {w0 w w' : World} {L : List (Nat × Loc × SV)} (h : Zl w0 w L) {b : Nat} {l : Loc} {v : SV} (u : Upd NoF w w') (hv : IntP w' b l v) (hb : w.heap.size <= b) (hl : l.c = 0 \/ w.heap.size <= l.b) : Zl w0 w' ((b, l, v) :: L) := by
 have h' := h.upd u
 have hs := h.up.size
 refine ⟨?_, ?_, ?_, h'.up⟩
 .
  intro i b' l' v' hi
  cases i with
  | zero => simp at hi; obtain ⟨rfl, rfl, rfl⟩ := hi; exact hv
  | succ i => exact h'.at_ i b' l' v' (by simpa using hi)
 .
  have key : ∀ (i b' : Nat) (l' : Loc) (v' : SV), L[i]? = some (b', l', v') -> b ≠ b' /\ Zj l l' := by
   intro i b' l' v' hi
   have hI := h.at_ i b' l' v' hi
   refine ⟨fun e => ?_, ?_⟩
   . have := hI.neg.lt; omega
   .
    rcases hl with h0 | h0
    . exact Or.inl h0
    . exact (Zj.new hI.nat.ok h0).symm
  intro i j b1 l1 v1 b2 l2 v2 hij h1 h2
  cases i with
  | zero =>
   cases j with
   | zero => exact absurd rfl hij
   | succ j =>
    simp at h1; obtain ⟨rfl, rfl, rfl⟩ := h1
    exact key j b2 l2 v2 (by simpa using h2)
  | succ i =>
   cases j with
   | zero =>
    simp at h2; obtain ⟨rfl, rfl, rfl⟩ := h2
    obtain ⟨k1, k2⟩ := key i b1 l1 v1 (by simpa using h1)
    exact ⟨Ne.symm k1, k2.symm⟩
   | succ j => exact h.ap i j _ _ _ _ _ _ (by omega) (by simpa using h1) (by simpa using h2)
 .
  intro i b' l' v' hi
  cases i with
  | zero => simp at hi; obtain ⟨rfl, rfl, rfl⟩ := hi; exact ⟨by omega, hl.imp id (fun h => by omega)⟩
  | succ i => exact h.nw i b' l' v' (by simpa using hi)
theorem Zl.tail {w0 w : World} {L : List (Nat × Loc × SV)} {p : Nat × Loc × SV} (h : Zl w0 w (p :: L)) : Zl w0 w L :=
 ⟨fun i b l v hi => h.at_ (i + 1) b l v (by simpa using hi), fun i j _ _ _ _ _ _ hij h1 h2 => h.ap (i + 1) (j + 1) _ _ _ _ _ _ (by omega) (by simpa using h1) (by simpa using h2), fun i b l v hi => h.nw (i + 1) b l v (by simpa using hi), h.up⟩
theorem Zl.sub {w0 w : World} {L M : List (Nat × Loc × SV)} (h : Zl w0 w L) (f : Nat -> Nat) (hf : ∀ i j, i < M.length -> j < M.length -> f i = f j -> i = j) (hM : ∀ i, i < M.length -> L[f i]? = M[i]?) : Zl w0 w M := by
 have hl : ∀ (i : Nat) (p : Nat × Loc × SV), M[i]? = some p -> i < M.length /\ L[f i]? = some p := fun i p hi => by
  have : i < M.length := by
   rcases Nat.lt_or_ge i M.length with h | h
   . exact h
   . rw [List.getElem?_eq_none h] at hi; cases hi
  exact ⟨this, by rw [hM i this, hi]⟩
 exact ⟨fun i b l v hi => h.at_ _ b l v (hl i _ hi).2, fun i j _ _ _ _ _ _ hij h1 h2 => h.ap _ _ _ _ _ _ _ _ (fun e => hij (hf i j (hl i _ h1).1 (hl j _ h2).1 e)) (hl i _ h1).2 (hl j _ h2).2, fun i b l v hi => h.nw _ b l v (hl i _ hi).2, h.up⟩
theorem Zl.out {w0 w w' : World} {L : List (Nat × Loc × SV)} (h : Zl w0 w L) {i zb : Nat} {z : Loc} {Z V : SV} (hi : L[i]? = some (zb, z, Z)) (ho : PutOut w zb z V w') : ∃ r : Loc, Zl w0 w' (L.set i (zb, r, V)) := by
 obtain ⟨r, o, u, hv⟩ := ho
 have hz := h.at_ i zb z Z hi
 obtain ⟨n1, n2⟩ := h.nw i zb z Z hi
 have hs := h.up.size
 have hlt : i < L.length := by
  rcases Nat.lt_or_ge i L.length with h | h
  . exact h
  . rw [List.getElem?_eq_none h] at hi; cases hi
 have get : ∀ (j b : Nat) (l : Loc) (v : SV), (L.set i (zb, r, V))[j]? = some (b, l, v) -> (j = i /\ b = zb /\ l = r /\ v = V) \/ (j ≠ i /\ L[j]? = some (b, l, v)) := by
  intro j b l v hj
  by_cases hji : j = i
  .
   subst hji
   rw [List.getElem?_set_self hlt] at hj
   simp only [Option.some.injEq, Prod.mk.injEq] at hj
   exact Or.inl ⟨rfl, hj.1.symm, hj.2.1.symm, hj.2.2.symm⟩
  .
   rw [List.getElem?_set_ne (Ne.symm hji)] at hj
   exact Or.inr ⟨hji, hj⟩
 refine ⟨r, ?_, ?_, ?_, ?_⟩
 .
  intro j b l v hj
  rcases get j b l v hj with ⟨_, rfl, rfl, rfl⟩ | ⟨hji, hj⟩
  . exact hv
  .
   have hx := h.at_ j b l v hj
   obtain ⟨a1, a2⟩ := h.ap i j _ _ _ _ _ _ (Ne.symm hji) hi hj
   refine hx.upd u ?_ ?_
   .
    rintro k (e | e)
    . exact a1 (Eq.symm e)
    . exact ZF.no hz.nat.ok hx.neg (by decide) _ _ e
   .
    rintro k hk (e | e)
    . exact hz.neg.neW (hx.nat.at_ k hk) (by decide) (Eq.symm e)
    . exact a2.zf (Nat.lt_of_lt_of_le hk hx.nat.le) e
 .
  have key : ∀ (j b : Nat) (l : Loc) (v : SV), j ≠ i -> L[j]? = some (b, l, v) -> zb ≠ b /\ Zj r l := fun j b l v hji hj => by
   obtain ⟨a1, a2⟩ := h.ap i j _ _ _ _ _ _ (Ne.symm hji) hi hj
   exact ⟨a1, o.apart a2 (h.at_ j b l v hj).nat.ok⟩
  intro j k b l v b' l' v' hjk hj hk
  rcases get j b l v hj with ⟨e1, e2, e3, e4⟩ | ⟨hji, hj2⟩
  .
   rcases get k b' l' v' hk with ⟨e5, _⟩ | ⟨hki, hk2⟩
   . exact absurd (e1.trans e5.symm) hjk
   .
    subst e2; subst e3
    exact key k b' l' v' hki hk2
  .
   rcases get k b' l' v' hk with ⟨e1, e2, e3, e4⟩ | ⟨hki, hk2⟩
   .
    subst e2; subst e3
    obtain ⟨k1, k2⟩ := key j b l v hji hj2
    exact ⟨Ne.symm k1, k2.symm⟩
   . exact h.ap j k _ _ _ _ _ _ hjk hj2 hk2
 .
  intro j b l v hj
  rcases get j b l v hj with ⟨_, rfl, rfl, rfl⟩ | ⟨hji, hj⟩
  .
   refine ⟨n1, ?_⟩
   rcases o with rfl | o | o
   . exact n2
   . exact Or.inr (by omega)
   . exact Or.inl o
  . exact h.nw j b l v hj
 .
  refine h.up.then u (fun _ _ _ h => h) (fun b i hb e => ?_)
  rcases e with e | ⟨e1, e2, e3, e4⟩
  .
   have : b = zb := e
   omega
  . rcases n2 with n2 | n2 <;> omega
theorem Zl.rel {w0 w : World} {L : List (Nat × Loc × SV)} (h : Zl w0 w L) {i j zb xb : Nat} {z x : Loc} {Z X : SV} (hi : L[i]? = some (zb, z, Z)) (hj : L[j]? = some (xb, x, X)) : Rel z x := by
 by_cases e : i = j
 .
  subst e
  rw [hi] at hj
  cases hj
  exact Or.inl rfl
 . exact Or.inr (h.ap i j _ _ _ _ _ _ e hi hj).2
theorem Zl.rel2 {w0 w : World} {L : List (Nat × Loc × SV)} (h : Zl w0 w L) {i j zb xb : Nat} {z x : Loc} {Z X : SV} (hij : i ≠ j) (hi : L[i]? = some (zb, z, Z)) (hj : L[j]? = some (xb, x, X)) : zb ≠ xb /\ Zj z x := h.ap i j _ _ _ _ _ _ hij hi hj
theorem Zl.ints {w0 w : World} {L : List (Nat × Loc × SV)} (h : Zl w0 w L) (M : List (Nat × Loc × Int)) (hM : L = M.map (fun x => (x.1, x.2.1, sv x.2.2))) : Ints w0 w M := by
 subst hM
 have get : ∀ {i b : Nat} {l : Loc} {v : Int}, M[i]? = some (b, l, v) -> (M.map (fun x => (x.1, x.2.1, sv x.2.2)))[i]? = some (b, l, sv v) := fun hi => by rw [List.getElem?_map, hi]; rfl
 exact ⟨fun i b l v hi => (h.at_ i b l _ (get hi)).v, fun i j _ _ _ _ _ _ hij h1 h2 => h.ap i j _ _ _ _ _ _ hij (get h1) (get h2), fun i b l v hi => h.nw i b l _ (get hi), h.up⟩
theorem Ints.s {w0 w : World} {M : List (Nat × Loc × Int)} (h : Ints w0 w M) : Zl w0 w (M.map (fun x => (x.1, x.2.1, sv x.2.2))) := by
 have get : ∀ {i b : Nat} {l : Loc} {v : SV}, (M.map (fun x => (x.1, x.2.1, sv x.2.2)))[i]? = some (b, l, v) -> ∃ v0, M[i]? = some (b, l, v0) /\ v = sv v0 := fun {i b l v} hi => by
  rw [List.getElem?_map] at hi
  cases hm : M[i]? with
  | none => rw [hm] at hi; cases hi
  | some x =>
   rw [hm] at hi
   obtain ⟨b', l', v'⟩ := x
   simp only [Option.map_some, Option.some.injEq, Prod.mk.injEq] at hi
   obtain ⟨rfl, rfl, rfl⟩ := hi
   exact ⟨v', rfl, rfl⟩
 refine ⟨?_, ?_, ?_, h.up⟩
 .
  intro i b l v hi
  obtain ⟨v0, h1, rfl⟩ := get hi
  exact (h.at_ i b l v0 h1).p
 .
  intro i j b l v b' l' v' hij h1 h2
  obtain ⟨v0, k1, rfl⟩ := get h1
  obtain ⟨v1, k2, rfl⟩ := get h2
  exact h.ap i j _ _ _ _ _ _ hij k1 k2
 .
  intro i b l v hi
  obtain ⟨v0, h1, rfl⟩ := get hi
  exact h.nw i b l v0 h1
theorem Zl.out2 {w0 w w' : World} {L : List (Nat × Loc × SV)} (h : Zl w0 w L) {i j zb rb : Nat} {z r : Loc} {Z R0 : SV} {Q R : Int} (hij : i ≠ j) (hi : L[i]? = some (zb, z, Z)) (hj : L[j]? = some (rb, r, R0)) (ho : IntOut2 w zb rb z r Q R w') :
  ∃ lz lr : Loc, Zl w0 w' ((L.set i (zb, lz, sv Q)).set j (rb, lr, sv R)) := by
 obtain ⟨lz, lr, o1, o2, oa, u, hv1, hv2⟩ := ho
 have hz := h.at_ i zb z Z hi
 have hr := h.at_ j rb r R0 hj
 obtain ⟨n1, n2⟩ := h.nw i zb z Z hi
 obtain ⟨m1, m2⟩ := h.nw j rb r R0 hj
 obtain ⟨c1, c2⟩ := h.ap i j _ _ _ _ _ _ hij hi hj
 have hs := h.up.size
 have hlt : ∀ {k : Nat} {p : Nat × Loc × SV}, L[k]? = some p -> k < L.length := fun {k p} hk => by
  rcases Nat.lt_or_ge k L.length with h | h
  . exact h
  . rw [List.getElem?_eq_none h] at hk; cases hk
 have get : ∀ (k b : Nat) (l : Loc) (v : SV), ((L.set i (zb, lz, sv Q)).set j (rb, lr, sv R))[k]? = some (b, l, v) -> (k = i /\ b = zb /\ l = lz /\ v = sv Q) \/ (k = j /\ b = rb /\ l = lr /\ v = sv R) \/ (k ≠ i /\ k ≠ j /\ L[k]? = some (b, l, v)) := by
  intro k b l v hk
  by_cases hkj : k = j
  .
   subst hkj
   rw [List.getElem?_set_self (by rw [List.length_set]; exact hlt hj)] at hk
   simp only [Option.some.injEq, Prod.mk.injEq] at hk
   exact Or.inr (Or.inl ⟨rfl, hk.1.symm, hk.2.1.symm, hk.2.2.symm⟩)
  .
   rw [List.getElem?_set_ne (Ne.symm hkj)] at hk
   by_cases hki : k = i
   .
    subst hki
    rw [List.getElem?_set_self (hlt hi)] at hk
    simp only [Option.some.injEq, Prod.mk.injEq] at hk
    exact Or.inl ⟨rfl, hk.1.symm, hk.2.1.symm, hk.2.2.symm⟩
   .
    rw [List.getElem?_set_ne (Ne.symm hki)] at hk
    exact Or.inr (Or.inr ⟨hki, hkj, hk⟩)
 refine ⟨lz, lr, ?_, ?_, ?_, ?_⟩
 .
  intro k b l v hk
  rcases get k b l v hk with ⟨_, rfl, rfl, rfl⟩ | ⟨_, rfl, rfl, rfl⟩ | ⟨hki, hkj, hk⟩
  . exact hv1.p
  . exact hv2.p
  .
   have hx := h.at_ k b l v hk
   obtain ⟨a1, a2⟩ := h.ap i k _ _ _ _ _ _ (Ne.symm hki) hi hk
   obtain ⟨b1, b2⟩ := h.ap j k _ _ _ _ _ _ (Ne.symm hkj) hj hk
   refine hx.upd u ?_ ?_
   .
    rintro t ((e | e) | (e | e))
    . exact a1 (Eq.symm e)
    . exact b1 (Eq.symm e)
    . exact ZF.no hz.nat.ok hx.neg (by decide) _ _ e
    . exact ZF.no hr.nat.ok hx.neg (by decide) _ _ e
   .
    rintro t ht ((e | e) | (e | e))
    . exact hz.neg.neW (hx.nat.at_ t ht) (by decide) (Eq.symm e)
    . exact hr.neg.neW (hx.nat.at_ t ht) (by decide) (Eq.symm e)
    . exact a2.zf (Nat.lt_of_lt_of_le ht hx.nat.le) e
    . exact b2.zf (Nat.lt_of_lt_of_le ht hx.nat.le) e
 .
  have key1 : ∀ (k b : Nat) (l : Loc) (v : SV), k ≠ i -> L[k]? = some (b, l, v) -> zb ≠ b /\ Zj lz l := fun k b l v hk hl => by
   obtain ⟨a1, a2⟩ := h.ap i k _ _ _ _ _ _ (Ne.symm hk) hi hl
   exact ⟨a1, o1.apart a2 (h.at_ k b l v hl).nat.ok⟩
  have key2 : ∀ (k b : Nat) (l : Loc) (v : SV), k ≠ j -> L[k]? = some (b, l, v) -> rb ≠ b /\ Zj lr l := fun k b l v hk hl => by
   obtain ⟨a1, a2⟩ := h.ap j k _ _ _ _ _ _ (Ne.symm hk) hj hl
   exact ⟨a1, o2.apart a2 (h.at_ k b l v hl).nat.ok⟩
  intro k t b l v b' l' v' hkt hk ht
  rcases get k b l v hk with ⟨e1, rfl, rfl, rfl⟩ | ⟨e1, rfl, rfl, rfl⟩ | ⟨hki, hkj, hk2⟩ <;>
   rcases get t b' l' v' ht with ⟨f1, rfl, rfl, rfl⟩ | ⟨f1, rfl, rfl, rfl⟩ | ⟨hti, htj, ht2⟩
  . exact absurd (e1.trans f1.symm) hkt
  . exact ⟨c1, oa⟩
  . exact key1 t _ _ _ hti ht2
  . exact ⟨Ne.symm c1, oa.symm⟩
  . exact absurd (e1.trans f1.symm) hkt
  . exact key2 t _ _ _ htj ht2
  . have := key1 k _ _ _ hki hk2; exact ⟨Ne.symm this.1, this.2.symm⟩
  . have := key2 k _ _ _ hkj hk2; exact ⟨Ne.symm this.1, this.2.symm⟩
  . exact h.ap k t _ _ _ _ _ _ hkt hk2 ht2
 .
  intro k b l v hk
  rcases get k b l v hk with ⟨_, rfl, rfl, rfl⟩ | ⟨_, rfl, rfl, rfl⟩ | ⟨_, _, hk⟩
  .
   refine ⟨n1, ?_⟩
   rcases o1 with rfl | o | o
   . exact n2
   . exact Or.inr (by omega)
   . exact Or.inl o
  .
   refine ⟨m1, ?_⟩
   rcases o2 with rfl | o | o
   . exact m2
   . exact Or.inr (by omega)
   . exact Or.inl o
  . exact h.nw k b l v hk
 .
  refine h.up.then u (fun _ _ _ h => h) (fun b t hb e => ?_)
  rcases e with (e | e) | (⟨e1, e2, e3, e4⟩ | ⟨e1, e2, e3, e4⟩)
  . omega
  . omega
  . rcases n2 with n2 | n2 <;> omega
  . rcases m2 with m2 | m2 <;> omega
theorem Yb.put {w w' : World} {zb k : Nat} {z : Loc} {v : Int} (h : Yb w zb z k v w') : PutOut w zb z (sv v) w' := h.out.put
theorem PutOut.low {w w' : World} {zb : Nat} {z : Loc} {V : SV} (h0 : z.c = 0) (h : PutOut w zb ⟨z.A, 0, 0, 0⟩ V w') : PutOut w zb z V w' := by
 obtain ⟨r, o, u, hv⟩ := h
 refine ⟨r, ?_, u.mono (fun b i _ h => h.imp id (fun ⟨_, h2, _, h4⟩ => absurd h4 (by simp only at h2 ⊢; omega))), hv⟩
 rcases o with rfl | o | o
 . exact Or.inr (Or.inr rfl)
 . exact Or.inr (Or.inl o)
 . exact Or.inr (Or.inr o)
theorem IntP.low {w : World} {zb : Nat} {z : Loc} {Z : SV} (h : IntP w zb z Z) (h0 : z.c = 0) : IntD w zb ⟨z.A, 0, 0, 0⟩ Z.1 (digs Z.2.natAbs).length := by
 have := h.abs
 rw [h0] at this
 exact ⟨h.neg, this, ⟨Nat.zero_le _, fun h => absurd h (Nat.lt_irrefl 0)⟩⟩
theorem Add_S (w0 w : World) (L : List (Nat × Loc × SV)) (i j zb xb : Nat) (z x : Loc) (Z X : SV) (h : Zl w0 w L) (hi : L[i]? = some (zb, z, Z)) (hj : L[j]? = some (xb, x, X)) (hm : (digs Z.2.natAbs).length + 1 <= 1099511627776) (hn : (digs X.2.natAbs).length + 1 <= 1099511627776) :
  Calls Tryz.prog 64 #[.pointer (some ⟨zb, 0, none⟩), .pointer (some ⟨zb, 0, none⟩), .pointer (some ⟨xb, 0, none⟩)] w fun e w' => e = .returned (.pointer (some ⟨zb, 0, none⟩)) /\ ∃ r : Loc, Zl w0 w' (L.set i (zb, r, sv (Z.2 + X.2))) := by
 rcases Nat.eq_zero_or_pos z.c with h0 | h0
 . exact (AddS_any zb zb xb _ z x _ _ _ _ Z.2 X.2 w ((h.at_ _ _ _ _ hi).low h0) (h.at_ _ _ _ _ hi).s (h.at_ _ _ _ _ hj).s hm hn (Or.inr (Or.inl (Nat.zero_le _))) (Or.inr (Or.inl (Nat.zero_le _)))).mono (fun _ _ ⟨h1, h2⟩ => ⟨h1, h.out hi (h2.put.low h0)⟩)
 . exact (AddS_any zb zb xb z z x _ _ _ _ Z.2 X.2 w (h.at_ _ _ _ _ hi).dest (h.at_ _ _ _ _ hi).s (h.at_ _ _ _ _ hj).s hm hn ((h.rel hi hi).up (h.at_ _ _ _ _ hi).nat.le h0) ((h.rel hi hj).up (h.at_ _ _ _ _ hj).nat.le h0)).mono (fun _ _ ⟨h1, h2⟩ => ⟨h1, h.out hi h2.put⟩)
theorem PutOut.made {w w1 : World} {zb n N : Nat} {z r : Loc} {s : Bool} {v : SV} {k : Nat} (hz : IntD w zb z s n) (h1 : OutL w z r) (u : Upd (ZF z k) w w1) (hN : NatV w1 r N) (hv : v.2.natAbs = N) (hs : SgnOk v.1 v.2) :
  PutOut w zb z v ((w1.setCell ⟨zb, 1, none⟩ (.slice r.A (digs N).length r.c)).setCell ⟨zb, 0, none⟩ (.bool v.1)) := by
 subst hv
 have hz1 := hz.keep hz.ok u
 have hb : ∀ i, i < (digs v.2.natAbs).length -> ¬ Blk zb r.b (r.o + i) := fun i hi h => by
  have := hN.at_ i hi
  exact hz1.neg.neW this (by decide) h.symm
 have u2 : Upd (Blk zb) w1 ((w1.setCell ⟨zb, 1, none⟩ (.slice r.A (digs v.2.natAbs).length r.c)).setCell ⟨zb, 0, none⟩ (.bool v.1)) :=
  ((Upd.refl (Blk zb) w1).setCell (fun _ => rfl) _).setCell (fun _ => rfl) _
 exact ⟨r, h1, (u.mono (fun _ _ _ h => Or.inr (ZF.all h))).trans (u2.mono (fun _ _ _ h => Or.inl h)), ⟨(hz1.neg.far _ (by omega)).set _, (hz1.abs.set _).far _ (by omega), hN.upd u2 hb, hs⟩⟩
inductive Eu : Int -> Int -> Int -> Int -> Int -> Int -> Int -> Int -> Prop
 | refl (X Y U V : Int) : Eu X Y U V X Y U V
 | step {X Y U V A B C D : Int} (q : Int) (h : Eu X Y U V A B C D) (hq : 0 <= q) (h0 : 0 <= A - q * B) (h1 : A - q * B < B) : Eu X Y U V B (A - q * B) D (C - q * D)
structure GI (a b : Nat) (X Y U V : Int) : Prop where
 y0 : 0 <= Y
 yx : Y <= X
 x1 : 1 <= X
 g : Int.gcd X Y = Nat.gcd a b
 dX : (b : Int) ∣ X - a * U
 dY : (b : Int) ∣ Y - a * V
 sum : (0 <= U /\ V <= 0 /\ Y * U - X * V = b) \/ (U <= 0 /\ 0 <= V /\ X * V - Y * U = b)
 bU : U.natAbs <= b
 bV : V.natAbs <= b
theorem gcd_step (X Y q : Int) : Int.gcd Y (X - q * Y) = Int.gcd X Y := by
 rw [show X - q * Y = X + Y * (-q) by grind, Int.gcd_add_mul_left_right, Int.gcd_comm]
theorem abs_le_of_mul {X V b : Int} (hX : 1 <= X) (hV : 0 <= V) (h : X * V <= b) : V <= b := by
 have := Int.mul_le_mul_of_nonneg_right hX hV
 rw [Int.one_mul] at this
 omega
theorem GI.step {a b : Nat} {X Y U V q : Int} (h : GI a b X Y U V) (_hq : 0 <= q) (h0 : 0 <= X - q * Y) (h1 : X - q * Y < Y) : GI a b Y (X - q * Y) V (U - q * V) := by
 have hs : (0 <= V /\ U - q * V <= 0 /\ (X - q * Y) * V - Y * (U - q * V) = b) \/ (V <= 0 /\ 0 <= U - q * V /\ Y * (U - q * V) - (X - q * Y) * V = b) := by
  rcases h.sum with ⟨s1, s2, s3⟩ | ⟨s1, s2, s3⟩
  .
   right
   refine ⟨s2, ?_, by grind⟩
   have : 0 <= q * (-V) := Int.mul_nonneg _hq (by omega)
   rw [Int.mul_neg] at this
   omega
  .
   left
   refine ⟨s2, ?_, by grind⟩
   have : 0 <= q * V := Int.mul_nonneg _hq s2
   omega
 refine ⟨h0, by omega, by omega, by rw [gcd_step]; exact h.g, h.dY, ?_, hs, h.bV, ?_⟩
 .
  rw [show X - q * Y - a * (U - q * V) = X - a * U - q * (Y - a * V) by grind]
  exact Int.dvd_sub h.dX (Int.dvd_trans h.dY (Int.dvd_mul_left _ _))
 .
  rcases hs with ⟨s1, s2, s3⟩ | ⟨s1, s2, s3⟩
  .
   have a1 : 0 <= (X - q * Y) * V := Int.mul_nonneg h0 s1
   have := abs_le_of_mul (X := Y) (V := -(U - q * V)) (b := b) (by omega) (by omega) (by rw [Int.mul_neg]; omega)
   omega
  .
   have a1 : 0 <= (X - q * Y) * (-V) := Int.mul_nonneg h0 (by omega)
   rw [Int.mul_neg] at a1
   have := abs_le_of_mul (X := Y) (V := U - q * V) (b := b) (by omega) (by omega) (by omega)
   omega
theorem GI.eu {a b : Nat} {X Y U V A B C D : Int} (h : GI a b X Y U V) (k : Eu X Y U V A B C D) : GI a b A B C D := by
 induction k with
 | refl => exact h
 | step q _ hq h0 h1 ih => exact ih.step hq h0 h1
def lsg (e : Bool) : Int := if e then -1 else 1
theorem lsg_not (e : Bool) : lsg (!e) = - lsg e := by cases e <;> rfl
structure Sim (A B : Int) (H bt al ga : Int) (p0 p1 : Nat) (e : Bool) (a1 a2 u0 u1 u2 v0 v1 v2 : Nat) : Prop where
 hH : 0 < H
 al0 : 0 <= al
 al1 : al < bt
 ga0 : 0 <= ga
 ga1 : ga < bt
 eA : A * H = p0 * bt + al
 eB : B * H = p1 * bt + ga
 e1 : (a1 : Int) = lsg e * (u1 * p0 - v1 * p1)
 e2 : (a2 : Int) = lsg e * (v2 * p1 - u2 * p0)
 tot : a1 * v2 + a2 * v1 = p0
 uv2 : u2 <= v2
 v21 : 1 <= v2
 lt12 : e = true -> u1 <= v1
 st : (u0 = 0 /\ u1 = 1 /\ u2 = 0 /\ v0 = 0 /\ v1 = 0 /\ v2 = 1 /\ e = false) ∨
  (u1 <= v1 /\ 1 <= v1 /\ (∃ q : Nat, u2 = u0 + q * u1 /\ v2 = v0 + q * v1) ∧
   (∀ U V : Int, Eu A B U V (lsg e * (v0 * B - u0 * A)) (lsg e * (u1 * A - v1 * B)) (lsg e * (v0 * V - u0 * U)) (lsg e * (u1 * U - v1 * V))) ∧
   0 < lsg e * (u1 * A - v1 * B) /\ lsg e * (u1 * A - v1 * B) < lsg e * (v0 * B - u0 * A) /\ lsg e * (u1 * A - v1 * B) <= B /\ (v0 ≠ 0 -> lsg e * (u1 * A - v1 * B) < B))
theorem Sim.start {A B H bt al ga : Int} {p0 p1 : Nat} (hH : 0 < H) (al0 : 0 <= al) (al1 : al < bt) (ga0 : 0 <= ga) (ga1 : ga < bt) (eA : A * H = p0 * bt + al) (eB : B * H = p1 * bt + ga) :
  Sim A B H bt al ga p0 p1 false p0 p1 0 1 0 0 0 1 :=
 ⟨hH, al0, al1, ga0, ga1, eA, eB, by simp [lsg], by simp [lsg], by simp, by omega, by omega, by simp, Or.inl ⟨rfl, rfl, rfl, rfl, rfl, rfl, rfl⟩⟩
section
variable {A B H bt al ga : Int} {p0 p1 a1 a2 u0 u1 u2 v0 v1 v2 : Nat} {e : Bool}
theorem pos_of_mul {H X : Int} (hH : 0 < H) (h : 0 < H * X) : 0 < X := by
 rcases Int.lt_or_le 0 X with h1 | h1
 . exact h1
 .
  have := Int.mul_nonneg (a := H) (b := -X) (by omega) (by omega)
  rw [Int.mul_neg] at this
  omega
theorem Sim.next (h : Sim A B H bt al ga p0 p1 e a1 a2 u0 u1 u2 v0 v1 v2) (c1 : v2 <= a2) (c2 : v1 + v2 + a2 <= a1) : 0 < lsg e * (v2 * B - u2 * A) /\ lsg e * (v2 * B - u2 * A) < lsg e * (u1 * A - v1 * B) := by
 obtain ⟨hH, al0, al1, ga0, ga1, eA, eB, e1, e2, tot, uv2, v21, lt12, st⟩ := h
 have k1 : H * (lsg e * (v2 * B - u2 * A)) = a2 * bt + lsg e * (v2 * ga - u2 * al) := by
  rw [e2]
  have : H * (lsg e * (v2 * B - u2 * A)) = lsg e * (v2 * (B * H) - u2 * (A * H)) := by grind
  rw [this, eA, eB]; grind
 have k2 : H * (lsg e * (u1 * A - v1 * B)) = a1 * bt + lsg e * (u1 * al - v1 * ga) := by
  rw [e1]
  have : H * (lsg e * (u1 * A - v1 * B)) = lsg e * (u1 * (A * H) - v1 * (B * H)) := by grind
  rw [this, eA, eB]; grind
 have hbt : 0 < bt := by omega
 have m1 : (v2 : Int) * bt <= a2 * bt := Int.mul_le_mul_of_nonneg_right (by omega) (by omega)
 have m2 : ((v1 : Int) + v2 + a2) * bt <= a1 * bt := Int.mul_le_mul_of_nonneg_right (by omega) (by omega)
 have m3 : (v2 : Int) * ga < v2 * bt := Int.mul_lt_mul_of_pos_left ga1 (by omega)
 have m4 : (u2 : Int) * al <= u2 * bt := Int.mul_le_mul_of_nonneg_left (by omega) (by omega)
 have m5 : (u2 : Int) * bt <= v2 * bt := Int.mul_le_mul_of_nonneg_right (by omega) (by omega)
 have m6 : (v1 : Int) * ga <= v1 * bt := Int.mul_le_mul_of_nonneg_left (by omega) (by omega)
 have m7 : (u1 : Int) * al <= u1 * bt := Int.mul_le_mul_of_nonneg_left (by omega) (by omega)
 have n1 : 0 <= (v2 : Int) * ga := Int.mul_nonneg (by omega) ga0
 have n2 : 0 <= (u2 : Int) * al := Int.mul_nonneg (by omega) al0
 have n3 : 0 <= (v1 : Int) * ga := Int.mul_nonneg (by omega) ga0
 have n4 : 0 <= (u1 : Int) * al := Int.mul_nonneg (by omega) al0
 have n5 : (bt : Int) <= v2 * bt := by have := Int.mul_le_mul_of_nonneg_right (a := 1) (b := v2) (c := bt) (by omega) (by omega); omega
 have s2 : ((v1 : Int) + v2 + a2) * bt = v1 * bt + v2 * bt + a2 * bt := by grind
 have d1 : (u2 : Int) * al < v2 * bt := by
  rcases Nat.eq_zero_or_pos u2 with h0 | h0
  . subst h0; simp; omega
  .
   have := Int.mul_lt_mul_of_pos_left al1 (show (0 : Int) < u2 by omega)
   omega
 cases e with
 | false =>
  simp only [lsg, Bool.false_eq_true, if_false, Int.one_mul] at k1 k2 ⊢
  refine ⟨pos_of_mul hH (by rw [k1]; omega), ?_⟩
  have : 0 < H * ((u1 * A - v1 * B) - (v2 * B - u2 * A)) := by
   rw [Int.mul_sub, k1, k2]; omega
  have := pos_of_mul hH this
  omega
 | true =>
  have l := lt12 rfl
  have m8 : (u1 : Int) * bt <= v1 * bt := Int.mul_le_mul_of_nonneg_right (by omega) (by omega)
  simp only [lsg, if_true] at k1 k2 ⊢
  refine ⟨pos_of_mul hH (by rw [k1]; omega), ?_⟩
  have : 0 < H * (-1 * (u1 * A - v1 * B) - -1 * (v2 * B - u2 * A)) := by
   rw [Int.mul_sub, k1, k2]; omega
  have := pos_of_mul hH this
  omega
theorem Sim.round (h : Sim A B H bt al ga p0 p1 e a1 a2 u0 u1 u2 v0 v1 v2) (c1 : v2 <= a2) (c2 : v1 + v2 + a2 <= a1) :
  Sim A B H bt al ga p0 p1 (!e) a2 (a1 % a2) u1 u2 (u1 + a1 / a2 * u2) v1 v2 (v1 + a1 / a2 * v2) /\ v1 + a1 / a2 * v2 <= p0 /\ u1 + a1 / a2 * u2 <= p0 := by
 obtain ⟨n1, n2⟩ := h.next c1 c2
 obtain ⟨hH, al0, al1, ga0, ga1, eA, eB, e1, e2, tot, uv2, v21, lt12, st⟩ := h
 have hd := Nat.div_add_mod a1 a2
 have hq : 1 <= a1 / a2 := by
  rw [Nat.le_div_iff_mul_le (by omega)]; omega
 generalize a1 / a2 = q at *
 generalize a1 % a2 = r at *
 have ht : a2 * (v1 + q * v2) + r * v2 = p0 := by rw [<- tot, <- hd]; grind
 have hv : v1 + q * v2 <= p0 := by
  have : 1 * (v1 + q * v2) <= a2 * (v1 + q * v2) := Nat.mul_le_mul_right _ (by omega)
  omega
 have huv : u1 + q * u2 <= v1 + q * v2 := by
  have m : q * u2 <= q * v2 := Nat.mul_le_mul_left _ uv2
  rcases st with ⟨_, rfl, rfl, _, rfl, rfl, _⟩ | ⟨h1, _⟩
  . omega
  . omega
 have hd' : (a1 : Int) = a2 * q + r := by rw [<- hd]; simp
 have hsg := lsg_not e
 refine ⟨⟨hH, al0, al1, ga0, ga1, eA, eB, by rw [hsg, e2]; grind, ?_, ht, huv, ?_, fun _ => uv2, Or.inr ⟨uv2, v21, ⟨q, rfl, rfl⟩, ?_, ?_, ?_, ?_, ?_⟩⟩, hv, by omega⟩
 .
  have : (r : Int) = a1 - a2 * q := by omega
  rw [this, e1, e2, hsg]
  simp only [Int.natCast_add, Int.natCast_mul]
  grind
 .
  have : 1 * 1 <= q * v2 := Nat.mul_le_mul hq v21
  omega
 .
  intro U V
  rcases st with ⟨rfl, rfl, rfl, rfl, rfl, rfl, rfl⟩ | ⟨_, _, ⟨qp, rfl, rfl⟩, hE, _⟩
  .
   have := Eu.refl A B U V
   simpa [lsg] using this
  .
   have k := (hE U V).step qp (by omega) (by
    have : lsg e * (v0 * B - u0 * A) - qp * (lsg e * (u1 * A - v1 * B)) = lsg e * (((v0 + qp * v1 : Nat) : Int) * B - ((u0 + qp * u1 : Nat) : Int) * A) := by
     simp only [Int.natCast_add, Int.natCast_mul]; grind
    rw [this]; omega) (by
    have : lsg e * (v0 * B - u0 * A) - qp * (lsg e * (u1 * A - v1 * B)) = lsg e * (((v0 + qp * v1 : Nat) : Int) * B - ((u0 + qp * u1 : Nat) : Int) * A) := by
     simp only [Int.natCast_add, Int.natCast_mul]; grind
    rw [this]; omega)
   have t1 : lsg e * (u1 * A - v1 * B) = lsg (!e) * (v1 * B - u1 * A) := by rw [hsg]; grind
   have t2 : lsg e * (v0 * B - u0 * A) - qp * (lsg e * (u1 * A - v1 * B)) = lsg (!e) * (((u0 + qp * u1 : Nat) : Int) * A - ((v0 + qp * v1 : Nat) : Int) * B) := by
    rw [hsg]; simp only [Int.natCast_add, Int.natCast_mul]; grind
   have t3 : lsg e * (u1 * U - v1 * V) = lsg (!e) * (v1 * V - u1 * U) := by rw [hsg]; grind
   have t4 : lsg e * (v0 * V - u0 * U) - qp * (lsg e * (u1 * U - v1 * V)) = lsg (!e) * (((u0 + qp * u1 : Nat) : Int) * U - ((v0 + qp * v1 : Nat) : Int) * V) := by
    rw [hsg]; simp only [Int.natCast_add, Int.natCast_mul]; grind
   rw [t2, t4, t1, t3] at k
   exact k
 .
  have : lsg (!e) * (u2 * A - v2 * B) = lsg e * (v2 * B - u2 * A) := by rw [hsg]; grind
  rw [this]; exact n1
 .
  have t1 : lsg (!e) * (u2 * A - v2 * B) = lsg e * (v2 * B - u2 * A) := by rw [hsg]; grind
  have t2 : lsg (!e) * (v1 * B - u1 * A) = lsg e * (u1 * A - v1 * B) := by rw [hsg]; grind
  rw [t1, t2]; exact n2
 .
  have t1 : lsg (!e) * (u2 * A - v2 * B) = lsg e * (v2 * B - u2 * A) := by rw [hsg]; grind
  rw [t1]
  rcases st with ⟨rfl, rfl, rfl, rfl, rfl, rfl, rfl⟩ | ⟨_, _, _, _, _, _, h3, _⟩
  . simp [lsg]
  . omega
 .
  intro hv0
  have t1 : lsg (!e) * (u2 * A - v2 * B) = lsg e * (v2 * B - u2 * A) := by rw [hsg]; grind
  rw [t1]
  rcases st with ⟨rfl, rfl, rfl, rfl, rfl, rfl, rfl⟩ | ⟨_, _, _, _, _, _, h3, _⟩
  . exact absurd rfl hv0
  . omega
theorem Sim.done (h : Sim A B H bt al ga p0 p1 e a1 a2 u0 u1 u2 v0 v1 v2) (hv0 : v0 ≠ 0) :
  (∀ U V : Int, Eu A B U V (lsg e * (v0 * B - u0 * A)) (lsg e * (u1 * A - v1 * B)) (lsg e * (v0 * V - u0 * U)) (lsg e * (u1 * U - v1 * V))) /\ 0 < lsg e * (u1 * A - v1 * B) /\ lsg e * (u1 * A - v1 * B) < lsg e * (v0 * B - u0 * A) /\ lsg e * (u1 * A - v1 * B) < B := by
 rcases h.st with ⟨_, _, _, h0, _⟩ | ⟨_, _, _, hE, h1, h2, _, h3⟩
 . exact absurd h0 hv0
 . exact ⟨hE, h1, h2, h3 hv0⟩
end
structure Fin1 (A B : Nat) (e : Bool) (a b ua ub va vb : Nat) : Prop where
 a1 : 1 <= a
 ba : b <= a
 tv : a * vb + b * va = A
 tu : a * ub + b * ua = B
 eu : ∀ U V : Int, Eu A B U V a b (lsg (!e) * (ua * U - va * V)) (lsg (!e) * (vb * V - ub * U))
theorem Fin1.start {A B : Nat} (hA : 1 <= A) (hB : B <= A) : Fin1 A B true A B 1 0 0 1 :=
 ⟨hA, hB, by simp, by simp, fun U V => by have := Eu.refl A B U V; simpa [lsg] using this⟩
theorem Fin1.round {A B a b ua ub va vb : Nat} {e : Bool} (h : Fin1 A B e a b ua ub va vb) (hb : b ≠ 0) :
  Fin1 A B (!e) b (a % b) ub (ua + a / b * ub) vb (va + a / b * vb) /\ ua + a / b * ub <= B /\ va + a / b * vb <= A := by
 obtain ⟨a1, ba, tv, tu, eu⟩ := h
 have hd := Nat.div_add_mod a b
 have hr := Nat.mod_lt a (Nat.pos_of_ne_zero hb)
 generalize a / b = q at *
 generalize a % b = r at *
 have t1 : b * (va + q * vb) + r * vb = A := by rw [<- tv, <- hd]; grind
 have t2 : b * (ua + q * ub) + r * ub = B := by rw [<- tu, <- hd]; grind
 have l1 : 1 * (va + q * vb) <= b * (va + q * vb) := Nat.mul_le_mul_right _ (by omega)
 have l2 : 1 * (ua + q * ub) <= b * (ua + q * ub) := Nat.mul_le_mul_right _ (by omega)
 refine ⟨⟨by omega, by omega, t1, t2, fun U V => ?_⟩, by omega, by omega⟩
 have hr' : (a : Int) - q * b = r := by rw [<- hd]; simp; grind
 have k := (eu U V).step (q : Int) (by omega) (by rw [hr']; omega) (by rw [hr']; omega)
 rw [hr'] at k
 have e1 : lsg (!e) * (vb * V - ub * U) = lsg (!!e) * (ub * U - vb * V) := by rw [lsg_not (!e)]; grind
 have e2 : lsg (!e) * (ua * U - va * V) - q * (lsg (!e) * (vb * V - ub * U)) = lsg (!!e) * (((va + q * vb : Nat) : Int) * V - ((ua + q * ub : Nat) : Int) * U) := by
  rw [lsg_not (!e)]; simp only [Int.natCast_add, Int.natCast_mul]; grind
 rw [e1] at k
 rw [show lsg (!e) * (vb * V - ub * U) = lsg (!!e) * (ub * U - vb * V) from e1] at e2
 rw [e2] at k
 exact k
theorem GI.final {a b : Nat} {X U V : Int} (h : GI a b X 0 U V) : X = Nat.gcd a b /\ (b : Int) ∣ X - a * U := by
 refine ⟨?_, h.dX⟩
 have := h.g
 rw [Int.gcd_zero_right] at this
 have := h.x1
 omega
theorem top_div {X P h : Nat} (hP : 0 < P) (hh : h <= 64) : X * 2 ^ h / (P * B64) = X / P / 2 ^ (64 - h) := by
 have e : P * B64 = P * 2 ^ (64 - h) * 2 ^ h := by
  have : B64 = 2 ^ (64 - h) * 2 ^ h := by rw [<- Nat.pow_add, show 64 - h + h = 64 by omega]; rfl
  rw [this, Nat.mul_assoc]
 rw [e, Nat.mul_div_mul_right _ _ (Nat.two_pow_pos h), Nat.div_div_eq_div_mul]
theorem top2 {X P h : Nat} (hP : 0 < P) (hh : h <= 64) : X * 2 ^ h / (P * B64) = X / (P * B64) * 2 ^ h + X / P % B64 / 2 ^ (64 - h) := by
 rw [top_div hP hh, <- Nat.div_div_eq_div_mul X P B64]
 generalize X / P = Y
 have e : B64 = 2 ^ h * 2 ^ (64 - h) := by rw [<- Nat.pow_add, show h + (64 - h) = 64 by omega]; rfl
 have h2 := Nat.mod_add_div Y B64
 generalize Y / B64 = q at *
 generalize Y % B64 = r at *
 rw [<- h2, e, show r + 2 ^ h * 2 ^ (64 - h) * q = r + 2 ^ (64 - h) * (q * 2 ^ h) by grind, Nat.add_mul_div_left _ _ (Nat.two_pow_pos _), Nat.add_comm]
theorem top2_digs {X n h a b : Nat} (hl : (digs X).length = n + 2) (hh : h <= 64) (h1 : (digs X)[n + 1]? = some a) (h0 : (digs X)[n]? = some b) : X * 2 ^ h / B64 ^ (n + 1) = a * 2 ^ h + b / 2 ^ (64 - h) := by
 have hd := Yc X
 obtain ⟨g1, e1⟩ := List.getElem?_eq_some_iff.1 h1
 obtain ⟨g0, e0⟩ := List.getElem?_eq_some_iff.1 h0
 have v := Zq (b := B64) (digs X) n (by omega)
 rw [Zv] at v
 have l := val_lt _ (hd.take n)
 rw [List.length_take, Nat.min_eq_left (by omega)] at l
 have dd : (digs X).drop n = [b, a] := by
  rw [List.drop_eq_getElem_cons g0, e0, List.drop_eq_getElem_cons g1, e1, List.drop_eq_nil_of_le (by omega)]
 rw [dd] at v
 have vv : val B64 [b, a] = b + B64 * a := by simp [val]
 rw [vv] at v
 have bB : b < B64 := by rw [<- e0]; exact hd.get n g0
 have hP : 0 < B64 ^ n := Nat.pow_pos Zy
 have y : X / B64 ^ n = b + B64 * a := by
  rw [v, Nat.add_comm, Nat.mul_add_div hP, Nat.div_eq_of_lt l, Nat.add_zero]
 rw [Nat.pow_succ, top2 hP hh, <- Nat.div_div_eq_div_mul, y, Nat.add_mul_div_left _ _ Zy, Nat.div_eq_of_lt bB, Nat.zero_add, Nat.add_mul_mod_self_left, Nat.mod_eq_of_lt bB]
theorem top1_digs {X n h b : Nat} (hl : (digs X).length = n + 1) (hh : h <= 64) (h0 : (digs X)[n]? = some b) : X * 2 ^ h / B64 ^ (n + 1) = b / 2 ^ (64 - h) := by
 have hd := Yc X
 obtain ⟨g0, e0⟩ := List.getElem?_eq_some_iff.1 h0
 have v := Zq (b := B64) (digs X) n (by omega)
 rw [Zv] at v
 have l := val_lt _ (hd.take n)
 rw [List.length_take, Nat.min_eq_left (by omega)] at l
 have dd : (digs X).drop n = [b] := by
  rw [List.drop_eq_getElem_cons g0, e0, List.drop_eq_nil_of_le (by omega)]
 rw [dd] at v
 have vv : val B64 [b] = b := by simp [val]
 rw [vv] at v
 have hP : 0 < B64 ^ n := Nat.pow_pos Zy
 have y : X / B64 ^ n = b := by
  rw [v, Nat.add_comm, Nat.mul_add_div hP, Nat.div_eq_of_lt l, Nat.add_zero]
 rw [Nat.pow_succ, top_div hP hh, y]
theorem top0_digs {X n h : Nat} (hl : (digs X).length <= n) (hh : h < 64) : X * 2 ^ h / B64 ^ (n + 1) = 0 := by
 have l := Yf X
 have h1 : B64 ^ (digs X).length <= B64 ^ n := Nat.pow_le_pow_right Zy hl
 refine Nat.div_eq_of_lt ?_
 have h2 : 2 ^ h <= B64 := by rw [show B64 = 2 ^ 64 from rfl]; exact Nat.pow_le_pow_right (by omega) (by omega)
 have h3 : X * 2 ^ h <= X * B64 := Nat.mul_le_mul_left _ h2
 have h4 : X * B64 < B64 ^ n * B64 := Nat.mul_lt_mul_of_pos_right (by omega) Zy
 rw [Nat.pow_succ]
 omega
theorem Sim.begin {A B n h : Nat} : Sim (A : Int) (B : Int) ((2 ^ h : Nat) : Int) ((B64 ^ n : Nat) : Int) ((A * 2 ^ h % B64 ^ n : Nat) : Int) ((B * 2 ^ h % B64 ^ n : Nat) : Int) (A * 2 ^ h / B64 ^ n) (B * 2 ^ h / B64 ^ n) false (A * 2 ^ h / B64 ^ n) (B * 2 ^ h / B64 ^ n) 0 1 0 0 0 1 := by
 have hP : 0 < B64 ^ n := Nat.pow_pos Zy
 have h2 := Nat.two_pow_pos h
 have m1 := Nat.mod_lt (A * 2 ^ h) hP
 have m2 := Nat.mod_lt (B * 2 ^ h) hP
 have d1 := Nat.div_add_mod (A * 2 ^ h) (B64 ^ n)
 have d2 := Nat.div_add_mod (B * 2 ^ h) (B64 ^ n)
 refine Sim.start (Int.natCast_pos.2 h2) (Int.natCast_nonneg _) (Int.ofNat_lt.2 m1) (Int.natCast_nonneg _) (Int.ofNat_lt.2 m2) ?_ ?_
 . rw [<- Int.natCast_mul, <- Int.natCast_mul, <- Int.natCast_add, Nat.mul_comm _ (B64 ^ n), d1]
 . rw [<- Int.natCast_mul, <- Int.natCast_mul, <- Int.natCast_add, Nat.mul_comm _ (B64 ^ n), d2]
set_option linter.unusedSimpArgs false
structure SiI (w wr : World) (A B : Nat) (H bt al ga : Int) (p0 p1 : Nat) (e : Bool) (a1 a2 u0 u1 u2 v0 v1 v2 : Nat) : Prop where
 up : Upd NoF w wr
 s : Sim (A : Int) (B : Int) H bt al ga p0 p1 e a1 a2 u0 u1 u2 v0 v1 v2
 p0B : p0 < B64
 a21 : a2 <= a1
 a1B : a1 < B64
 u0B : u0 < B64
 u1B : u1 < B64
 u2B : u2 < B64
 v0B : v0 < B64
 v1B : v1 < B64
 v2B : v2 < B64
theorem SiI.next {w wr : World} {A B : Nat} {H bt al ga : Int} {p0 p1 : Nat} {e : Bool} {a1 a2 u0 u1 u2 v0 v1 v2 : Nat} (h : SiI w wr A B H bt al ga p0 p1 e a1 a2 u0 u1 u2 v0 v1 v2) (c1 : v2 <= a2) (c2 : v1 + v2 + a2 <= a1) :
  SiI w wr A B H bt al ga p0 p1 (!e) a2 (a1 % a2) u1 u2 (u1 + a1 / a2 * u2) v1 v2 (v1 + a1 / a2 * v2) := by
 obtain ⟨k, k1, k2⟩ := h.s.round c1 c2
 have h1 := h.p0B
 have h2 := h.s.v21
 exact ⟨h.up, k, h.p0B, Nat.le_of_lt (Nat.mod_lt _ (by omega)), by have := h.a21; have := h.a1B; omega, h.u1B, h.u2B, by omega, h.v1B, h.v2B, by omega⟩
theorem SiI.sum {w wr : World} {A B : Nat} {H bt al ga : Int} {p0 p1 : Nat} {e : Bool} {a1 a2 u0 u1 u2 v0 v1 v2 : Nat} (h : SiI w wr A B H bt al ga p0 p1 e a1 a2 u0 u1 u2 v0 v1 v2) (c1 : v2 <= a2) : v1 + v2 < B64 := by
 have h2 := h.s.v21
 have h3 := h.a21
 have ht := h.s.tot
 have h4 : 1 * v2 <= a1 * v2 := Nat.mul_le_mul_right _ (by omega)
 have h5 : 1 * v1 <= a2 * v1 := Nat.mul_le_mul_right _ (by omega)
 have := h.p0B
 omega
theorem results_tmp5 {fn : Func} {t u v x y : Tmp} (h : fn.results = #[.tmp t, .tmp u, .tmp v, .tmp x, .tmp y]) (tmps : Array Value) (P : Program) (w : World) :
  (results fn tmps).run P w = .ok (.tuple #[tmps.getD t undef, tmps.getD u undef, tmps.getD v undef, tmps.getD x undef, tmps.getD y undef]) w := by
 simp [results, h]
theorem or_words (x y h t : Nat) (hst : h + t = 64) (hx : x * 2 ^ h < B64) (hy : y < B64) : bits .or .u64 (IntKind.u64.wrap ((x : Int) * 2 ^ h)) ((y : Int) / 2 ^ t) = ((x * 2 ^ h + y / 2 ^ t : Nat) : Int) /\ x * 2 ^ h + y / 2 ^ t < B64 := by
 have e1 : IntKind.u64.wrap ((x : Int) * 2 ^ h) = ((shlW x h : Nat) : Int) := by
  have := shlW_form h (by omega) x
  rwa [Nat.min_eq_left (by omega)] at this
 have e2 : (y : Int) / 2 ^ t = ((shrW y t : Nat) : Int) := by
  have := shrW_form t (by omega) y
  rwa [Nat.min_eq_left (by omega)] at this
 obtain ⟨d, o1, o2, o3⟩ := shl_or x h t (shrW y t) hst (shrW_lt y h t hst hy)
 have e3 : shrW x t = 0 := by
  unfold shrW
  rw [Nat.div_eq_zero_iff]
  right
  rw [show B64 = 2 ^ t * 2 ^ h by rw [<- Nat.pow_add, Nat.add_comm, hst]; rfl] at hx
  exact Nat.lt_of_mul_lt_mul_right hx
 rw [e3, Nat.mul_zero, Nat.add_zero] at o3
 have hor : bits .or .u64 ((shlW x h : Nat) : Int) ((shrW y t : Nat) : Int) = (d : Int) := by
  rw [bits_or_u64_nat _ _ (shlW_lt _ _) (shrW_le _ _ hy), o1]
 have o4 : x * 2 ^ h + y / 2 ^ t = d := o3
 rw [e1, e2, hor, o4]
 exact ⟨rfl, o2⟩
theorem lehSim_any (ab bb : Nat) (la lb : Loc) (A B : Nat) (w : World) (hA : IntV w ab la (A : Int)) (hB : IntV w bb lb (B : Int)) (hBA : B <= A) (hm : 2 <= (digs B).length) (hl : (digs A).length <= 1000000) :
  Calls Tryz.prog 75 #[.pointer (some ⟨ab, 0, none⟩), .pointer (some ⟨bb, 0, none⟩)] w fun e w' => (∃ (H bt al ga : Int) (p0 p1 : Nat) (ev : Bool) (a1 a2 u0 u1 u2 v0 v1 v2 : Nat), SiI w w' A B H bt al ga p0 p1 ev a1 a2 u0 u1 u2 v0 v1 v2 ∧
   e = .returned (.tuple #[.int .u64 (u0 : Int), .int .u64 (u1 : Int), .int .u64 (v0 : Int), .int .u64 (v1 : Int), .bool ev])) := by
 have hmn := Zn hBA
 have ca := hA.abs.cell
 have cb := hB.abs.cell
 rw [Int.natAbs_natCast] at ca cb
 obtain ⟨k, hk⟩ : ∃ k, (digs A).length = k + 2 := ⟨(digs A).length - 2, by omega⟩
 have HA := Qq (Qj hA (Qj hB (Qj hBA (Qj hm (Qj hl (Qj hmn hk))))))
 obtain ⟨n, hn⟩ : ∃ n, (digs A).length = n := ⟨_, rfl⟩
 obtain ⟨m, hm'⟩ : ∃ m, (digs B).length = m := ⟨_, rfl⟩
 rw [hn] at ca
 rw [hm'] at cb
 clear hA hB hBA hm hl hmn hk
 have hk := HA.out.2.2.2.2.2.2
 have eA := HA.out.1.nat.addr (by rw [Int.natAbs_natCast]; omega)
 have hdA : ∃ ta tb, (digs A)[k + 1]? = some ta /\ (digs A)[k]? = some tb /\ ta < B64 /\ tb < B64 /\ ta ≠ 0 /\ w.cell? ⟨la.b, la.o + (k + 1), none⟩ = some (.int .u64 (ta : Int)) /\ w.cell? ⟨la.b, la.o + k, none⟩ = some (.int .u64 (tb : Int)) := by
  have hn0 := HA.out.1.nat
  rw [Int.natAbs_natCast] at hn0
  have g1 : k + 1 < (digs A).length := by omega
  have g0 : k < (digs A).length := by omega
  have c1 := hn0.at_.cell (k + 1) g1
  have c0 := hn0.at_.cell k g0
  refine ⟨_, _, List.getElem?_eq_getElem g1, List.getElem?_eq_getElem g0, (Yc A).get _ g1, (Yc A).get _ g0, ?_, c1, c0⟩
  intro h
  have h1 := norm_digs A
  unfold Norm at h1
  rw [List.getLast?_eq_getElem?, show (digs A).length - 1 = k + 1 by omega, List.getElem?_eq_getElem g1, h] at h1
  exact h1 rfl
 obtain ⟨ta, tb, d1, d0, tB1, tB0, t0, x1, x0⟩ := hdA
 obtain ⟨h64, hN1, hN2⟩ := nlz_spec t0 tB1
 obtain ⟨h, hh⟩ : ∃ h, nlzN ta = h := ⟨_, rfl⟩
 have HNZ := nlz_any ta
 rw [hh] at h64 hN1 hN2 HNZ
 obtain ⟨t, ht⟩ : ∃ t, h + t = 64 := ⟨64 - h, by omega⟩
 have HNZ := Qq (fun w => HNZ w tB1)
 have hn40 := HA.out.2.2.2.2.1
 obtain ⟨k1, hk1⟩ : ∃ k1, k + 1 = k1 := ⟨_, rfl⟩
 rw [hk1] at x1 d1
 rw [eA] at ca
 have p1 : wrap64 ((n : Int) - 1) = (k1 : Int) := by unfold wrap64; omega
 have p2 : wrap64 ((n : Int) - 2) = (k : Int) := by unfold wrap64; omega
 have p3 : (k1 : Int) < (n : Int) := by omega
 have p4 : (k : Int) < (n : Int) := by omega
 have p5 : (0 : Int) <= (k1 : Int) := by omega
 have p6 : (0 : Int) <= (k : Int) := by omega
 have HK := Qq (Qj hk (Qj hk1 (Qj hn hm')))
 have HD := Qq (Qj d1 (Qj d0 (Qj tB1 (Qj tB0 t0))))
 have HH := Qq (Qj h64 (Qj hN1 (Qj hN2 hh)))
 clear hk hk1 hn hm' d1 d0 tB1 tB0 t0 h64 hN1 hN2 hh hn40 eA
 go_enter Tryz.func75, Tryz.ntmps75
 go_wp2_with fail
 refine (HNZ.out _).mono ?_
 rintro e w1 ⟨rfl, rfl⟩
 have q1 : IntKind.u64.wrap (64 - (h : Int)) = (t : Int) := by rw [IntKind.wrap_u64]; omega
 have q2 := shrW_form t (by omega)
 have q3 := shlW_form h (by omega)
 go_wp2_with fail
 go_region
 obtain ⟨o1, ob⟩ := or_words ta tb h t ht (by rw [Zs]; have := HH.out.2.2.1; rw [Zs] at this; exact this) HD.out.2.2.2.1
 rw [o1]
 have e0 : A * 2 ^ h / B64 ^ (k + 1) = ta * 2 ^ h + tb / 2 ^ t := by
  have h1 := HD.out.1
  rw [<- HK.out.2.1] at h1
  rw [top2_digs HK.out.1 (by omega) h1 HD.out.2.1, show 64 - h = t by omega]
 rw [<- e0]
 rw [<- e0] at ob
 obtain ⟨p0, hp0⟩ : ∃ p0, A * 2 ^ h / B64 ^ (k + 1) = p0 := ⟨_, rfl⟩
 rw [hp0]
 rw [hp0] at ob
 obtain ⟨w2, hw2⟩ : ∃ w2, w1.drew = w2 := ⟨_, rfl⟩
 have u2 : Upd NoF w1 w2 := by rw [<- hw2]; exact (Upd.refl NoF w1).drew
 rw [hw2]
 have HP := Qq (Qj hp0 (Qj u2 ob))
 have hB2 := HA.out.2.1.upd u2 (fun _ h => h) (fun _ _ h => h)
 have cb2 := hB2.abs.cell
 rw [Int.natAbs_natCast, HK.out.2.2.2] at cb2
 have HB2 := Qq hB2
 clear o1 ob e0 hp0 hw2 u2 hB2 ca cb x1 x0
 go_upto_block 0 with fail
 go_cut [10] from 59 to 101 (fun v wx => v = .int .u64 ((B * 2 ^ h / B64 ^ (k + 1) : Nat) : Int) /\ Hid (Upd NoF w1 wx))
 case first =>
  have eB := HB2.out.nat.addr (by rw [Int.natAbs_natCast, HK.out.2.2.2]; have := HA.out.2.2.2.1; have := HK.out.2.2.2; omega)
  rw [eB] at cb2
  have hdB : ∀ i, i < (digs B).length -> ∃ d, (digs B)[i]? = some d /\ d < B64 /\ w2.cell? ⟨lb.b, lb.o + i, none⟩ = some (.int .u64 (d : Int)) := fun i hi => by
   have h0 := HB2.out.nat
   rw [Int.natAbs_natCast] at h0
   exact ⟨_, List.getElem?_eq_getElem hi, (Yc B).get _ hi, h0.at_.cell i hi⟩
  have HE := Qq (Qj hdB eB)
  clear eB hdB
  by_cases hmn : m = n
  .
   have q7 : ((n : Int) == (m : Int)) = true := beq_iff_eq.2 (by omega)
   have hmk : (digs B).length = k + 2 := by have := HK.out; omega
   have hk1 := HK.out.2.1
   obtain ⟨y1, f1, yB1, z1⟩ := HE.out.1 k1 (by omega)
   obtain ⟨y0, f0, yB0, z0⟩ := HE.out.1 k (by omega)
   have hle : y1 <= ta := by
    have a1 := HD.out.1
    have b1 := f1
    rw [<- hk1] at a1 b1
    have e1 := top2_digs (h := 0) HK.out.1 (by omega) a1 HD.out.2.1
    have e2 := top2_digs (h := 0) hmk (by omega) b1 f0
    have g1 : tb / 2 ^ (64 - 0) = 0 := Nat.div_eq_of_lt HD.out.2.2.2.1
    have g2 : y0 / 2 ^ (64 - 0) = 0 := Nat.div_eq_of_lt yB0
    rw [g1] at e1
    rw [g2] at e2
    simp only [Nat.pow_zero, Nat.mul_one, Nat.add_zero] at e1 e2
    rw [<- e1, <- e2]
    exact Nat.div_le_div_right HA.out.2.2.1
   have hxB : y1 * 2 ^ h < B64 := Nat.lt_of_le_of_lt (Nat.mul_le_mul_right _ hle) HH.out.2.2.1
   obtain ⟨o1, _⟩ := or_words y1 y0 h t ht hxB yB0
   have e0 : B * 2 ^ h / B64 ^ (k + 1) = y1 * 2 ^ h + y0 / 2 ^ t := by
    have b1 := f1
    rw [<- hk1] at b1
    rw [top2_digs hmk (by omega) b1 f0, show 64 - h = t by omega]
   have HO := Qq (Qj o1 e0)
   have p7 : (k1 : Int) < (m : Int) := by omega
   have p8 : (k : Int) < (m : Int) := by omega
   clear hmn hmk hk1 hle hxB o1 e0 f1 f0 yB1 yB0
   go_wp2_with fail
   go_region
   (try go_wp2_with fail)
   go_meet
   case rel => exact ⟨by rw [HO.out.1, HO.out.2], (Upd.refl NoF w2).drew |> HP.out.2.1.trans⟩
  .
   have q7 : ((n : Int) == (m : Int)) = false := beq_eq_false_iff_ne.2 (by omega)
   obtain ⟨m1, hm1⟩ : ∃ m1, m + 1 = m1 := ⟨_, rfl⟩
   have P9 := Qq (show wrap64 ((m : Int) + 1) = (m1 : Int) by have := HK.out; have := HA.out.2.2.2.2; unfold wrap64; omega)
   by_cases hnm : n = m1
   .
    have q8 : ((n : Int) == (m1 : Int)) = true := beq_iff_eq.2 (by omega)
    have hmk : (digs B).length = k + 1 := by have := HK.out; omega
    obtain ⟨y0, f0, yB0, z0⟩ := HE.out.1 k (by omega)
    have e2 : (y0 : Int) / 2 ^ t = ((y0 / 2 ^ t : Nat) : Int) := by norm_cast
    have e0 : B * 2 ^ h / B64 ^ (k + 1) = y0 / 2 ^ t := by
     rw [top1_digs hmk (by omega) f0, show 64 - h = t by omega]
    have HO := Qq (Qj e2 e0)
    have p8 : (k : Int) < (m : Int) := by have := HK.out; omega
    clear hmn hmk hnm hm1 e2 e0 f0 yB0
    have p9 := P9.out
    go_wp2_with fail
    go_meet
    case rel => exact ⟨by rw [HO.out.1, HO.out.2], HP.out.2.1⟩
   .
    have q8 : ((n : Int) == (m1 : Int)) = false := beq_eq_false_iff_ne.2 (by omega)
    have e0 : B * 2 ^ h / B64 ^ (k + 1) = 0 := top0_digs (by have := HK.out; have := HA.out.2.2.2.2.2; omega) HH.out.1
    have HO := Qq e0
    clear hmn hnm hm1 e0
    have p9 := P9.out
    go_wp2_with fail
    go_meet
    case rel => exact ⟨by rw [HO.out]; rfl, HP.out.2.1⟩
 case rest =>
  obtain ⟨rfl, hU⟩ := hcut
  obtain ⟨p1', hp1⟩ : ∃ p1', B * 2 ^ h / B64 ^ (k + 1) = p1' := ⟨_, rfl⟩
  rw [hp1]
  have hpp : p1' <= p0 := by
   rw [<- hp1, <- HP.out.1]
   exact Nat.div_le_div_right (Nat.mul_le_mul_right _ HA.out.2.2.1)
  have hpB := HP.out.2.2
  have hs := Sim.begin (A := A) (B := B) (n := k + 1) (h := h)
  rw [HP.out.1, hp1] at hs
  have h0B : 0 < B64 := Zy
  have h1B : 1 < B64 := by rw [Zs]; omega
  have HI0 : Hid (SiI w1 wc A B _ _ _ _ p0 p1' false p0 p1' 0 1 0 0 0 1) := ⟨hU, hs, hpB, hpp, hpB, h0B, h1B, h0B, h0B, h0B, h1B⟩
  obtain ⟨H', hH'⟩ : ∃ H' : Int, ((2 ^ h : Nat) : Int) = H' := ⟨_, rfl⟩
  obtain ⟨bt, hbt⟩ : ∃ bt : Int, ((B64 ^ (k + 1) : Nat) : Int) = bt := ⟨_, rfl⟩
  obtain ⟨al, hal⟩ : ∃ al : Int, ((A * 2 ^ h % B64 ^ (k + 1) : Nat) : Int) = al := ⟨_, rfl⟩
  obtain ⟨ga, hga⟩ : ∃ ga : Int, ((B * 2 ^ h % B64 ^ (k + 1) : Nat) : Int) = ga := ⟨_, rfl⟩
  rw [hH', hbt, hal, hga] at HI0
  clear hs hpp hpB hp1 h0B h1B hU hH' hbt hal hga p1 p2 p3 p4 p5 p6 q1 q2 q3
  go_wp2_with fail
  go_loopw [4, 5, 6, 7, 8, 9, 10, 11, 12] (fun x4 x5 x6 x7 x8 x9 x10 x11 x12 wr => ∃ (e : Bool) (a1 a2 u0 u1 u2 v0 v1 v2 : Nat), x4 = .int .u64 (u0 : Int) /\ x5 = .int .u64 (u1 : Int) /\ x6 = .int .u64 (v0 : Int) /\ x7 = .int .u64 (v1 : Int) /\ x8 = .bool e /\ x9 = .int .u64 (a1 : Int) /\ x10 = .int .u64 (a2 : Int) /\ x11 = .int .u64 (u2 : Int) /\ x12 = .int .u64 (v2 : Int) /\ Hid (SiI w1 wr A B H' bt al ga p0 p1' e a1 a2 u0 u1 u2 v0 v1 v2)) (fun _ _ _ _ _ _ x10 _ _ _ => (intOf x10).toNat)
  case atStart => exact ⟨false, p0, p1', 0, 1, 0, 0, 0, 1, rfl, rfl, rfl, rfl, rfl, rfl, rfl, rfl, rfl, HI0⟩
  case round =>
   obtain ⟨e, a1, a2, u0, u1, u2, v0, v1, v2, rfl, rfl, rfl, rfl, rfl, rfl, rfl, rfl, rfl, HI⟩ := hrel
   by_cases c1 : v2 <= a2
   .
    have r1 : decide ((v2 : Int) <= (a2 : Int)) = true := decide_eq_true (by omega)
    have r1n : decide (v2 <= a2) = true := decide_eq_true c1
    have hsm := HI.out.sum c1
    have h21 := HI.out.a21
    have h1B := HI.out.a1B
    have hv21 := HI.out.s.v21
    obtain ⟨d, hd⟩ : ∃ d, a1 - a2 = d := ⟨_, rfl⟩
    obtain ⟨sm, hs⟩ : ∃ sm, v1 + v2 = sm := ⟨_, rfl⟩
    have W1 := Qq (show IntKind.u64.wrap ((a1 : Int) - (a2 : Int)) = (d : Int) by rw [IntKind.wrap_u64]; rw [Zs] at h1B; omega)
    have W2 := Qq (show IntKind.u64.wrap ((v1 : Int) + (v2 : Int)) = (sm : Int) by rw [IntKind.wrap_u64]; rw [Zs] at hsm; omega)
    by_cases c2 : sm <= d
    .
     have r2 : decide ((sm : Int) <= (d : Int)) = true := decide_eq_true (by omega)
     have r2n : decide (sm <= d) = true := decide_eq_true c2
     have hnx := HI.out.next c1 (by omega)
     have z2 : ((a2 : Int) == 0) = false := beq_eq_false_iff_ne.2 (by omega)
     have z4 : a2 ≠ 0 := by omega
     have z5 : (a2 : Int) ≠ 0 := by omega
     obtain ⟨q, hq⟩ : ∃ q, a1 / a2 = q := ⟨_, rfl⟩
     obtain ⟨r, hr⟩ : ∃ r, a1 % a2 = r := ⟨_, rfl⟩
     obtain ⟨m1, hm1⟩ : ∃ m1, q * u2 = m1 := ⟨_, rfl⟩
     obtain ⟨m2, hm2⟩ : ∃ m2, q * v2 = m2 := ⟨_, rfl⟩
     rw [hq, hr, hm1, hm2] at hnx
     have b1 := hnx.u2B
     have b2 := hnx.v2B
     obtain ⟨u3, hu3⟩ : ∃ u3, u1 + m1 = u3 := ⟨_, rfl⟩
     obtain ⟨v3, hv3⟩ : ∃ v3, v1 + m2 = v3 := ⟨_, rfl⟩
     rw [hu3] at b1
     rw [hv3] at b2
     rw [hu3, hv3] at hnx
     rw [Zs] at b1 b2
     have W3 := Qq (show IntKind.u64.wrap ((q : Int) * (u2 : Int)) = (m1 : Int) by rw [<- Int.natCast_mul, hm1, IntKind.wrap_u64]; omega)
     have W4 := Qq (show IntKind.u64.wrap ((q : Int) * (v2 : Int)) = (m2 : Int) by rw [<- Int.natCast_mul, hm2, IntKind.wrap_u64]; omega)
     have W5 := Qq (show IntKind.u64.wrap ((u1 : Int) + (m1 : Int)) = (u3 : Int) by rw [<- Int.natCast_add, hu3, IntKind.wrap_u64]; omega)
     have W6 := Qq (show IntKind.u64.wrap ((v1 : Int) + (m2 : Int)) = (v3 : Int) by rw [<- Int.natCast_add, hv3, IntKind.wrap_u64]; omega)
     have t1 : Int.tdiv (a1 : Int) (a2 : Int) = (q : Int) := by rw [<- hq]; rfl
     have t2 : Int.tmod (a1 : Int) (a2 : Int) = (r : Int) := by rw [<- hr]; rfl
     have t3 : (a1 : Int) % (a2 : Int) = (r : Int) := by rw [<- hr]; rfl
     have w8 : IntKind.u64.wrap (r : Int) = (r : Int) := by have := Nat.mod_le a1 a2; rw [IntKind.wrap_u64]; rw [Zs] at h1B; omega
     have W7 := Qq (show IntKind.u64.wrap (q : Int) = (q : Int) by have := Nat.div_le_self a1 a2; rw [IntKind.wrap_u64]; rw [Zs] at h1B; omega)
     have HNX := Qq (Qj hnx (show r < a2 by rw [<- hr]; exact Nat.mod_lt _ (by omega)))
     clear hnx hq hr hm1 hm2 hu3 hv3 b1 b2 hd hs c1 c2 hsm h21 h1B hv21
     have w1' := W1.out
     have w2' := W2.out
     have w3' := W3.out
     have w4' := W4.out
     have w5' := W5.out
     have w6' := W6.out
     have w7' := W7.out
     go_wp2_with fail
     go_region
     all_goals
      obtain ⟨wd, hwd⟩ : ∃ wd, wr.drew = wd := ⟨_, rfl⟩
      have ud : Upd NoF wr wd := by rw [<- hwd]; exact (Upd.refl NoF wr).drew
      have HU := Qq ud
      rw [hwd]
      clear hwd ud
      go_wp2_with fail
      go_roundw
      case rel => exact ⟨!e, a2, r, u1, u2, u3, v1, v2, v3, rfl, rfl, rfl, rfl, rfl, rfl, rfl, rfl, rfl, ⟨HNX.out.1.up.trans HU.out, HNX.out.1.s, HNX.out.1.p0B, HNX.out.1.a21, HNX.out.1.a1B, HNX.out.1.u0B, HNX.out.1.u1B, HNX.out.1.u2B, HNX.out.1.v0B, HNX.out.1.v1B, HNX.out.1.v2B⟩⟩
      case measure => have := HNX.out.2; simp [intOf]; omega
    .
     have r2 : decide ((sm : Int) <= (d : Int)) = false := decide_eq_false (by omega)
     have r2n : decide (sm <= d) = false := decide_eq_false c2
     clear hd hs c1 c2 hsm h21 h1B hv21
     have w1' := W1.out
     have w2' := W2.out
     go_wp2_with fail
     (try simp only [Exit.inBlock, Exit.then])
     refine bodyPost_ret (results_tmp5 rfl _ _ _) rfl ?_
     exact ⟨_, _, _, _, _, _, _, _, _, _, _, _, _, _, _, HI.out, rfl⟩
   .
    have r1 : decide ((v2 : Int) <= (a2 : Int)) = false := decide_eq_false (by omega)
    have r1n : decide (v2 <= a2) = false := decide_eq_false c1
    clear c1
    go_wp2_with fail
    (try simp only [Exit.inBlock, Exit.then])
    refine bodyPost_ret (results_tmp5 rfl _ _ _) rfl ?_
    exact ⟨_, _, _, _, _, _, _, _, _, _, _, _, _, _, _, HI.out, rfl⟩
theorem digs_mulw_len {a b : Nat} (hb : b < B64) : (digs (a * b)).length <= (digs a).length + 1 := by
 refine digs_len_of_lt ?_
 rw [Nat.pow_succ]
 exact Nat.mul_lt_mul'' (Yf a) hb
def wmul (neg : Bool) (X : Int) (y : Nat) : Int := if neg then -(X * y) else X * y
theorem wmul_abs (neg : Bool) (X : Int) (y : Nat) : (wmul neg X y).natAbs = X.natAbs * y := by
 unfold wmul
 cases neg
 . rw [if_neg (by simp), Int.natAbs_mul, Int.natAbs_natCast]
 . rw [if_pos rfl, Int.natAbs_neg, Int.natAbs_mul, Int.natAbs_natCast]
theorem wmul_sg {s neg : Bool} {X : Int} {y : Nat} (h : SgnOk s X) : SgnOk (s != neg) (wmul neg X y) := by
 have hy : (0 : Int) <= (y : Int) := Int.natCast_nonneg _
 unfold wmul
 cases s
 .
  have h1 := Int.mul_nonneg (h.2 rfl) hy
  cases neg
  . exact ⟨fun h => (by cases h), fun _ => by simpa using h1⟩
  . exact ⟨fun _ => (by simp; omega), fun h => (by cases h)⟩
 .
  have h1 := Int.mul_nonneg (show 0 <= -X by have := h.1 rfl; omega) hy
  rw [Int.neg_mul] at h1
  cases neg
  . exact ⟨fun _ => (by simp; omega), fun h => (by cases h)⟩
  . exact ⟨fun h => (by cases h), fun _ => by simpa using h1⟩
theorem mulW_D (zb xb : Nat) (z x : Loc) (sz : Bool) (nz : Nat) (sx neg : Bool) (X : Int) (y : Nat) (w : World) (hz : IntD w zb z sz nz) (hx : IntS w xb x sx X) (rx : Rel z x) (hm : (digs X.natAbs).length + 1 <= 1099511627776) (hy : y < B64) :
  Calls Tryz.prog 78 #[.pointer (some ⟨zb, 0, none⟩), .pointer (some ⟨xb, 0, none⟩), .bool neg, .int .u64 (y : Int)] w fun e w' => e = .returned (.tuple #[]) /\ PutOut w zb z (sx != neg, wmul neg X y) w' := by
 have c1 := hz.neg.cell
 have c2 := hz.neg.frozen
 have c3 := hz.abs.cell
 have c4 := hz.abs.frozen
 have c5 := hx.neg.cell
 have c6 := hx.abs.cell
 have HS := Qq (fun (w' : World) (u : Upd NoF w w') => (mulAddWW_any z x nz X.natAbs y 0 w' (hz.ok.upd u) (hx.nat.upd0 u) hm hy Zy (fun h => rx.up hx.nat.le (by omega))).mono (fun _ _ h => Ya.since u h))
 have HZ := Qq (Qj hz (Qj hx.neg hx.sg))
 clear hz hx rx hm hy
 go_enter Tryz.func78, Tryz.ntmps78
 go_wp2_with fail
 refine Zw 1 10 (by kernel_rfl) (by kernel_rfl) ?_
 simp only [List.take_succ_cons, List.take_zero, List.drop_succ_cons, List.drop_zero]
 repeat (refine Zz ?_ (fun _ _ _ h => h) (by rfl) (by intro _; go_simp; with_reducible rfl) ?_; (try simp only [Act.put, List.setIfInBounds_toArray, List.set_cons_zero, List.set_cons_succ]))
 refine Yd ?_
 repeat still_step
 refine wpStill_nil ?_
 go_wp2_with fail
 refine (HS.out _ ((Upd.refl NoF w).drew)).mono ?_
 rintro e w1 ⟨r, rfl, h1, h2, h3, h4⟩
 have d1 := (HZ.out.1.keep HZ.out.1.ok h3).abs.cell
 have d2 := (HZ.out.1.keep HZ.out.1.ok h3).abs.frozen
 have d3 := (HZ.out.1.keep HZ.out.1.ok h3).neg.cell
 have d4 := (HZ.out.1.keep HZ.out.1.ok h3).neg.frozen
 have dx := HZ.out.2.1.upd h3 (ZF.no HZ.out.1.ok HZ.out.2.1 (by decide) _ _)
 have d5 := dx.cell
 have hm := PutOut.made (v := (sx != neg, wmul neg X y)) HZ.out.1 (h1.imp id Or.inl) h3 h4 (wmul_abs neg X y) (wmul_sg HZ.out.2.2)
 have HM := Qq hm
 clear h1 h2 h3 h4 hm c1 c2 c3 c4 c5 c6 dx
 go_wp2
 go_end0
 exact ⟨rfl, HM.out⟩
theorem mulW_S (w0 w : World) (L : List (Nat × Loc × SV)) (i j zb xb : Nat) (z x : Loc) (Z X : SV) (neg : Bool) (y : Nat) (h : Zl w0 w L) (hi : L[i]? = some (zb, z, Z)) (hj : L[j]? = some (xb, x, X)) (hm : (digs X.2.natAbs).length + 1 <= 1099511627776) (hy : y < B64) :
  Calls Tryz.prog 78 #[.pointer (some ⟨zb, 0, none⟩), .pointer (some ⟨xb, 0, none⟩), .bool neg, .int .u64 (y : Int)] w fun e w' => e = .returned (.tuple #[]) /\ ∃ r : Loc, Zl w0 w' (L.set i (zb, r, ((X.1 != neg, wmul neg X.2 y) : SV))) :=
 (mulW_D zb xb z x _ _ X.1 neg X.2 y w (h.at_ _ _ _ _ hi).dest (h.at_ _ _ _ _ hj).s (h.rel hi hj) hm hy).mono (fun _ _ ⟨h1, h2⟩ => ⟨h1, h.out hi h2⟩)
theorem wmul_sum (e : Bool) (X Y : Int) (u v : Nat) : wmul (!e) X u + wmul e Y v = lsg e * (v * Y - u * X) /\ wmul (!e) Y v + wmul e X u = lsg e * (u * X - v * Y) := by
 unfold wmul lsg
 cases e <;> simp <;> constructor <;> grind
theorem lehU_S (w0 w : World) (ab bb qb rb : Nat) (la lb lq lr : Loc) (A B q r : SV) (R : List (Nat × Loc × SV)) (u0 u1 v0 v1 : Nat) (ev : Bool) (h : Zl w0 w ((ab, la, A) :: (bb, lb, B) :: (qb, lq, q) :: (rb, lr, r) :: R))
  (hu0 : u0 < B64) (hu1 : u1 < B64) (hv0 : v0 < B64) (hv1 : v1 < B64) (hA : (digs A.2.natAbs).length <= 1000000) (hB : (digs B.2.natAbs).length <= 1000000) :
  Calls Tryz.prog 76 #[.pointer (some ⟨ab, 0, none⟩), .pointer (some ⟨bb, 0, none⟩), .pointer (some ⟨qb, 0, none⟩), .pointer (some ⟨rb, 0, none⟩), .int .u64 (u0 : Int), .int .u64 (u1 : Int), .int .u64 (v0 : Int), .int .u64 (v1 : Int), .bool ev] w fun e w' =>
   e = .returned (.tuple #[]) /\ ∃ (la' lb' lq' lr' : Loc) (q' r' : SV), Zl w0 w' ((ab, la', sv (lsg ev * (v0 * B.2 - u0 * A.2))) :: (bb, lb', sv (lsg ev * (u1 * A.2 - v1 * B.2))) :: (qb, lq', q') :: (rb, lr', r') :: R) := by
 have H := Qq h
 have HU := Qq (Qj hu0 (Qj hu1 (Qj hv0 (Qj hv1 (Qj hA hB)))))
 have k1 : ∀ (neg : Bool) (X : Int) (u : Nat), u < B64 -> (digs X.natAbs).length <= 1000000 -> (digs (wmul neg X u).natAbs).length + 1 <= 1099511627776 := fun neg X u hu hX => by
  rw [wmul_abs]
  have := digs_mulw_len (a := X.natAbs) hu
  omega
 have HK := Qq k1
 clear h hu0 hu1 hv0 hv1 hA hB k1
 go_enter Tryz.func76, Tryz.ntmps76
 go_wp2_with fail
 refine (mulW_S w0 w _ 2 1 qb bb lq lb q B ev v0 H.out rfl rfl (by have := HU.out.2.2.2.2.2; omega) HU.out.2.2.1).mono ?_
 rintro e w1 ⟨rfl, l1, h1⟩
 have H1 : Hid (Zl w0 w1 ((ab, la, A) :: (bb, lb, B) :: (qb, l1, (B.1 != ev, wmul ev B.2 v0)) :: (rb, lr, r) :: R)) := h1
 clear h1 H
 go_wp2_with fail
 refine (mulW_S w0 w1 _ 3 0 rb ab lr la r A ev u1 H1.out rfl rfl (by have := HU.out.2.2.2.2.1; omega) HU.out.2.1).mono ?_
 rintro e w2 ⟨rfl, l2, h2⟩
 have H2 : Hid (Zl w0 w2 ((ab, la, A) :: (bb, lb, B) :: (qb, l1, (B.1 != ev, wmul ev B.2 v0)) :: (rb, l2, (A.1 != ev, wmul ev A.2 u1)) :: R)) := h2
 clear h2 H1
 go_wp2_with fail
 refine (mulW_S w0 w2 _ 0 0 ab ab la la A A (!ev) u0 H2.out rfl rfl (by have := HU.out.2.2.2.2.1; omega) HU.out.1).mono ?_
 rintro e w3 ⟨rfl, l3, h3⟩
 have H3 : Hid (Zl w0 w3 ((ab, l3, (A.1 != !ev, wmul (!ev) A.2 u0)) :: (bb, lb, B) :: (qb, l1, (B.1 != ev, wmul ev B.2 v0)) :: (rb, l2, (A.1 != ev, wmul ev A.2 u1)) :: R)) := h3
 clear h3 H2
 go_wp2_with fail
 refine (mulW_S w0 w3 _ 1 1 bb bb lb lb B B (!ev) v1 H3.out rfl rfl (by have := HU.out.2.2.2.2.2; omega) HU.out.2.2.2.1).mono ?_
 rintro e w4 ⟨rfl, l4, h4⟩
 have H4 : Hid (Zl w0 w4 ((ab, l3, (A.1 != !ev, wmul (!ev) A.2 u0)) :: (bb, l4, (B.1 != !ev, wmul (!ev) B.2 v1)) :: (qb, l1, (B.1 != ev, wmul ev B.2 v0)) :: (rb, l2, (A.1 != ev, wmul ev A.2 u1)) :: R)) := h4
 clear h4 H3
 go_wp2_with fail
 refine (Add_S w0 w4 _ 0 2 ab qb l3 l1 _ _ H4.out rfl rfl (HK.out _ _ _ HU.out.1 HU.out.2.2.2.2.1) (HK.out _ _ _ HU.out.2.2.1 HU.out.2.2.2.2.2)).mono ?_
 rintro e w5 ⟨rfl, l5, h5⟩
 have h5' : Zl w0 w5 ((ab, l5, sv (wmul (!ev) A.2 u0 + wmul ev B.2 v0)) :: (bb, l4, (B.1 != !ev, wmul (!ev) B.2 v1)) :: (qb, l1, (B.1 != ev, wmul ev B.2 v0)) :: (rb, l2, (A.1 != ev, wmul ev A.2 u1)) :: R) := h5
 rw [(wmul_sum ev A.2 B.2 u0 v0).1] at h5'
 have H5 := Qq h5'
 clear h5 h5' H4
 go_wp2_with fail
 refine (Add_S w0 w5 _ 1 3 bb rb l4 l2 _ _ H5.out rfl rfl (HK.out _ _ _ HU.out.2.2.2.1 HU.out.2.2.2.2.2) (HK.out _ _ _ HU.out.2.1 HU.out.2.2.2.2.1)).mono ?_
 rintro e w6 ⟨rfl, l6, h6⟩
 have h6' : Zl w0 w6 ((ab, l5, sv (lsg ev * (v0 * B.2 - u0 * A.2))) :: (bb, l6, sv (wmul (!ev) B.2 v1 + wmul ev A.2 u1)) :: (qb, l1, (B.1 != ev, wmul ev B.2 v0)) :: (rb, l2, (A.1 != ev, wmul ev A.2 u1)) :: R) := h6
 rw [(wmul_sum ev A.2 B.2 u1 v1).2] at h6'
 have H6 := Qq h6'
 clear h6 h6' H5
 go_wp2_with fail
 go_end0
 exact ⟨rfl, l5, l6, l1, l2, _, _, H6.out⟩
theorem GI.start1 {a b : Nat} (hb : 0 < b) (h : b <= a) : GI a b a b 1 0 :=
 ⟨by omega, by omega, by omega, by simp [Int.gcd], by simp, by simp, Or.inl ⟨by omega, by omega, by simp⟩, by omega, by omega⟩
theorem GI.start2 {a b : Nat} (ha : 0 < a) (h : a < b) : GI a b b a 0 1 :=
 ⟨by omega, by omega, by omega, by simp [Int.gcd, Nat.gcd_comm], by simp, by simp, Or.inr ⟨by omega, by omega, by simp⟩, by omega, by omega⟩
theorem gcd_cof {a b : Int} {G U : Int} (hb : b ≠ 0) (h : (b.natAbs : Int) ∣ G - (a.natAbs : Int) * U) : (G - (a.natAbs : Int) * U).tdiv b * b = G - (a.natAbs : Int) * U /\ (G - (a.natAbs : Int) * U) % b = 0 /\ (G - (a.natAbs : Int) * U).tmod b = 0 := by
 have hd : b ∣ G - (a.natAbs : Int) * U := Int.natAbs_dvd.1 h
 exact ⟨Int.tdiv_mul_cancel hd, Int.emod_eq_zero_of_dvd hd, Int.tmod_eq_zero_of_dvd hd⟩
theorem gcd_sum {a b G U : Int} (hb : b ≠ 0) (h : (b.natAbs : Int) ∣ G - (a.natAbs : Int) * U) : a * (if a < 0 then -U else U) + b * (G - (a.natAbs : Int) * U).tdiv b = G := by
 rw [Int.mul_comm b, (gcd_cof hb h).1]
 by_cases h0 : a < 0
 . rw [if_pos h0, show (a.natAbs : Int) = -a by omega]; grind
 . rw [if_neg h0, show (a.natAbs : Int) = a by omega]; omega
theorem GI.end_ {a b : Nat} {X U V : Int} (h : GI a b X 0 U V) : X = Nat.gcd a b /\ (b : Int) ∣ (Nat.gcd a b : Int) - a * U := by
 obtain ⟨h1, h2⟩ := h.final
 exact ⟨h1, h1 ▸ h2⟩
def eperm : Nat -> Nat
 | 0 => 1 | 1 => 5 | 2 => 3 | 3 => 2 | 4 => 4 | 5 => 0 | n + 6 => n + 6
def eperm' : Nat -> Nat
 | 0 => 5 | 1 => 0 | 2 => 3 | 3 => 2 | 4 => 4 | 5 => 1 | n + 6 => n + 6
theorem eperm_inv : ∀ n, eperm' (eperm n) = n
 | 0 => rfl | 1 => rfl | 2 => rfl | 3 => rfl | 4 => rfl | 5 => rfl | _ + 6 => rfl
theorem Zl.eperm {w0 w : World} {a b c d e f : Nat × Loc × SV} {R : List (Nat × Loc × SV)} (h : Zl w0 w (a :: b :: c :: d :: e :: f :: R)) : Zl w0 w (b :: f :: d :: c :: e :: a :: R) :=
 h.sub Go.Proofs.YthkklkjldpcbkaaGreatDoor.eperm (fun i j _ _ h => by have := congrArg eperm' h; rwa [eperm_inv, eperm_inv] at this) (fun i _ => match i with
  | 0 => rfl | 1 => rfl | 2 => rfl | 3 => rfl | 4 => rfl | 5 => rfl | _ + 6 => rfl)
def swap4 : Nat -> Nat
 | 0 => 1 | 1 => 0 | 2 => 3 | 3 => 2 | n + 4 => n + 4
theorem swap4_inv : ∀ n, swap4 (swap4 n) = n
 | 0 => rfl | 1 => rfl | 2 => rfl | 3 => rfl | _ + 4 => rfl
theorem Zl.swap4 {w0 w : World} {a b c d : Nat × Loc × SV} {R : List (Nat × Loc × SV)} (h : Zl w0 w (a :: b :: c :: d :: R)) : Zl w0 w (b :: a :: d :: c :: R) :=
 h.sub Go.Proofs.YthkklkjldpcbkaaGreatDoor.swap4 (fun i j _ _ h => by have := congrArg Go.Proofs.YthkklkjldpcbkaaGreatDoor.swap4 h; rwa [swap4_inv, swap4_inv] at this) (fun i _ => match i with
  | 0 => rfl | 1 => rfl | 2 => rfl | 3 => rfl | _ + 4 => rfl)
def cperm : Nat -> Nat
 | 0 => 2 | 1 => 3 | 2 => 4 | 3 => 5 | 4 => 0 | 5 => 1 | n + 6 => n + 6
def cperm' : Nat -> Nat
 | 0 => 4 | 1 => 5 | 2 => 0 | 3 => 1 | 4 => 2 | 5 => 3 | n + 6 => n + 6
theorem cperm_inv : ∀ n, cperm' (cperm n) = n
 | 0 => rfl | 1 => rfl | 2 => rfl | 3 => rfl | 4 => rfl | 5 => rfl | _ + 6 => rfl
theorem cperm_inv' : ∀ n, cperm (cperm' n) = n
 | 0 => rfl | 1 => rfl | 2 => rfl | 3 => rfl | 4 => rfl | 5 => rfl | _ + 6 => rfl
theorem Zl.cperm {w0 w : World} {a b c d e f : Nat × Loc × SV} {R : List (Nat × Loc × SV)} (h : Zl w0 w (a :: b :: c :: d :: e :: f :: R)) : Zl w0 w (c :: d :: e :: f :: a :: b :: R) :=
 h.sub Go.Proofs.YthkklkjldpcbkaaGreatDoor.cperm (fun i j _ _ h => by have := congrArg cperm' h; rwa [cperm_inv, cperm_inv] at this) (fun i _ => match i with
  | 0 => rfl | 1 => rfl | 2 => rfl | 3 => rfl | 4 => rfl | 5 => rfl | _ + 6 => rfl)
theorem Zl.cperm' {w0 w : World} {a b c d e f : Nat × Loc × SV} {R : List (Nat × Loc × SV)} (h : Zl w0 w (c :: d :: e :: f :: a :: b :: R)) : Zl w0 w (a :: b :: c :: d :: e :: f :: R) :=
 h.sub Go.Proofs.YthkklkjldpcbkaaGreatDoor.cperm' (fun i j _ _ h => by have := congrArg Go.Proofs.YthkklkjldpcbkaaGreatDoor.cperm h; rwa [cperm_inv', cperm_inv'] at this) (fun i _ => match i with
  | 0 => rfl | 1 => rfl | 2 => rfl | 3 => rfl | 4 => rfl | 5 => rfl | _ + 6 => rfl)
def dperm : Nat -> Nat
 | 0 => 0 | 1 => 1 | 2 => 4 | 3 => 5 | 4 => 2 | 5 => 3 | n + 6 => n + 6
theorem dperm_inv : ∀ n, dperm (dperm n) = n
 | 0 => rfl | 1 => rfl | 2 => rfl | 3 => rfl | 4 => rfl | 5 => rfl | _ + 6 => rfl
theorem Zl.dperm {w0 w : World} {a b c d e f : Nat × Loc × SV} {R : List (Nat × Loc × SV)} (h : Zl w0 w (a :: b :: c :: d :: e :: f :: R)) : Zl w0 w (a :: b :: e :: f :: c :: d :: R) :=
 h.sub Go.Proofs.YthkklkjldpcbkaaGreatDoor.dperm (fun i j _ _ h => by have := congrArg Go.Proofs.YthkklkjldpcbkaaGreatDoor.dperm h; rwa [dperm_inv, dperm_inv] at this) (fun i _ => match i with
  | 0 => rfl | 1 => rfl | 2 => rfl | 3 => rfl | 4 => rfl | 5 => rfl | _ + 6 => rfl)
theorem digs_mul_le (a b : Nat) : (digs (a * b)).length <= (digs a).length + (digs b).length := by
 refine digs_len_of_lt ?_
 rw [Nat.pow_add]
 exact Nat.mul_lt_mul'' (Yf a) (Yf b)
theorem Mul_oM (T : Int) (zb xb yb : Nat) (z x y : Loc) (Z X Y : Int) (w : World) (hz : IntV w zb z Z) (hx : IntV w xb x X) (hy : IntV w yb y Y) (rx : Rel z x) (ry : Rel z y) (hne : xb ≠ yb) (hT : Thr w T) (hMul : MulSpec0 T (digs X.natAbs).length (digs Y.natAbs).length) (hG : G ((digs X.natAbs).length + (digs Y.natAbs).length) <= 1099511627776) :
  Calls Tryz.prog 38 #[.pointer (some ⟨zb, 0, none⟩), .pointer (some ⟨xb, 0, none⟩), .pointer (some ⟨yb, 0, none⟩)] w fun e w' => e = .returned (.pointer (some ⟨zb, 0, none⟩)) /\ IntOut w zb z (X * Y) w' :=
 (Int_Mul_M T zb xb yb z x y _ _ X Y w hz.dest hx hy hne rx ry hT hMul hG).mono (fun _ _ ⟨h1, h2⟩ => ⟨h1, h2.out⟩)
theorem eucl_S (T TK : Int) (w0 w : World) (pA pB pU pV pq pr : Nat) (lA lB lU lV lq lr : Loc) (X Y U V : Int) (q r : SV) (R : List (Nat × Loc × SV)) (h : Zl w0 w ((pA, lA, sv X) :: (pB, lB, sv Y) :: (pU, lU, sv U) :: (pV, lV, sv V) :: (pq, lq, q) :: (pr, lr, r) :: R))
  (hT : DThr w0 T) (hK : Thr w0 TK) (hMul : MulSpec0 TK (digs (X.tdiv Y).natAbs).length (digs V.natAbs).length) (HD : DivAtT T X.natAbs Y.natAbs) (hX : (digs X.natAbs).length <= 1000) (hU : (digs U.natAbs).length <= 1000) (hV : (digs V.natAbs).length <= 1000) :
  Calls Tryz.prog 77 #[.pointer (some ⟨pA, 0, none⟩), .pointer (some ⟨pB, 0, none⟩), .pointer (some ⟨pU, 0, none⟩), .pointer (some ⟨pV, 0, none⟩), .pointer (some ⟨pq, 0, none⟩), .pointer (some ⟨pr, 0, none⟩), .bool true] w fun e w' =>
   e = .returned (.tuple #[.pointer (some ⟨pB, 0, none⟩), .pointer (some ⟨pr, 0, none⟩), .pointer (some ⟨pA, 0, none⟩), .pointer (some ⟨pV, 0, none⟩), .pointer (some ⟨pU, 0, none⟩)]) ∧
   ∃ (lr' lU' lq' : Loc), Zl w0 w' ((pB, lB, sv Y) :: (pr, lr', sv (X.tmod Y)) :: (pV, lV, sv V) :: (pU, lU', sv (U - X.tdiv Y * V)) :: (pq, lq', sv (X.tdiv Y * V)) :: (pA, lA, sv X) :: R) := by
 have HQ := Qq (QuoRem_D T pq pA pB pr lq lA lB lr _ _ _ _ X Y w (h.at_ 4 _ _ _ rfl).dest (h.at_ 0 _ _ _ rfl).v (h.at_ 1 _ _ _ rfl).v (h.at_ 5 _ _ _ rfl).dest (h.rel2 (i := 4) (j := 5) (by decide) rfl rfl).1 (h.rel2 (i := 4) (j := 5) (by decide) rfl rfl).2 (h.rel (i := 4) (j := 0) rfl rfl) (h.rel (i := 5) (j := 0) rfl rfl) (hT.upd h.up (fun _ h => h)) HD)
 have hq : (digs (X.tdiv Y).natAbs).length <= 1000 := by
  rw [Int.natAbs_tdiv]
  exact Nat.le_trans (Zn (Nat.div_le_self _ _)) hX
 have H := Qq (Qj h (Qj hK (Qj hq (Qj hU hV))))
 have HMu := Qq hMul
 clear h hT hK hMul HD hX hU hV hq
 go_enter Tryz.func77, Tryz.ntmps77
 go_wp2_with fail
 refine HQ.out.mono ?_
 rintro e w1 ⟨rfl, ho⟩
 obtain ⟨l1, l2, h1⟩ := H.out.1.out2 (i := 4) (j := 5) (by decide) rfl rfl ho
 have H1 : Hid (Zl w0 w1 ((pA, lA, sv X) :: (pB, lB, sv Y) :: (pU, lU, sv U) :: (pV, lV, sv V) :: (pq, l1, sv (X.tdiv Y)) :: (pr, l2, sv (X.tmod Y)) :: R)) := h1
 clear ho h1 HQ
 have HM := Qq (Mul_oM TK pq pq pV l1 l1 lV _ (X.tdiv Y) V w1 (H1.out.at_ 4 _ _ _ rfl).v (H1.out.at_ 4 _ _ _ rfl).v (H1.out.at_ 3 _ _ _ rfl).v (H1.out.rel (i := 4) (j := 4) rfl rfl) (H1.out.rel (i := 4) (j := 3) rfl rfl) (H1.out.rel2 (i := 4) (j := 3) (by decide) rfl rfl).1 (H.out.2.1.upd H1.out.up (fun _ h => h)) HMu.out (G_small (by have := H.out.2.2.1; have := H.out.2.2.2.2; omega)))
 go_wp2_with fail
 refine HM.out.mono ?_
 rintro e w2 ⟨rfl, ho⟩
 obtain ⟨l3, h2⟩ := H1.out.out (i := 4) rfl ho.put
 have H2 : Hid (Zl w0 w2 ((pA, lA, sv X) :: (pB, lB, sv Y) :: (pU, lU, sv U) :: (pV, lV, sv V) :: (pq, l3, sv (X.tdiv Y * V)) :: (pr, l2, sv (X.tmod Y)) :: R)) := h2
 have hl : (digs (X.tdiv Y * V).natAbs).length <= 2000 := by
  rw [Int.natAbs_mul]
  have := digs_mul_le (X.tdiv Y).natAbs V.natAbs
  have := H.out.2.2.1; have := H.out.2.2.2.2; omega
 have HS := Qq (Sub_o pU pU pq lU lU l3 _ U (X.tdiv Y * V) w2 (H2.out.at_ 2 _ _ _ rfl).v (H2.out.at_ 2 _ _ _ rfl).v (H2.out.at_ 4 _ _ _ rfl).v (H2.out.rel (i := 2) (j := 2) rfl rfl) (H2.out.rel (i := 2) (j := 4) rfl rfl) (by have := H.out.2.2.2.1; omega) (by omega))
 clear ho h2 HM H1 hl
 go_wp2_with fail
 refine HS.out.mono ?_
 rintro e w3 ⟨rfl, ho⟩
 obtain ⟨l4, h3⟩ := H2.out.out (i := 2) rfl ho.put
 have H3 : Hid (Zl w0 w3 ((pA, lA, sv X) :: (pB, lB, sv Y) :: (pU, l4, sv (U - X.tdiv Y * V)) :: (pV, lV, sv V) :: (pq, l3, sv (X.tdiv Y * V)) :: (pr, l2, sv (X.tmod Y)) :: R)) := h3
 clear ho h3 HS H2
 go_wp2_with fail
 (try simp only [Exit.inBlock, Exit.then])
 refine bodyPost_ret (results_tmp5 rfl _ _ _) rfl ?_
 exact ⟨rfl, l2, l4, l3, H3.out.eperm⟩
theorem IntP.sign {w : World} {zb : Nat} {z : Loc} {Z : SV} (h : IntP w zb z Z) {s : Bool} {v : Int} (hv : v.natAbs = Z.2.natAbs) (hs : SgnOk s v) : IntP (w.setCell ⟨zb, 0, none⟩ (.bool s)) zb z ((s, v) : SV) := by
 have u : Upd (Blk zb) w (w.setCell ⟨zb, 0, none⟩ (.bool s)) := (Upd.refl (Blk zb) w).setCell (fun _ => rfl) _
 refine ⟨h.neg.set _, ?_, ?_, hs⟩
 .
  show Zh _ _ _ _ (.slice z.A (digs v.natAbs).length z.c)
  rw [hv]; exact h.abs.far _ (by omega)
 .
  show NatV _ z v.natAbs
  rw [hv]
  exact h.nat.upd u (fun i hi e => h.neg.neW (h.nat.at_ i hi) (by decide) e.symm)
theorem PutOut.sign {w w1 : World} {zb : Nat} {z : Loc} {Z : SV} (h : PutOut w zb z Z w1) {s : Bool} {v : Int} (hv : v.natAbs = Z.2.natAbs) (hs : SgnOk s v) : PutOut w zb z ((s, v) : SV) (w1.setCell ⟨zb, 0, none⟩ (.bool s)) := by
 obtain ⟨r, h1, h2, h3⟩ := h
 exact ⟨r, h1, h2.setCell (fun _ => Or.inl rfl) _, h3.sign hv hs⟩
theorem PutOut.refl {w : World} {zb : Nat} {z : Loc} {Z : SV} (h : IntP w zb z Z) : PutOut w zb z Z w := ⟨z, Or.inl rfl, Upd.refl _ _, h⟩
theorem PutOut.int {w w' : World} {zb : Nat} {z : Loc} {v : Int} (h : PutOut w zb z (sv v) w') : IntOut w zb z v w' := by
 obtain ⟨r, h1, h2, h3⟩ := h
 exact ⟨r, h1, h2, h3.v⟩
theorem sgn_flip {s : Bool} {v : Int} (h : SgnOk s v) : SgnOk (!s) (-v) := by
 cases s
 . have := h.2 rfl; exact ⟨fun _ => (by omega), fun h => (by cases h)⟩
 . have := h.1 rfl; exact ⟨fun h => (by cases h), fun _ => by omega⟩
theorem PutOut.word {w : World} {zb X a : Nat} {z : Loc} (h : IntP w zb z (sv (X : Int))) (h1 : (digs X).length = 1) (ha : a ≠ 0) (haB : a < B64) : PutOut w zb z (sv (a : Int)) (w.setCell ⟨z.b, z.o, none⟩ (.int .u64 (a : Int))) := by
 have hl : 1 <= z.c := by have := h.nat.le; rw [show (sv (X : Int)).2.natAbs = X from Int.natAbs_natCast X] at this; omega
 have u : Upd (ZF z z.c) w (w.setCell ⟨z.b, z.o, none⟩ (.int .u64 (a : Int))) := (Upd.refl _ w).setCell (fun _ => ⟨rfl, Nat.le_refl _, by omega, by omega⟩) _
 have ok := h.nat.ok
 have hda : digs a = [a] := by rw [digs_pos ha, Nat.div_eq_of_lt haB, Yg, Nat.mod_eq_of_lt haB]
 have e1 : (sv (X : Int)).2.natAbs = X := Int.natAbs_natCast X
 have e2 : (sv (a : Int)).2.natAbs = a := Int.natAbs_natCast a
 refine ⟨z, Or.inl rfl, u.mono (fun _ _ _ h => Or.inr h), ?_, ?_, ?_, sgnOk_self (a : Int)⟩
 .
  have := h.neg.upd u (ZF.no ok h.neg (by decide) _ _)
  rw [show (sv (X : Int)).1 = (sv (a : Int)).1 from (decide_eq_false (by omega : ¬ (X : Int) < 0)).trans (decide_eq_false (by omega : ¬ (a : Int) < 0)).symm] at this
  exact this
 .
  have := h.abs.upd u (ZF.no ok h.abs (by decide) _ _)
  rw [e1, h1] at this
  rw [e2, hda]; exact this
 .
  rw [e2]
  unfold NatV
  rw [hda]
  refine ⟨ok.upd u, hl, ?_, ?_⟩
  .
   intro i hi
   have hi0 : i = 0 := by simpa using hi
   subst hi0
   obtain ⟨v, hv⟩ := ok.live 0 (by omega)
   exact hv.set _
  .
   have := Yc a
   rwa [hda] at this
theorem Zl.new {w0 w : World} {L : List (Nat × Loc × SV)} (h : Zl w0 w L) : Zl w0 (w.alloc (.cells #[.bool false, .slice none 0 0] 58)) ((w.heap.size, nilL, sv 0) :: L) := by
 have hD := intBox w _ (Upd.refl NoF _)
 refine h.cons ((Upd.refl NoF w).alloc _) ⟨?_, ?_, ?_, sgnOk_self 0⟩ (Nat.le_refl _) (Or.inl rfl)
 . exact hD.neg
 .
  have := hD.abs
  show Zh _ _ _ _ (.slice nilL.A (digs 0).length nilL.c)
  rw [Yg]; exact this
 . exact NatV.zero (nilL_ok _)
theorem Abs_o (zb xb : Nat) (z x : Loc) (Z X : Int) (w : World) (hz : IntV w zb z Z) (hx : IntV w xb x X) (hne : zb ≠ xb) (hm : (digs X.natAbs).length <= 1099511627776) :
  Calls Tryz.prog 73 #[.pointer (some ⟨zb, 0, none⟩), .pointer (some ⟨xb, 0, none⟩)] w fun e w' => e = .returned (.pointer (some ⟨zb, 0, none⟩)) /\ IntOut w zb z (X.natAbs : Int) w' := by
 have HS := Qq (Set_o zb xb z x Z X w hz hx hne hm)
 clear hz hx hne hm
 go_enter Tryz.func73, Tryz.ntmps73
 go_wp2_with fail
 refine HS.out.mono ?_
 rintro e w1 ⟨rfl, ho⟩
 have hp := (ho.put.sign (s := false) (v := (X.natAbs : Int)) (Int.natAbs_natCast _) ⟨fun h => by (cases h), fun _ => Int.natCast_nonneg _⟩)
 rw [show ((false, (X.natAbs : Int)) : SV) = sv (X.natAbs : Int) from by (unfold sv; rw [decide_eq_false (by omega : ¬ (X.natAbs : Int) < 0)])] at hp
 obtain ⟨r, _, _, h3⟩ := ho
 have d1 := h3.neg.cell
 have d2 := h3.neg.frozen
 have HF := Qq hp.int
 clear h3 hp
 go_wp2_with fail
 go_ret
 exact ⟨rfl, HF.out⟩
theorem SetUint64_o (zb x : Nat) (z : Loc) (Z : SV) (w : World) (hz : IntP w zb z Z) (hx : x < B64) :
  Calls Tryz.prog 50 #[.pointer (some ⟨zb, 0, none⟩), .int .u64 (x : Int)] w fun e w' => e = .returned (.pointer (some ⟨zb, 0, none⟩)) /\ IntOut w zb z (x : Int) w' := by
 have c1 := hz.neg.cell
 have c2 := hz.neg.frozen
 have c3 := hz.abs.cell
 have c4 := hz.abs.frozen
 have HS := Qq (fun (w' : World) (u : Upd NoF w w') => (setUint64_any z (digs Z.2.natAbs).length x w' (hz.nat.ok.upd u) hx).mono (fun _ _ h => Ya.since u h))
 have HZ := Qq hz.dest
 clear hz hx
 go_enter Tryz.func50, Tryz.ntmps50
 go_wp2_with fail
 refine (HS.out _ (Upd.refl NoF w)).mono ?_
 rintro e w1 ⟨r, rfl, h1, h2, h3, h4⟩
 have d1 := (HZ.out.keep HZ.out.ok h3).abs.cell
 have d2 := (HZ.out.keep HZ.out.ok h3).abs.frozen
 have d3 := (HZ.out.keep HZ.out.ok h3).neg.cell
 have d4 := (HZ.out.keep HZ.out.ok h3).neg.frozen
 have hm := Yb.made HZ.out h1 h2 h3 h4 (v := (x : Int)) (by rw [Int.natAbs_natCast])
 rw [decide_eq_false (by omega : ¬ ((x : Nat) : Int) < 0)] at hm
 have HM := Qq hm
 clear h1 h2 h3 h4 hm c1 c2 c3 c4
 go_wp2_with fail
 go_ret
 exact ⟨rfl, HM.out.out⟩
theorem Div_S (T : Int) (w0 w : World) (L : List (Nat × Loc × SV)) (i k zb yb : Nat) (z y : Loc) (X Y : Int) (h : Zl w0 w L) (hi : L[i]? = some (zb, z, sv X)) (hk : L[k]? = some (yb, y, sv Y)) (hT : DThr w0 T) (HD : DivAtT T X.natAbs Y.natAbs) (hex : X.tmod Y = 0) :
  Calls Tryz.prog 80 #[.pointer (some ⟨zb, 0, none⟩), .pointer (some ⟨zb, 0, none⟩), .pointer (some ⟨yb, 0, none⟩)] w fun e w' => e = .returned (.pointer (some ⟨zb, 0, none⟩)) /\ ∃ r : Loc, Zl w0 w' (L.set i (zb, r, sv (X.tdiv Y))) := by
 have c2 := (h.at_ k _ _ _ hk).neg.cell
 have h2 := h.new
 obtain ⟨g, hg⟩ : ∃ g, w.heap.size = g := ⟨_, rfl⟩
 obtain ⟨w2, hw2⟩ : ∃ w2, w.alloc (.cells #[.bool false, .slice none 0 0] 58) = w2 := ⟨_, rfl⟩
 rw [hg, hw2] at h2
 have a0 : ((g, nilL, sv 0) :: L)[0]? = some (g, nilL, sv 0) := rfl
 have ai : ((g, nilL, sv 0) :: L)[i + 1]? = some (zb, z, sv X) := hi
 have ak : ((g, nilL, sv 0) :: L)[k + 1]? = some (yb, y, sv Y) := hk
 obtain ⟨e1, e2⟩ := h2.rel2 (i := i + 1) (j := 0) (by omega) ai a0
 have HQ := Qq (QuoRem_D T zb zb yb g z z y nilL _ _ _ _ X Y w2 (h2.at_ _ _ _ _ ai).dest (h2.at_ _ _ _ _ ai).v (h2.at_ _ _ _ _ ak).v (h2.at_ _ _ _ _ a0).dest e1 e2 (Or.inl rfl) (nilL_rel _) (hT.upd h2.up (fun _ h => h)) HD)
 have H2 := Qq (Qj h2 ai)
 have HW := Qq (Qj hg hw2)
 clear h2 a0 ai ak e1 e2 h hi hk hT HD hg hw2
 go_enter Tryz.func80, Tryz.ntmps80
 go_wp2_with fail
 rw [HW.out.1, HW.out.2]
 refine HQ.out.mono ?_
 rintro e w3 ⟨rfl, ho⟩
 obtain ⟨lz, lr, h3⟩ := H2.out.1.out2 (i := i + 1) (j := 0) (by omega) H2.out.2 rfl ho
 rw [hex] at h3
 have h4 : Zl w0 w3 ((g, lr, sv 0) :: L.set i (zb, lz, sv (X.tdiv Y))) := h3
 have d1 := (h4.at_ 0 _ _ _ rfl).neg.cell
 rw [show (sv 0).1 = false from rfl] at d1
 have H4 := Qq h4.tail
 clear ho h3 h4 HQ
 go_wp2_with fail
 go_ret
 exact ⟨rfl, lz, H4.out⟩
theorem Sub_S (w0 w : World) (L : List (Nat × Loc × SV)) (i j xb yb : Nat) (x y : Loc) (X : Int) (Y : SV) (h : Zl w0 w L) (hi : L[i]? = some (xb, x, sv X)) (hj : L[j]? = some (yb, y, Y)) (hX : 0 <= X) (hm : (digs X.natAbs).length + 1 <= 1099511627776) (hn : (digs Y.2.natAbs).length + 1 <= 1099511627776) :
  Calls Tryz.prog 79 #[.pointer (some ⟨yb, 0, none⟩), .pointer (some ⟨xb, 0, none⟩), .pointer (some ⟨yb, 0, none⟩)] w fun e w' => e = .returned (.pointer (some ⟨yb, 0, none⟩)) /\ ∃ r : Loc, Zl w0 w' (L.set j (yb, r, sv (X - Y.2))) := by
 have hx := h.at_ _ _ _ _ hi
 have hy := h.at_ _ _ _ _ hj
 have hsx : decide (X < 0) = false := decide_eq_false (by omega)
 have key : ∀ z' : Loc, IntD w yb z' Y.1 (digs Y.2.natAbs).length -> UpOk z'.b z'.o x.b x.o (digs X.natAbs).length -> UpOk z'.b z'.o y.b y.o (digs Y.2.natAbs).length →
   Calls Tryz.prog 79 #[.pointer (some ⟨yb, 0, none⟩), .pointer (some ⟨xb, 0, none⟩), .pointer (some ⟨yb, 0, none⟩)] w fun e w' => e = .returned (.pointer (some ⟨yb, 0, none⟩)) /\ Yb w yb z' (max (digs X.natAbs).length (digs Y.2.natAbs).length + 1) (X - Y.2) w' := fun z' hz o1 o2 => by
  cases hs : Y.1 with
  | true =>
   rw [hs] at hz
   have hyS := hy.s
   rw [hs] at hyS
   exact SubS_same yb xb yb z' x y true _ false true X Y.2 w hz (hsx ▸ hx.s) hyS (by decide) hm hn o1 o2
  | false =>
   have h0 := hy.sg.2 hs
   have hyV : IntV w yb y Y.2 := by
    refine ⟨?_, hy.abs, hy.nat⟩
    rw [decide_eq_false (by omega : ¬ Y.2 < 0), <- hs]; exact hy.neg
   exact Int_Sub_any yb xb yb z' x y _ _ X Y.2 w hz hx.v hyV hm hn o1 o2
 rcases Nat.eq_zero_or_pos y.c with h0 | h0
 . exact (key _ (hy.low h0) (Or.inr (Or.inl (Nat.zero_le _))) (Or.inr (Or.inl (Nat.zero_le _)))).mono (fun _ _ ⟨h1, h2⟩ => ⟨h1, h.out hj (h2.put.low h0)⟩)
 . exact (key _ hy.dest ((h.rel hj hi).up hx.nat.le h0) ((h.rel hj hj).up hy.nat.le h0)).mono (fun _ _ ⟨h1, h2⟩ => ⟨h1, h.out hj h2.put⟩)
theorem Mul_S (T : Int) (w0 w : World) (L : List (Nat × Loc × SV)) (i j k zb xb yb : Nat) (z x y : Loc) (Z : SV) (X Y : Int) (h : Zl w0 w L) (hi : L[i]? = some (zb, z, Z)) (hj : L[j]? = some (xb, x, sv X)) (hk : L[k]? = some (yb, y, sv Y)) (hjk : j ≠ k) (hT : Thr w0 T) (hMul : MulSpec0 T (digs X.natAbs).length (digs Y.natAbs).length) (hG : G ((digs X.natAbs).length + (digs Y.natAbs).length) <= 1099511627776) :
  Calls Tryz.prog 38 #[.pointer (some ⟨zb, 0, none⟩), .pointer (some ⟨xb, 0, none⟩), .pointer (some ⟨yb, 0, none⟩)] w fun e w' => e = .returned (.pointer (some ⟨zb, 0, none⟩)) /\ ∃ r : Loc, Zl w0 w' (L.set i (zb, r, sv (X * Y))) :=
 (Int_Mul_M T zb xb yb z x y _ _ X Y w (h.at_ _ _ _ _ hi).dest (h.at_ _ _ _ _ hj).v (h.at_ _ _ _ _ hk).v (h.rel2 hjk hj hk).1 (h.rel hi hj) (h.rel hi hk) (hT.upd h.up (fun _ h => h)) hMul hG).mono (fun _ _ ⟨h1, h2⟩ => ⟨h1, h.out hi h2.out.put⟩)
theorem Set_S (w0 w : World) (L : List (Nat × Loc × SV)) (i j zb xb : Nat) (z x : Loc) (Z : SV) (X : Int) (h : Zl w0 w L) (hi : L[i]? = some (zb, z, Z)) (hj : L[j]? = some (xb, x, sv X)) (hij : i ≠ j) (hm : (digs X.natAbs).length <= 1099511627776) :
  Calls Tryz.prog 49 #[.pointer (some ⟨zb, 0, none⟩), .pointer (some ⟨xb, 0, none⟩)] w fun e w' => e = .returned (.pointer (some ⟨zb, 0, none⟩)) /\ ∃ r : Loc, Zl w0 w' (L.set i (zb, r, sv X)) :=
 (Set_any zb xb _ z x _ X w (h.at_ _ _ _ _ hi).dest (h.at_ _ _ _ _ hj).v (h.rel2 hij hi hj).1 hm).mono (fun _ _ ⟨h1, h2⟩ => ⟨h1, h.out hi h2.out.put⟩)
theorem Zl.flip {w0 w : World} {L : List (Nat × Loc × SV)} (h : Zl w0 w L) {i zb : Nat} {z : Loc} {Z : SV} (hi : L[i]? = some (zb, z, Z)) : ∃ r : Loc, Zl w0 (w.setCell ⟨zb, 0, none⟩ (.bool (!Z.1))) (L.set i (zb, r, ((!Z.1, -Z.2) : SV))) :=
 h.out hi ((PutOut.refl (h.at_ _ _ _ _ hi)).sign (Int.natAbs_neg _) (sgn_flip (h.at_ _ _ _ _ hi).sg))
end Go.Proofs.YthkklkjldpcbkaaGreatDoor
