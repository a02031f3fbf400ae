/- For the claim of laws.FnInverse: IntOps, ImplOf, ImplTold, ImplMul. -/
import Derived.Test.YthkklkjldpcbkaaGreatDoorLiB1
import Derived.Maps.AppendAt
import Derived.Deep.RegionHeld3
set_option linter.unusedVariables false
set_option linter.unusedSimpArgs false
set_option maxHeartbeats 16000000
set_option maxRecDepth 1000000
namespace Go.Proofs.YthkklkjldpcbkaaGreatDoor
open Go.RowKit
theorem Zx {v : Int} : (digs v.natAbs).length = 0 ↔ v = 0 := by
 rw [Zg]; omega
theorem Sign_S (b : Nat) (l : Loc) (s : Bool) (v : Int) (w : World) (h : IntS w b l s v) :
  Calls Tryz.prog 54 #[.pointer (some ⟨b, 0, none⟩)] w fun e w' => e = .returned (.int .i64 v.sign) /\ w' = w := by
 have c1 := h.neg.cell
 have c2 := h.abs.cell
 rcases Int.lt_trichotomy v 0 with h0 | h0 | h0
 .
  have q1 : (((digs v.natAbs).length : Int) == 0) = false := beq_eq_false_iff_ne.2 (by have := mt Zx.1 (by omega : v ≠ 0); omega)
  rw [show s = true by cases hs : s with | true => rfl | false => exact absurd (h.sg.2 hs) (by omega)] at c1
  have HS := Qq (Int.sign_eq_neg_one_of_neg h0)
  clear h0 h
  go_enter Tryz.func54, Tryz.ntmps54
  go_wp2
  go_ret
  exact ⟨by rw [HS.out]; rfl, rfl⟩
 .
  subst h0
  have q1 : (digs (0 : Int).natAbs).length = 0 := Zx.2 rfl
  rw [q1] at c2
  have q2 : ((0 : Int) == 0) = true := rfl
  clear q1 h
  go_enter Tryz.func54, Tryz.ntmps54
  go_wp2
  go_ret
  exact ⟨rfl, rfl⟩
 .
  have q1 : (((digs v.natAbs).length : Int) == 0) = false := beq_eq_false_iff_ne.2 (by have := mt Zx.1 (by omega : v ≠ 0); omega)
  rw [show s = false by cases hs : s with | false => rfl | true => exact absurd (h.sg.1 hs) (by omega)] at c1
  have HS := Qq (Int.sign_eq_one_of_pos h0)
  clear h0 h
  go_enter Tryz.func54, Tryz.ntmps54
  go_wp2
  go_ret
  exact ⟨by rw [HS.out]; rfl, rfl⟩
theorem Bits_S (b : Nat) (l : Loc) (s : Bool) (v : Int) (w : World) (h : IntS w b l s v) :
  Calls Tryz.prog 55 #[.pointer (some ⟨b, 0, none⟩)] w fun e w' => e = .returned (.slice l.A (digs v.natAbs).length l.c) /\ w' = w := by
 have c2 := h.abs.cell
 clear h
 go_enter Tryz.func55, Tryz.ntmps55
 go_wp2
 go_ret
 exact ⟨rfl, rfl⟩
theorem IntV.stored {w : World} {zb n : Nat} {lz l : Loc} {s : Bool} (hz : IntD w zb lz s n) {v : Int} (hN : NatV w l v.natAbs) :
  IntV ((w.setCell ⟨zb, 1, none⟩ (.slice l.A (digs v.natAbs).length l.c)).setCell ⟨zb, 0, none⟩ (.bool (decide (v < 0)))) zb l v /\ Upd (Blk zb) w ((w.setCell ⟨zb, 1, none⟩ (.slice l.A (digs v.natAbs).length l.c)).setCell ⟨zb, 0, none⟩ (.bool (decide (v < 0)))) := by
 have u2 := blk_upd w zb 0 (.slice l.A (digs v.natAbs).length l.c) (.bool (decide (v < 0)))
 have hb : ∀ i, i < (digs v.natAbs).length -> ¬ Blk zb l.b (l.o + i) := fun i hi h => hz.neg.neW (hN.at_ i hi) (by decide) h.symm
 exact ⟨⟨(hz.neg.far _ (by omega)).set _, (hz.abs.set _).far _ (by omega), hN.upd u2 hb⟩, u2⟩
theorem SetBits_any (zb nz : Nat) (lz l : Loc) (s : Bool) (xs : List Nat) (w : World) (hz : IntD w zb lz s nz) (hx : VecV w l xs) :
  Calls Tryz.prog 52 #[.pointer (some ⟨zb, 0, none⟩), .slice l.A xs.length l.c] w fun e w' => e = .returned (.pointer (some ⟨zb, 0, none⟩)) /\ IntV w' zb l (val B64 xs : Nat) /\ Upd (Blk zb) w w' := by
 have c1 := hz.neg.cell
 have c2 := hz.neg.frozen
 have c3 := hz.abs.cell
 have c4 := hz.abs.frozen
 have hN := norm_any l.A l.b l.o l.c xs w (fun h => hx.addr h) hx.le hx.ok.1 hx.at_ hx.dig
 have hs := IntV.stored (v := (val B64 xs : Nat)) hz (by rw [Int.natAbs_natCast]; exact hx.norm)
 rw [decide_eq_false (by omega : ¬ ((val B64 xs : Nat) : Int) < 0), Int.natAbs_natCast] at hs
 have HN := Qq (Qj hN hs)
 clear hN hs hz hx
 go_enter Tryz.func52, Tryz.ntmps52
 go_wp2_with fail
 refine HN.out.1.mono ?_
 rintro e w' ⟨rfl, hw'⟩
 cases hw'.symm
 go_wp2
 go_ret
 exact ⟨rfl, HN.out.2⟩
theorem neq_ints {w : World} {b b' : Nat} (ha : Free w b) (hb : Free w b') {r : Bool} (hr : ((⟨b, 0, none⟩ : Addr) == ⟨b', 0, none⟩) = r) :
  (binOp .neq 54 (.pointer (some ⟨b, 0, none⟩)) (.pointer (some ⟨b', 0, none⟩))).run Tryz.prog w = .ok (.bool (!r)) w := by
 obtain ⟨i, hi⟩ : ∃ i, Tryz.prog.info? 58 = some i /\ i.size = 2 := by
  have h := iInt3
  cases hq : Tryz.prog.info? 58 with
  | none => rw [hq] at h; cases h
  | some i => exact ⟨i, rfl, by rw [hq] at h; simpa using h⟩
 exact run_neq_ptr (a := ⟨b, 0, none⟩) (b := ⟨b', 0, none⟩) uPInt hi.1 (by omega) ha hb hr
theorem neq_intsO {w : World} {b b' o' : Nat} (ha : Free w b) (hb : Free w b') {r : Bool} (hr : ((⟨b, 0, none⟩ : Addr) == ⟨b', o', none⟩) = r) :
  (binOp .neq 54 (.pointer (some ⟨b, 0, none⟩)) (.pointer (some ⟨b', o', none⟩))).run Tryz.prog w = .ok (.bool (!r)) w := by
 obtain ⟨i, hi⟩ : ∃ i, Tryz.prog.info? 58 = some i /\ i.size = 2 := by
  have h := iInt3
  cases hq : Tryz.prog.info? 58 with
  | none => rw [hq] at h; cases h
  | some i => exact ⟨i, rfl, by rw [hq] at h; simpa using h⟩
 exact run_neq_ptr (a := ⟨b, 0, none⟩) (b := ⟨b', o', none⟩) uPInt hi.1 (by omega) ha hb hr
theorem Set_self (b : Nat) (l : Loc) (v : Int) (w : World) (h : IntV w b l v) :
  Calls Tryz.prog 49 #[.pointer (some ⟨b, 0, none⟩), .pointer (some ⟨b, 0, none⟩)] w fun e w' => e = .returned (.pointer (some ⟨b, 0, none⟩)) /\ w' = w := by
 have q1 := neq_ints h.neg.free h.neg.free (r := true) (by simp)
 clear h
 go_enter Tryz.func49, Tryz.ntmps49
 go_wp2
 go_ret
 exact ⟨rfl, rfl⟩
theorem Neg_self (b : Nat) (l : Loc) (v : Int) (w : World) (h : IntV w b l v) :
  Calls Tryz.prog 53 #[.pointer (some ⟨b, 0, none⟩), .pointer (some ⟨b, 0, none⟩)] w fun e w' => e = .returned (.pointer (some ⟨b, 0, none⟩)) /\ IntV w' b l (-v) /\ Upd (Blk b) w w' := by
 have c1 := h.neg.cell
 have c2 := h.neg.frozen
 have c3 := h.abs.cell
 obtain ⟨sv, hsv⟩ : ∃ s, decide (v < 0) = s := ⟨_, rfl⟩
 rw [hsv] at c1
 have HS := Qq (Set_self b l v w h)
 have hs : ∀ s : Bool, s = decide (-v < 0) -> IntV (w.setCell ⟨b, 0, none⟩ (.bool s)) b l (-v) /\ Upd (Blk b) w (w.setCell ⟨b, 0, none⟩ (.bool s)) := fun s e => by
  subst e
  have u : Upd (Blk b) w (w.setCell ⟨b, 0, none⟩ (.bool (decide (-v < 0)))) := (Upd.refl (Blk b) w).setCell (fun _ => rfl) _
  refine ⟨⟨h.neg.set _, ?_, ?_⟩, u⟩
  . rw [Int.natAbs_neg]; exact h.abs.far _ (by omega)
  . rw [Int.natAbs_neg]; exact h.nat.upd u (fun i hi hb => h.neg.neW (h.nat.at_ i hi) (by decide) hb.symm)
 by_cases h0 : v = 0
 .
  have q0 : decide (0 < (digs v.natAbs).length) = false := decide_eq_false (by rw [Zx.2 h0]; omega)
  have HH := Qq (hs false (by subst h0; rfl))
  clear h0 hs hsv h
  go_enter Tryz.func53, Tryz.ntmps53
  go_wp2_with fail
  refine HS.out.mono ?_
  rintro e w' ⟨rfl, hw'⟩
  cases hw'.symm
  go_wp2
  go_ret
  exact ⟨rfl, HH.out⟩
 .
  have q0 : decide (0 < (digs v.natAbs).length) = true := decide_eq_true (by have := mt Zx.1 h0; omega)
  have HH := Qq (hs (!sv) (by rw [<- hsv]; by_cases h1 : v < 0 <;> simp [h1] <;> omega))
  clear h0 hs hsv h
  go_enter Tryz.func53, Tryz.ntmps53
  go_wp2_with fail
  refine HS.out.mono ?_
  rintro e w' ⟨rfl, hw'⟩
  cases hw'.symm
  go_wp2
  go_ret
  exact ⟨rfl, HH.out⟩
theorem Set_anyO (zb xb xo nz : Nat) (lz lx : Loc) (s : Bool) (X : Int) (w : World) (hz : IntD w zb lz s nz) (hx : IntVo w xb xo lx X) (hne : zb ≠ xb) (hsep : ∀ k j, ¬ ZF lz k xb j) (hm : (digs X.natAbs).length <= 1099511627776) :
  Calls Tryz.prog 49 #[.pointer (some ⟨zb, 0, none⟩), .pointer (some ⟨xb, xo, none⟩)] w fun e w' => e = .returned (.pointer (some ⟨zb, 0, none⟩)) /\ Yb w zb lz (digs X.natAbs).length X w' := by
 have q1 := neq_intsO (o' := xo) hz.neg.free hx.free (r := false) (by rw [addr_beq]; exact decide_eq_false (fun h => hne h.1))
 have c1 := hz.neg.cell
 have c2 := hz.neg.frozen
 have c3 := hz.abs.cell
 have c4 := hz.abs.frozen
 have c5 := hx.neg
 have c6 := hx.abs
 have HS := Qq (fun (w' : World) (u : Upd NoF w w') => (set_any lz lx nz X.natAbs w' (hz.ok.upd u) (hx.nat.upd0 u) hm).mono (fun _ _ h => Ya.since u h))
 have HX := Qq (Qj hz hx)
 have HN := Qq hne
 have HP := Qq hsep
 clear hz hx hne hsep
 go_enter Tryz.func49, Tryz.ntmps49
 go_wp2_with fail
 refine Zw 1 9 (by kernel_rfl) (by kernel_rfl) ?_
 simp only [List.take_succ_cons, List.take_zero, List.drop_succ_cons, List.drop_zero]
 repeat (refine Zz ?_ (fun _ _ _ h => h) (by rfl) (by intro _; go_simp; with_reducible rfl) ?_; (try simp only [Act.put, List.setIfInBounds_toArray, List.set_cons_zero, List.set_cons_succ]))
 refine Yd ?_
 repeat still_step
 refine wpStill_nil ?_
 go_wp2_with fail
 refine (HS.out _ ((Upd.refl NoF w).drew)).mono ?_
 rintro e w1 ⟨r, rfl, h1, h2, h3, h4⟩
 have d1 := (HX.out.1.keep HX.out.1.ok h3).abs.cell
 have d2 := (HX.out.1.keep HX.out.1.ok h3).abs.frozen
 have d3 := (HX.out.1.keep HX.out.1.ok h3).neg.cell
 have d4 := (HX.out.1.keep HX.out.1.ok h3).neg.frozen
 have d5 := h3.cell HX.out.2.neg (HP.out _ _)
 have HM := Qq (Yb.made HX.out.1 h1 h2 h3 h4 (v := X) rfl)
 clear h1 h2 h3 h4 c1 c2 c3 c4 c5 c6
 have hn1 : ¬ zb = xb := HN.out
 have hn2 : ¬ xb = zb := fun h => hn1 h.symm
 go_wp2
 go_ret
 exact ⟨rfl, HM.out⟩
theorem Set_any (zb xb nz : Nat) (lz lx : Loc) (s : Bool) (X : Int) (w : World) (hz : IntD w zb lz s nz) (hx : IntV w xb lx X) (hne : zb ≠ xb) (hm : (digs X.natAbs).length <= 1099511627776) :
  Calls Tryz.prog 49 #[.pointer (some ⟨zb, 0, none⟩), .pointer (some ⟨xb, 0, none⟩)] w fun e w' => e = .returned (.pointer (some ⟨zb, 0, none⟩)) /\ Yb w zb lz (digs X.natAbs).length X w' :=
 Set_anyO zb xb 0 nz lz lx s X w hz hx.at0 hne (fun k j => ZF.no hz.ok hx.neg (by decide) k j) hm
theorem Upd.grown {w wr w1 : World} {row : Option Nat} (h : Upd NoF w wr) (hg : wr.grownBy w1 row) (hr : ∀ k, row = some k -> w.heap.size <= k) : Upd NoF w w1 :=
 ⟨hg.os.trans h.os, hg.tape.trans h.tape, hg.output.trans h.output, Nat.le_trans h.size hg.size, fun b o hb => by
  obtain ⟨o', h1, h2⟩ := h.keep b o hb
  exact ⟨o', (hg.block b (heap_lt h1) (fun e => by have := hr b e.symm; have := heap_lt hb; omega)).trans h1, h2⟩⟩
def RdU (w : World) (A : Option Addr) (xs : List Nat) : Prop := 0 < xs.length -> ∃ ad, A = some ad /\ ∀ i (h : i < xs.length), w.cell? (ad.add i) = some (.int .u64 ((xs[i] : Nat) : Int))
theorem RdU.upd {w w' : World} {A : Option Addr} {xs : List Nat} (h : RdU w A xs) (u : Upd NoF w w') : RdU w' A xs := fun h0 => by
 obtain ⟨ad, e, hc⟩ := h h0
 refine ⟨ad, e, fun i hi => ?_⟩
 have h1 := hc i hi
 have hb := (u.below (w := w) w.heap.size (Nat.le_refl _) (fun _ _ _ h => h))
 exact (hb.cell (World.block_lt_of_cell? w _ h1)).trans h1
theorem VecV.owned {w : World} {base n : Nat} {v : Value} {xs : List Nat} (h : w.ownsRow base 81 1 v n (vals xs)) (hn : xs.length = n) (hd : Digs B64 xs) : ∃ l : Loc, v = .slice l.A n l.c /\ VecV w l xs /\ (0 < l.c -> base <= l.b) := by
 obtain ⟨hl, ⟨rfl, rfl⟩ | ⟨g, cap, cur, rfl, hb, hg, hc, hm, hs, ht⟩⟩ := h
 .
  have : xs = [] := List.eq_nil_of_length_eq_zero hn
  subst this
  exact ⟨⟨none, 0, 0, 0⟩, rfl, ⟨Loc.Ok.nil _ _ _, Nat.le_refl _, U64.nil _ _ _, Digs.nil⟩, fun h => absurd h (Nat.lt_irrefl 0)⟩
 .
  unfold maxLen at hm
  refine ⟨Loc.mk1 g 0 cap, rfl, ⟨Loc.Ok.mk1 (by omega) (fun i hi => ?_), by simp only; omega, fun i hi => ?_, hd⟩, fun _ => hb⟩
  . exact ⟨cur[i]'(by omega), Zh.word ⟨cur, hg, by rw [Nat.zero_add, Array.getElem?_eq_getElem (by omega)]⟩⟩
  .
   refine Zh.word ⟨cur, hg, ?_⟩
   rw [Nat.zero_add]
   have h1 : (vals xs)[i]? = some (.int .u64 ((xs[i] : Nat) : Int)) := by simp [vals, hi]
   rw [<- ht, List.getElem?_take] at h1
   split at h1
   . simpa using h1
   . cases h1
def sg (neg : Bool) (n : Nat) : Int := if neg then -(n : Int) else n
theorem vals_take_snoc {xs : List Nat} {k : Nat} (h : k < xs.length) : vals (xs.take k) ++ [.int .u64 ((xs[k] : Nat) : Int)] = vals (xs.take (k + 1)) := by
 unfold vals; rw [List.take_succ_eq_append_getElem h, List.map_append]; rfl
theorem of_any (neg : Bool) (A : Option Addr) (n c : Nat) (xs : List Nat) (w : World) (hn : xs.length = n) (hc : n <= c) (hlen : n <= 1099511627776) (hd : Digs B64 xs) (hr : RdU w A xs) :
  Calls Tryz.prog 30 #[.agg #[.bool neg, .slice A n c]] w fun e w' => ∃ (ib : Nat) (l : Loc), e = .returned (.pointer (some ⟨ib, 0, none⟩)) /\ w.heap.size <= ib /\ (0 < l.c -> w.heap.size <= l.b) /\ IntV w' ib l (sg neg (val B64 xs)) /\ Upd NoF w w' := by
 obtain ⟨i0, i1, i2, i3, i4⟩ := iWord
 have HX := Qq (Qj hn (Qj hd hr))
 clear hn hd hr
 go_enter Tryz.func30, Tryz.ntmps30
 go_wp2_with fail
 have hk0 : Zh 24 (w.alloc (.cells #[.bool neg, .slice A n c] 24)) w.heap.size 0 (.bool neg) := Zh.new (by simp) (heap_alloc_new w _)
 go_loopw [3, 10] (fun v i wr => ∃ k : Nat, k <= n /\ i = .int .i64 (k : Int) /\ wr.ownsRow (w.heap.size + 1) 81 1 v k (vals (xs.take k)) /\ Upd NoF w wr /\ Zh 24 wr w.heap.size 0 (.bool neg))
  (fun _ i _ => n - (intOf i).toNat)
 case atStart => exact ⟨0, Nat.zero_le _, rfl, World.ownsRow_nil _ _ _ _, (Upd.refl NoF w).alloc _, hk0⟩
 case round =>
  obtain ⟨k, hk, rfl, hown, hU, hK⟩ := hrel
  by_cases hlt : k < n
  .
   have hrd := HX.out.2.2.upd hU
   obtain ⟨ad, rfl, hcell⟩ := hrd (by rw [HX.out.1]; omega)
   have hx := hcell k (by rw [HX.out.1]; omega)
   have hsn := vals_take_snoc (xs := xs) (k := k) (by rw [HX.out.1]; omega)
   obtain ⟨x, hxk⟩ : ∃ x, xs[k]'(by rw [HX.out.1]; omega) = x := ⟨_, rfl⟩
   rw [hxk] at hx hsn
   have HS := Qq hsn
   have HK := Qq (Qj hU hK)
   have p1 : (0 : Int) <= (k : Int) := by omega
   have hsz := hU.size
   have hown2 := fun (o : Obj) => hown.alloc o
   have HO := Qq hown
   clear hxk hsn hcell hU hK hk0 hown
   go_wp2_with (at_builtin; refine wpList_append_own_at _ rfl (.tmp 14) (.tmp 16) 55 rfl (w.heap.size + 1) 81 i0 (.int .u64 0) 1 8 uWords i1 i2 i3 i4 rfl (by decide) _ _ _ rfl (HO.out.alloc _) ⟨wr.heap.size, 0, none⟩ 1 1 [.int .u64 (x : Int)] rfl rfl ?c1 ?c2 ?c3 ?c4 ?c5 ?_)
   case c1 =>
    intro j u hj
    cases j with
    | zero => cases hj; rw [addr_add]; exact (Zh.new (by simp) (heap_alloc_new wr _)).cell
    | succ j => simp at hj
   case c2 => simp [Value.oneCell']
   case c3 => unfold maxLen; omega
   case c4 => omega
   case c5 => simp; omega
   intro v' w1 hown1 hgrow _ _
   have hU1 : Upd NoF w w1 := (HK.out.1.alloc _).grown hgrow (fun k hk => by have := (HO.out.lt k hk).1; omega)
   have hK1 : Zh 24 w1 w.heap.size 0 (.bool neg) := by
    obtain ⟨cs, h1, h2⟩ := HK.out.2.upd ((Upd.refl NoF wr).alloc _) (fun h => h)
    exact ⟨cs, (hgrow.block _ (heap_lt h1) (fun e => by have := (HO.out.lt _ e.symm).1; omega)).trans h1, h2⟩
   rw [HS.out] at hown1
   clear hown2 hrd hx hsz HO HK
   go_wp2_with fail
   go_roundw
   case rel => exact ⟨k + 1, by omega, by go_num, hown1, hU1, hK1⟩
   case measure => simp [intOf]; omega
  .
   have hkn : k = n := by omega
   subst hkn
   obtain ⟨l, rfl, hV, hl⟩ := VecV.owned hown (by rw [List.length_take, HX.out.1]; omega) (HX.out.2.1.take k)
   rw [List.take_of_length_le (by rw [HX.out.1]; exact Nat.le_refl _)] at hV
   have HV := Qq (Qj hV (Qj hl (Qj hU hK)))
   have hs := hU.size
   clear hown hV hl hU hK hk0
   go_wp2_with fail
   obtain ⟨ib, hib⟩ : ∃ ib, wr.heap.size = ib := ⟨_, rfl⟩
   obtain ⟨wi, hwi⟩ : ∃ wi, wr.alloc (.cells #[.bool false, .slice none 0 0] 58) = wi := ⟨_, rfl⟩
   rw [hib, hwi]
   have uI : Upd NoF wr wi := by rw [<- hwi]; exact (Upd.refl NoF wr).alloc _
   have hD : IntD wi ib ⟨none, 0, 0, 0⟩ false 0 := by
    have := IntD.boxed (w := wr) (l := ⟨none, 0, 0, 0⟩) (n := 0) (Loc.Ok.nil wr 0 0) (Upd.refl NoF _)
    rw [hib, hwi] at this
    exact this
   have hB : Calls Tryz.prog 52 #[.pointer (some ⟨ib, 0, none⟩), .slice l.A k l.c] wi fun e w' => e = .returned (.pointer (some ⟨ib, 0, none⟩)) /\ IntV w' ib l (val B64 xs : Nat) /\ Upd (Blk ib) wi w' := by
    have := SetBits_any ib 0 ⟨none, 0, 0, 0⟩ l false xs wi hD (HV.out.1.upd0 uI)
    rwa [HX.out.1] at this
   have HB := Qq (Qj hB (Qj uI (show w.heap.size <= ib by omega)))
   have hnum := (HV.out.2.2.2.upd uI (fun h => h))
   have HN := Qq hnum
   have hlt2 : w.heap.size < ib := by have := HV.out.2.2.2.lt; omega
   clear hwi hib uI hD hB hnum hs
   refine HB.out.1.mono ?_
   rintro e w2 ⟨rfl, hI, hU2⟩
   have cn := (HN.out.upd hU2 (fun h => by have : _ = ib := h; omega)).cell
   have hUa : Upd NoF w w2 := (HV.out.2.2.1.trans HB.out.2.1).then hU2 (fun _ _ _ h => h.elim) (fun b i hb h => by have : b = ib := h; omega)
   cases neg with
   | false =>
    have HF := Qq (Qj hI hUa)
    clear hI hUa hU2
    go_wp2
    go_ret
    exact ⟨ib, l, rfl, by omega, fun h => by have := HV.out.2.1 h; omega, HF.out⟩
   | true =>
    have HF := Qq (Qj hI (Qj hUa (Neg_self ib l _ w2 hI)))
    clear hI hUa hU2
    go_wp2_with fail
    refine HF.out.2.2.mono ?_
    rintro e w3 ⟨rfl, hI, hU3⟩
    have hUb : Upd NoF w w3 := HF.out.2.1.then hU3 (fun _ _ _ h => h.elim) (fun b i hb h => by have : b = ib := h; omega)
    have HG := Qq (Qj hI hUb)
    clear hI hUb hU3
    go_wp2
    go_ret
    exact ⟨ib, l, rfl, by omega, fun h => by have := HV.out.2.1 h; omega, HG.out⟩
theorem iUint3 : (Tryz.prog.info? 65).map (fun i => (i.zero, i.size, i.bytes)) = some (some (.int .u64 0), 1, 8) := by kernel_rfl
theorem uUints : Tryz.prog.underlying 22 = some (.slice 65) := by kernel_rfl
theorem iUint : ∃ i, Tryz.prog.info? 65 = some i /\ i.zero = some (.int .u64 0) /\ i.size = 1 /\ i.bytes = 8 := info_parts iUint3
theorem sign_lt (v : Int) : decide (v.sign < 0) = decide (v < 0) := by
 by_cases h : v < 0
 . rw [Int.sign_eq_neg_one_of_neg h, decide_eq_true h]; rfl
 .
  rw [decide_eq_false h]
  rcases Int.lt_trichotomy v 0 with h0 | h0 | h0
  . omega
  . subst h0; rfl
  . rw [Int.sign_eq_one_of_pos h0]; rfl
theorem told_S (b n : Nat) (l : Loc) (s0 : Bool) (v : Int) (w : World) (hI : IntS w b l s0 v) (hn : (digs v.natAbs).length = n) (hlen : n <= 1099511627776) :
  Calls Tryz.prog 31 #[.pointer (some ⟨b, 0, none⟩)] w fun e w' => ∃ (A : Option Addr) (c : Nat), e = .returned (.agg #[.bool (decide (v < 0)), .slice A n c]) /\ n <= c /\ c <= 9223372036854775807 /\ RdU w' A (digs v.natAbs) /\ Upd NoF w w' := by
 obtain ⟨i0, i1, i2, i3, i4⟩ := iUint
 have HI := Qq (Qj hI hn)
 have HS := Qq (fun (w' : World) (u : Upd NoF w w') => Sign_S b l s0 v w' (hI.upd0 u))
 have HB := Qq (fun (w' : World) (u : Upd NoF w w') => Bits_S b l s0 v w' (hI.upd0 u))
 obtain ⟨s, hs⟩ : ∃ s, decide (v < 0) = s := ⟨_, rfl⟩
 have hsl := sign_lt v
 rw [hs] at hsl ⊢
 obtain ⟨sv, hsv⟩ : ∃ sv, v.sign = sv := ⟨_, rfl⟩
 rw [hsv] at hsl HS
 rw [hn] at HB
 clear hI hn hs hsv
 go_enter Tryz.func31, Tryz.ntmps31
 go_wp2_with fail
 refine (HS.out _ ((Upd.refl NoF w).alloc _)).mono ?_
 rintro e w1 ⟨rfl, hw1⟩
 cases hw1.symm
 go_wp2_with fail
 obtain ⟨g2, hg2⟩ : ∃ g2, w.heap.size = g2 := ⟨_, rfl⟩
 obtain ⟨w2, hw2⟩ : ∃ w2, (w.alloc (.cells #[.bool false, .slice none 0 0] 24)).alloc (.cells #[.bool s, .slice none 0 0] 24) = w2 := ⟨_, rfl⟩
 rw [hg2, hw2]
 have u2 : Upd NoF w w2 := by rw [<- hw2]; exact ((Upd.refl NoF w).alloc _).alloc _
 have hh := heap_alloc_new w (.cells #[.bool false, .slice none 0 0] 24)
 have hh3 := heap_alloc_new (w.alloc (.cells #[.bool false, .slice none 0 0] 24)) (.cells #[.bool s, .slice none 0 0] 24)
 rw [World.size_alloc, hg2] at hh3
 rw [hg2] at hh
 rw [hw2] at hh3
 have m0 : Zh 24 w2 g2 0 (.bool false) := by rw [<- hw2]; exact Zh.upd (b := g2) ⟨_, hh, by simp⟩ ((Upd.refl NoF _).alloc _) (fun h => h)
 have m1 : Zh 24 w2 g2 1 (.slice none 0 0) := by rw [<- hw2]; exact Zh.upd (b := g2) ⟨_, hh, by simp⟩ ((Upd.refl NoF _).alloc _) (fun h => h)
 have m2 : Zh 24 w2 (g2 + 1) 0 (.bool s) := ⟨_, hh3, by simp⟩
 have m3 : Zh 24 w2 (g2 + 1) 1 (.slice none 0 0) := ⟨_, hh3, by simp⟩
 have HM := Qq (Qj m0 (Qj m1 (Qj m2 (Qj m3 (Qj u2 hg2)))))
 clear hw2 hg2 hh hh3 m0 m1 m2 m3 u2 hw1
 refine (HB.out _ HM.out.2.2.2.2.1).mono ?_
 rintro e w3 ⟨rfl, hw3⟩
 cases hw3.symm
 go_wp2_with fail
 go_loopw [13] (fun i wr => ∃ (k : Nat) (u : Value), k <= n /\ i = .int .i64 (k : Int) /\ wr.ownsRow (g2 + 2) 65 1 u k (vals ((digs v.natAbs).take k)) /\ Hid (Upd NoF w wr /\ Zh 24 wr g2 0 (.bool false) /\ Zh 24 wr g2 1 (.slice none 0 0) /\ Zh 24 wr (g2 + 1) 0 (.bool s) /\ Zh 24 wr (g2 + 1) 1 u))
  (fun i _ => n - (intOf i).toNat)
 case atStart => exact ⟨0, .slice none 0 0, Nat.zero_le _, rfl, World.ownsRow_nil _ _ _ _, HM.out.2.2.2.2.1, HM.out.1, HM.out.2.1, HM.out.2.2.1, HM.out.2.2.2.1⟩
 case round =>
  obtain ⟨k, u, hk, rfl, hown, HR⟩ := hrel
  by_cases hlt : k < n
  .
   have hV := HI.out.1.upd0 HR.out.1
   have eA := hV.nat.addr (by rw [HI.out.2]; omega)
   have hx := hV.nat.at_ k (by rw [HI.out.2]; omega)
   have hsn := vals_take_snoc (xs := digs v.natAbs) (k := k) (by rw [HI.out.2]; omega)
   obtain ⟨x, hxk⟩ : ∃ x, (digs v.natAbs)[k]'(by rw [HI.out.2]; omega) = x := ⟨_, rfl⟩
   rw [hxk] at hx hsn
   have c1 := hx.cell
   have HS2 := Qq hsn
   have p1 : (0 : Int) <= (k : Int) := by omega
   have hsz := HR.out.1.size
   have c2 := HR.out.2.2.2.2.cell
   have c3 := HR.out.2.2.2.2.frozen
   have hgs : w.heap.size = g2 := HM.out.2.2.2.2.2
   have hg3 := HR.out.2.2.2.2.lt
   have HO := Qq (Qj hown (show g2 + 2 <= wr.heap.size by omega))
   clear hx hsn hxk hown hV hsz hgs
   rw [eA]
   go_wp2_with (at_builtin; refine wpList_append_own_at _ rfl (.tmp 18) (.tmp 20) 22 rfl (g2 + 2) 65 i0 (.int .u64 0) 1 8 uUints i1 i2 i3 i4 rfl (by decide) _ _ _ rfl (HO.out.1.alloc _) ⟨wr.heap.size, 0, none⟩ 1 1 [.int .u64 (x : Int)] rfl rfl ?c1 ?c2 ?c3 ?c4 ?c5 ?_)
   case c1 =>
    intro j u hj
    cases j with
    | zero => cases hj; rw [addr_add]; exact (Zh.new (by simp) (heap_alloc_new wr _)).cell
    | succ j => simp at hj
   case c2 => simp [Value.oneCell']
   case c3 => unfold maxLen; omega
   case c4 => omega
   case c5 => have := HO.out.2; simp; omega
   intro u' w1 hown1 hgrow _ _
   obtain ⟨g', cap', rfl⟩ : ∃ g' cap', u' = .slice (some ⟨g', 0, none⟩) (k + 1) cap' := by
    rcases hown1.2 with ⟨_, h⟩ | ⟨g, cap, cur, h1, _⟩
    . omega
    . exact ⟨g, cap, h1⟩
   obtain ⟨u', hu'⟩ : ∃ u', Value.slice (some ⟨g', 0, none⟩) (k + 1) cap' = u' := ⟨_, rfl⟩
   rw [hu'] at hown1
   have hge : ∀ k, u.ownBlock = some k -> g2 + 2 <= k := fun k hk => (HO.out.1.lt k hk).1
   have hU1 : Upd NoF w w1 := (HR.out.1.alloc _).grown hgrow (fun k hk => by have := hge k hk; have := HM.out.2.2.2.2.2; omega)
   have hkeep : ∀ {b i : Nat} {y : Value}, Zh 24 wr b i y -> b < g2 + 2 -> Zh 24 w1 b i y := fun hc hb => by
    obtain ⟨cs, h1, h2⟩ := hc.upd ((Upd.refl NoF wr).alloc (.cells #[.int .u64 (x : Int)] 65)) (fun h => h)
    exact ⟨cs, (hgrow.block _ (heap_lt h1) (fun e => by have := hge _ e.symm; omega)).trans h1, h2⟩
   have n0 := hkeep HR.out.2.1 (by omega)
   have n1 := hkeep HR.out.2.2.1 (by omega)
   have n2 := hkeep HR.out.2.2.2.1 (by omega)
   have n3 := hkeep HR.out.2.2.2.2 (by omega)
   have d1 := n3.cell
   have d2 := n3.frozen
   have hW : ∀ y : Value, Upd NoF w (w1.setCell ⟨g2 + 1, 1, none⟩ y) := fun y => hU1.setCell (fun h => by have := HM.out.2.2.2.2.2; omega) y
   have hown2 : (w1.setCell ⟨g2 + 1, 1, none⟩ u').ownsRow (g2 + 2) 65 1 u' (k + 1) (vals ((digs v.natAbs).take (k + 1))) := by
    rw [HS2.out] at hown1
    refine ⟨hown1.1, ?_⟩
    rcases hown1.2 with h | ⟨g, cap, cur, h1, h2, h3, h4⟩
    . exact Or.inl h
    . exact Or.inr ⟨g, cap, cur, h1, h2, (Below.heap_setCell w1 ⟨g2 + 1, 1, none⟩ u' g (by simp only; omega)).trans h3, h4⟩
   have HF := Qq (Qj hown2 (Qj (hW u') (Qj (n0.far u' (b' := g2 + 1) (i' := 1) (by omega)) (Qj (n1.far u' (b' := g2 + 1) (i' := 1) (by omega)) (Qj (n2.far u' (b' := g2 + 1) (i' := 1) (by omega)) (n3.set u'))))))
   clear hown1 hgrow hge hU1 hkeep n0 n1 n2 n3 hW hown2 c1 c2 c3
   subst hu'
   go_wp2_with fail
   go_roundw
   case rel => exact ⟨k + 1, _, by omega, by go_num, HF.out.1, HF.out.2⟩
   case measure => simp [intOf]; omega
  .
   have hkn : k = n := by omega
   subst hkn
   rw [List.take_of_length_le (by rw [HI.out.2]; exact Nat.le_refl _)] at hown
   have hread : ∃ (A : Option Addr) (c : Nat), u = .slice A k c /\ k <= c /\ c <= 9223372036854775807 /\ RdU wr A (digs v.natAbs) /\ (∀ g, u.ownBlock = some g -> g2 + 2 <= g) := by
    have hl := hown.1
    have hlt := fun g hg => (hown.lt g hg).1
    rcases hown.2 with ⟨rfl, h0⟩ | ⟨g, cap, cur, rfl, h1, h2, h3, h4, h5, h6⟩
    . exact ⟨none, 0, by rw [h0], by omega, by omega, fun h => by rw [HI.out.2] at h; omega, hlt⟩
    .
     refine ⟨some ⟨g, 0, none⟩, cap, rfl, h3, h4, fun _ => ⟨_, rfl, fun i hi => ?_⟩, hlt⟩
     refine hown.cells (g := g) rfl i _ ?_
     simp [vals, hi]
   obtain ⟨A, c, rfl, hc, hc2, hrd, hge⟩ := hread
   have c1 := HR.out.2.1.cell
   have c2 := HR.out.2.2.1.cell
   have c3 := HR.out.2.2.2.1.cell
   have c4 := HR.out.2.2.2.2.cell
   have f1 := HR.out.2.1.frozen
   have f2 := HR.out.2.2.1.frozen
   have hU := HR.out.1
   have hgs := HM.out.2.2.2.2.2
   have hU2 : Upd NoF w ((wr.setCell ⟨g2, 0, none⟩ (.bool s)).setCell ⟨g2, 1, none⟩ (.slice A k c)) := (hU.setCell (fun h => by omega) _).setCell (fun h => by omega) _
   have hrd2 : RdU ((wr.setCell ⟨g2, 0, none⟩ (.bool s)).setCell ⟨g2, 1, none⟩ (.slice A k c)) A (digs v.natAbs) := fun h => by
    obtain ⟨ad, rfl, hcell⟩ := hrd h
    have hb := hge ad.block rfl
    refine ⟨ad, rfl, fun i hi => ?_⟩
    have h1 := hcell i hi
    have hab : (ad.add i).block = ad.block := by unfold Addr.add; split <;> rfl
    rw [World.cell?_setCell_other _ _ _ _ (fun e => by rw [<- e] at hab; simp only at hab; omega), World.cell?_setCell_other _ _ _ _ (fun e => by rw [<- e] at hab; simp only at hab; omega)]
    exact h1
   have HF := Qq (Qj hc (Qj hc2 (Qj hrd2 hU2)))
   clear hown hrd hge hU hgs hU2 hrd2 hc hc2
   go_wp2_with fail
   exact bodyPost_ret (v := .agg #[.bool s, .slice A k c]) (by simp [results, Tryz.results31, go_sem, c1, c2]) rfl ⟨A, c, rfl, HF.out⟩
theorem told_any (b n : Nat) (l : Loc) (v : Int) (w : World) (hI : IntV w b l v) (hn : (digs v.natAbs).length = n) (hlen : n <= 1099511627776) :
  Calls Tryz.prog 31 #[.pointer (some ⟨b, 0, none⟩)] w fun e w' => ∃ (A : Option Addr) (c : Nat), e = .returned (.agg #[.bool (decide (v < 0)), .slice A n c]) /\ n <= c /\ c <= 9223372036854775807 /\ RdU w' A (digs v.natAbs) /\ Upd NoF w w' := told_S b n l _ v w hI.s hn hlen
theorem IntD.made {w w' : World} (u : Upd NoF (w.alloc (.cells #[.bool false, .slice none 0 0] 58)) w') : IntD w' w.heap.size ⟨none, 0, 0, 0⟩ false 0 := IntD.boxed (w := w) (l := ⟨none, 0, 0, 0⟩) (n := 0) (Loc.Ok.nil w 0 0) u
end Go.Proofs.YthkklkjldpcbkaaGreatDoor
