/- For the claim of laws.FnGcdDivides: IntOps, ImplOf, ImplTold, ImplMul. -/
import Derived.Test.YthkklkjldpcbkaaGreatDoorKgB1
import Derived.Maps.AppendAt
import Derived.Deep.RegionHeld3
set_option linter.unusedVariables false
set_option linter.unusedSimpArgs false
namespace Go.Proofs.YthkklkjldpcbkaaGreatDoor
open Go.RowKit
theorem natAbs_len_zero {v : Int} : (digs v.natAbs).length = 0 ↔ v = 0 := by
 rw [digs_len_eq_zero]; omega
theorem Sign_S (b : Nat) (l : Loc) (s : Bool) (v : Int) (w : World) (h : IntS w b l s v) :
  Calls Tryz.prog 54 #[.pointer (some ⟨b, 0, none⟩)] w fun e w' => e = .returned (.int .i64 v.sign) ∧ w' = w := by
 have c1 := h.neg.cell
 have c2 := h.abs.cell
 rcases Int.lt_trichotomy v 0 with h0 | h0 | h0
 ·
  have q1 : (((digs v.natAbs).length : Int) == 0) = false := beq_eq_false_iff_ne.2 (by have := mt natAbs_len_zero.1 (by omega : v ≠ 0); omega)
  rw [show s = true by cases hs : s with | true => rfl | false => exact absurd (h.sg.2 hs) (by omega)] at c1
  have HS := Lib.hid (Int.sign_eq_neg_one_of_neg h0)
  clear h0 h
  go_enter Tryz.func54, Tryz.ntmps54
  go_wp2
  go_ret
  exact ⟨by rw [HS.out]; rfl, rfl⟩
 ·
  subst h0
  have q1 : (digs (0 : Int).natAbs).length = 0 := natAbs_len_zero.2 rfl
  rw [q1] at c2
  have q2 : ((0 : Int) == 0) = true := rfl
  clear q1 h
  go_enter Tryz.func54, Tryz.ntmps54
  go_wp2
  go_ret
  exact ⟨rfl, rfl⟩
 ·
  have q1 : (((digs v.natAbs).length : Int) == 0) = false := beq_eq_false_iff_ne.2 (by have := mt natAbs_len_zero.1 (by omega : v ≠ 0); omega)
  rw [show s = false by cases hs : s with | false => rfl | true => exact absurd (h.sg.1 hs) (by omega)] at c1
  have HS := Lib.hid (Int.sign_eq_one_of_pos h0)
  clear h0 h
  go_enter Tryz.func54, Tryz.ntmps54
  go_wp2
  go_ret
  exact ⟨by rw [HS.out]; rfl, rfl⟩
theorem Bits_S (b : Nat) (l : Loc) (s : Bool) (v : Int) (w : World) (h : IntS w b l s v) :
  Calls Tryz.prog 55 #[.pointer (some ⟨b, 0, none⟩)] w fun e w' => e = .returned (.slice l.A (digs v.natAbs).length l.c) ∧ w' = w := by
 have c2 := h.abs.cell
 clear h
 go_enter Tryz.func55, Tryz.ntmps55
 go_wp2
 go_ret
 exact ⟨rfl, rfl⟩
theorem IntV.stored {w : World} {zb n : Nat} {lz l : Loc} {s : Bool} (hz : IntD w zb lz s n) {v : Int} (hN : NatV w l v.natAbs) :
  IntV ((w.setCell ⟨zb, 1, none⟩ (.slice l.A (digs v.natAbs).length l.c)).setCell ⟨zb, 0, none⟩ (.bool (decide (v < 0)))) zb l v ∧ Upd (Blk zb) w ((w.setCell ⟨zb, 1, none⟩ (.slice l.A (digs v.natAbs).length l.c)).setCell ⟨zb, 0, none⟩ (.bool (decide (v < 0)))) := by
 have u2 := blk_upd w zb 0 (.slice l.A (digs v.natAbs).length l.c) (.bool (decide (v < 0)))
 have hb : ∀ i, i < (digs v.natAbs).length → ¬ Blk zb l.b (l.o + i) := fun i hi h => hz.neg.neW (hN.at_ i hi) (by decide) h.symm
 exact ⟨⟨(hz.neg.far _ (by omega)).set _, (hz.abs.set _).far _ (by omega), hN.upd u2 hb⟩, u2⟩
theorem SetBits_any (zb nz : Nat) (lz l : Loc) (s : Bool) (xs : List Nat) (w : World) (hz : IntD w zb lz s nz) (hx : VecV w l xs) :
  Calls Tryz.prog 52 #[.pointer (some ⟨zb, 0, none⟩), .slice l.A xs.length l.c] w fun e w' => e = .returned (.pointer (some ⟨zb, 0, none⟩)) ∧ IntV w' zb l (val B64 xs : Nat) ∧ Upd (Blk zb) w w' := by
 have c1 := hz.neg.cell
 have c2 := hz.neg.frozen
 have c3 := hz.abs.cell
 have c4 := hz.abs.frozen
 have hN := norm_any l.A l.b l.o l.c xs w (fun h => hx.addr h) hx.le hx.ok.1 hx.at_ hx.dig
 have hs := IntV.stored (v := (val B64 xs : Nat)) hz (by rw [Int.natAbs_natCast]; exact hx.norm)
 rw [decide_eq_false (by omega : ¬ ((val B64 xs : Nat) : Int) < 0), Int.natAbs_natCast] at hs
 have HN := Lib.hid (And.intro hN hs)
 clear hN hs hz hx
 go_enter Tryz.func52, Tryz.ntmps52
 go_wp2_with fail
 refine HN.out.1.mono ?_
 rintro e w' ⟨rfl, hw'⟩
 cases hw'.symm
 go_wp2
 go_ret
 exact ⟨rfl, HN.out.2⟩
theorem neq_ints {w : World} {b b' : Nat} (ha : Free w b) (hb : Free w b') {r : Bool} (hr : ((⟨b, 0, none⟩ : Addr) == ⟨b', 0, none⟩) = r) :
  (binOp .neq 54 (.pointer (some ⟨b, 0, none⟩)) (.pointer (some ⟨b', 0, none⟩))).run Tryz.prog w = .ok (.bool (!r)) w := by
 obtain ⟨i, hi⟩ : ∃ i, Tryz.prog.info? 58 = some i ∧ i.size = 2 := by
  have h := iInt3
  cases hq : Tryz.prog.info? 58 with
  | none => rw [hq] at h; cases h
  | some i => exact ⟨i, rfl, by rw [hq] at h; simpa using h⟩
 exact run_neq_ptr (a := ⟨b, 0, none⟩) (b := ⟨b', 0, none⟩) uPInt hi.1 (by omega) ha hb hr
theorem neq_intsO {w : World} {b b' o' : Nat} (ha : Free w b) (hb : Free w b') {r : Bool} (hr : ((⟨b, 0, none⟩ : Addr) == ⟨b', o', none⟩) = r) :
  (binOp .neq 54 (.pointer (some ⟨b, 0, none⟩)) (.pointer (some ⟨b', o', none⟩))).run Tryz.prog w = .ok (.bool (!r)) w := by
 obtain ⟨i, hi⟩ : ∃ i, Tryz.prog.info? 58 = some i ∧ i.size = 2 := by
  have h := iInt3
  cases hq : Tryz.prog.info? 58 with
  | none => rw [hq] at h; cases h
  | some i => exact ⟨i, rfl, by rw [hq] at h; simpa using h⟩
 exact run_neq_ptr (a := ⟨b, 0, none⟩) (b := ⟨b', o', none⟩) uPInt hi.1 (by omega) ha hb hr
theorem Set_self (b : Nat) (l : Loc) (v : Int) (w : World) (h : IntV w b l v) :
  Calls Tryz.prog 49 #[.pointer (some ⟨b, 0, none⟩), .pointer (some ⟨b, 0, none⟩)] w fun e w' => e = .returned (.pointer (some ⟨b, 0, none⟩)) ∧ w' = w := by
 have q1 := neq_ints h.neg.free h.neg.free (r := true) (by simp)
 clear h
 go_enter Tryz.func49, Tryz.ntmps49
 go_wp2
 go_ret
 exact ⟨rfl, rfl⟩
theorem Neg_self (b : Nat) (l : Loc) (v : Int) (w : World) (h : IntV w b l v) :
  Calls Tryz.prog 53 #[.pointer (some ⟨b, 0, none⟩), .pointer (some ⟨b, 0, none⟩)] w fun e w' => e = .returned (.pointer (some ⟨b, 0, none⟩)) ∧ IntV w' b l (-v) ∧ Upd (Blk b) w w' := by
 have c1 := h.neg.cell
 have c2 := h.neg.frozen
 have c3 := h.abs.cell
 obtain ⟨sv, hsv⟩ : ∃ s, decide (v < 0) = s := ⟨_, rfl⟩
 rw [hsv] at c1
 have HS := Lib.hid (Set_self b l v w h)
 have hs : ∀ s : Bool, s = decide (-v < 0) → IntV (w.setCell ⟨b, 0, none⟩ (.bool s)) b l (-v) ∧ Upd (Blk b) w (w.setCell ⟨b, 0, none⟩ (.bool s)) := fun s e => by
  subst e
  have u : Upd (Blk b) w (w.setCell ⟨b, 0, none⟩ (.bool (decide (-v < 0)))) := (Upd.refl (Blk b) w).setCell (fun _ => rfl) _
  refine ⟨⟨h.neg.set _, ?_, ?_⟩, u⟩
  · rw [Int.natAbs_neg]; exact h.abs.far _ (by omega)
  · rw [Int.natAbs_neg]; exact h.nat.upd u (fun i hi hb => h.neg.neW (h.nat.at_ i hi) (by decide) hb.symm)
 by_cases h0 : v = 0
 ·
  have q0 : decide (0 < (digs v.natAbs).length) = false := decide_eq_false (by rw [natAbs_len_zero.2 h0]; omega)
  have HH := Lib.hid (hs false (by subst h0; rfl))
  clear h0 hs hsv h
  go_enter Tryz.func53, Tryz.ntmps53
  go_wp2_with fail
  refine HS.out.mono ?_
  rintro e w' ⟨rfl, hw'⟩
  cases hw'.symm
  go_wp2
  go_ret
  exact ⟨rfl, HH.out⟩
 ·
  have q0 : decide (0 < (digs v.natAbs).length) = true := decide_eq_true (by have := mt natAbs_len_zero.1 h0; omega)
  have HH := Lib.hid (hs (!sv) (by rw [← hsv]; by_cases h1 : v < 0 <;> simp [h1] <;> omega))
  clear h0 hs hsv h
  go_enter Tryz.func53, Tryz.ntmps53
  go_wp2_with fail
  refine HS.out.mono ?_
  rintro e w' ⟨rfl, hw'⟩
  cases hw'.symm
  go_wp2
  go_ret
  exact ⟨rfl, HH.out⟩
set_option maxRecDepth 1000000 in
theorem Set_anyO (zb xb xo nz : Nat) (lz lx : Loc) (s : Bool) (X : Int) (w : World) (hz : IntD w zb lz s nz) (hx : IntVo w xb xo lx X) (hne : zb ≠ xb) (hsep : ∀ k j, ¬ ZF lz k xb j) (hm : (digs X.natAbs).length ≤ 1099511627776) :
  Calls Tryz.prog 49 #[.pointer (some ⟨zb, 0, none⟩), .pointer (some ⟨xb, xo, none⟩)] w fun e w' => e = .returned (.pointer (some ⟨zb, 0, none⟩)) ∧ IntRes w zb lz (digs X.natAbs).length X w' := by
 have q1 := neq_intsO (o' := xo) hz.neg.free hx.free (r := false) (by rw [addr_beq]; exact decide_eq_false (fun h => hne h.1))
 have c1 := hz.neg.cell
 have c2 := hz.neg.frozen
 have c3 := hz.abs.cell
 have c4 := hz.abs.frozen
 have c5 := hx.neg
 have c6 := hx.abs
 have HS := Lib.hid (fun (w' : World) (u : Upd NoF w w') => (set_any lz lx nz X.natAbs w' (hz.ok.upd u) (hx.nat.upd0 u) hm).mono (fun _ _ h => NatRes.since u h))
 have HX := Lib.hid (And.intro hz hx)
 have HN := Lib.hid hne
 have HP := Lib.hid hsep
 clear hz hx hne hsep
 go_enter Tryz.func49, Tryz.ntmps49
 go_wp2_with fail
 refine wp_region_pre_tail 1 9 (by kernel_rfl) (by kernel_rfl) ?_
 simp only [List.take_succ_cons, List.take_zero, List.drop_succ_cons, List.drop_zero]
 repeat (refine wpPure_step ?_ (fun _ _ _ h => h) (by rfl) (by intro _; go_simp; with_reducible rfl) ?_; (try simp only [Act.put, List.setIfInBounds_toArray, List.set_cons_zero, List.set_cons_succ]))
 refine wpPure_nil ?_
 repeat still_step
 refine wpStill_nil ?_
 go_wp2_with fail
 refine (HS.out _ ((Upd.refl NoF w).drew)).mono ?_
 rintro e w1 ⟨r, rfl, h1, h2, h3, h4⟩
 have d1 := (HX.out.1.keep HX.out.1.ok h3).abs.cell
 have d2 := (HX.out.1.keep HX.out.1.ok h3).abs.frozen
 have d3 := (HX.out.1.keep HX.out.1.ok h3).neg.cell
 have d4 := (HX.out.1.keep HX.out.1.ok h3).neg.frozen
 have d5 := h3.cell HX.out.2.neg (HP.out _ _)
 have HM := Lib.hid (IntRes.made HX.out.1 h1 h2 h3 h4 (v := X) rfl)
 clear h1 h2 h3 h4 c1 c2 c3 c4 c5 c6
 have hn1 : ¬ zb = xb := HN.out
 have hn2 : ¬ xb = zb := fun h => hn1 h.symm
 go_wp2
 go_ret
 exact ⟨rfl, HM.out⟩
theorem Set_any (zb xb nz : Nat) (lz lx : Loc) (s : Bool) (X : Int) (w : World) (hz : IntD w zb lz s nz) (hx : IntV w xb lx X) (hne : zb ≠ xb) (hm : (digs X.natAbs).length ≤ 1099511627776) :
  Calls Tryz.prog 49 #[.pointer (some ⟨zb, 0, none⟩), .pointer (some ⟨xb, 0, none⟩)] w fun e w' => e = .returned (.pointer (some ⟨zb, 0, none⟩)) ∧ IntRes w zb lz (digs X.natAbs).length X w' :=
 Set_anyO zb xb 0 nz lz lx s X w hz hx.at0 hne (fun k j => ZF.no hz.ok hx.neg (by decide) k j) hm
end Go.Proofs.YthkklkjldpcbkaaGreatDoor
namespace Go.Proofs.YthkklkjldpcbkaaGreatDoor
open Go.RowKit
theorem Upd.grown {w wr w1 : World} {row : Option Nat} (h : Upd NoF w wr) (hg : wr.grownBy w1 row) (hr : ∀ k, row = some k → w.heap.size ≤ k) : Upd NoF w w1 :=
 ⟨hg.os.trans h.os, hg.tape.trans h.tape, hg.output.trans h.output, Nat.le_trans h.size hg.size, fun b o hb => by
  obtain ⟨o', h1, h2⟩ := h.keep b o hb
  exact ⟨o', (hg.block b (heap_lt h1) (fun e => by have := hr b e.symm; have := heap_lt hb; omega)).trans h1, h2⟩⟩
def RdU (w : World) (A : Option Addr) (xs : List Nat) : Prop := 0 < xs.length → ∃ ad, A = some ad ∧ ∀ i (h : i < xs.length), w.cell? (ad.add i) = some (.int .u64 ((xs[i] : Nat) : Int))
theorem RdU.upd {w w' : World} {A : Option Addr} {xs : List Nat} (h : RdU w A xs) (u : Upd NoF w w') : RdU w' A xs := fun h0 => by
 obtain ⟨ad, e, hc⟩ := h h0
 refine ⟨ad, e, fun i hi => ?_⟩
 have h1 := hc i hi
 have hb := (u.below (w := w) w.heap.size (Nat.le_refl _) (fun _ _ _ h => h))
 exact (hb.cell (World.block_lt_of_cell? w _ h1)).trans h1
theorem VecV.owned {w : World} {base n : Nat} {v : Value} {xs : List Nat} (h : w.ownsRow base 81 1 v n (vals xs)) (hn : xs.length = n) (hd : Digs B64 xs) : ∃ l : Loc, v = .slice l.A n l.c ∧ VecV w l xs ∧ (0 < l.c → base ≤ l.b) := by
 obtain ⟨hl, ⟨rfl, rfl⟩ | ⟨g, cap, cur, rfl, hb, hg, hc, hm, hs, ht⟩⟩ := h
 ·
  have : xs = [] := List.eq_nil_of_length_eq_zero hn
  subst this
  exact ⟨⟨none, 0, 0, 0⟩, rfl, ⟨Loc.Ok.nil _ _ _, Nat.le_refl _, U64.nil _ _ _, Digs.nil⟩, fun h => absurd h (Nat.lt_irrefl 0)⟩
 ·
  unfold maxLen at hm
  refine ⟨Loc.mk1 g 0 cap, rfl, ⟨Loc.Ok.mk1 (by omega) (fun i hi => ?_), by simp only; omega, fun i hi => ?_, hd⟩, fun _ => hb⟩
  · exact ⟨cur[i]'(by omega), CellT.word ⟨cur, hg, by rw [Nat.zero_add, Array.getElem?_eq_getElem (by omega)]⟩⟩
  ·
   refine CellT.word ⟨cur, hg, ?_⟩
   rw [Nat.zero_add]
   have h1 : (vals xs)[i]? = some (.int .u64 ((xs[i] : Nat) : Int)) := by simp [vals, hi]
   rw [← ht, List.getElem?_take] at h1
   split at h1
   · simpa using h1
   · cases h1
def sg (neg : Bool) (n : Nat) : Int := if neg then -(n : Int) else n
theorem vals_take_snoc {xs : List Nat} {k : Nat} (h : k < xs.length) : vals (xs.take k) ++ [.int .u64 ((xs[k] : Nat) : Int)] = vals (xs.take (k + 1)) := by
 unfold vals; rw [List.take_succ_eq_append_getElem h, List.map_append]; rfl
set_option maxRecDepth 1000000 in
set_option maxHeartbeats 1600000 in
theorem of_any (neg : Bool) (A : Option Addr) (n c : Nat) (xs : List Nat) (w : World) (hn : xs.length = n) (hc : n ≤ c) (hlen : n ≤ 1099511627776) (hd : Digs B64 xs) (hr : RdU w A xs) :
  Calls Tryz.prog 30 #[.agg #[.bool neg, .slice A n c]] w fun e w' => ∃ (ib : Nat) (l : Loc), e = .returned (.pointer (some ⟨ib, 0, none⟩)) ∧ w.heap.size ≤ ib ∧ (0 < l.c → w.heap.size ≤ l.b) ∧ IntV w' ib l (sg neg (val B64 xs)) ∧ Upd NoF w w' := by
 obtain ⟨i0, i1, i2, i3, i4⟩ := iWord
 have HX := Lib.hid (And.intro hn (And.intro hd hr))
 clear hn hd hr
 go_enter Tryz.func30, Tryz.ntmps30
 go_wp2_with fail
 have hk0 : CellT 24 (w.alloc (.cells #[.bool neg, .slice A n c] 24)) w.heap.size 0 (.bool neg) := CellT.new (by simp) (heap_alloc_new w _)
 go_loopw [3, 10] (fun v i wr => ∃ k : Nat, k ≤ n ∧ i = .int .i64 (k : Int) ∧ wr.ownsRow (w.heap.size + 1) 81 1 v k (vals (xs.take k)) ∧ Upd NoF w wr ∧ CellT 24 wr w.heap.size 0 (.bool neg))
  (fun _ i _ => n - (intOf i).toNat)
 case atStart => exact ⟨0, Nat.zero_le _, rfl, World.ownsRow_nil _ _ _ _, (Upd.refl NoF w).alloc _, hk0⟩
 case round =>
  obtain ⟨k, hk, rfl, hown, hU, hK⟩ := hrel
  by_cases hlt : k < n
  ·
   have hrd := HX.out.2.2.upd hU
   obtain ⟨ad, rfl, hcell⟩ := hrd (by rw [HX.out.1]; omega)
   have hx := hcell k (by rw [HX.out.1]; omega)
   have hsn := vals_take_snoc (xs := xs) (k := k) (by rw [HX.out.1]; omega)
   obtain ⟨x, hxk⟩ : ∃ x, xs[k]'(by rw [HX.out.1]; omega) = x := ⟨_, rfl⟩
   rw [hxk] at hx hsn
   have HS := Lib.hid hsn
   have HK := Lib.hid (And.intro hU hK)
   have p1 : (0 : Int) ≤ (k : Int) := by omega
   have hsz := hU.size
   have hown2 := fun (o : Obj) => hown.alloc o
   have HO := Lib.hid hown
   clear hxk hsn hcell hU hK hk0 hown
   go_wp2_with (at_builtin; refine wpList_append_own_at _ rfl (.tmp 14) (.tmp 16) 55 rfl (w.heap.size + 1) 81 i0 (.int .u64 0) 1 8 uWords i1 i2 i3 i4 rfl (by decide) _ _ _ rfl (HO.out.alloc _) ⟨wr.heap.size, 0, none⟩ 1 1 [.int .u64 (x : Int)] rfl rfl ?c1 ?c2 ?c3 ?c4 ?c5 ?_)
   case c1 =>
    intro j u hj
    cases j with
    | zero => cases hj; rw [addr_add]; exact (CellT.new (by simp) (heap_alloc_new wr _)).cell
    | succ j => simp at hj
   case c2 => simp [Value.oneCell']
   case c3 => unfold maxLen; omega
   case c4 => omega
   case c5 => simp; omega
   intro v' w1 hown1 hgrow _ _
   have hU1 : Upd NoF w w1 := (HK.out.1.alloc _).grown hgrow (fun k hk => by have := (HO.out.lt k hk).1; omega)
   have hK1 : CellT 24 w1 w.heap.size 0 (.bool neg) := by
    obtain ⟨cs, h1, h2⟩ := HK.out.2.upd ((Upd.refl NoF wr).alloc _) (fun h => h)
    exact ⟨cs, (hgrow.block _ (heap_lt h1) (fun e => by have := (HO.out.lt _ e.symm).1; omega)).trans h1, h2⟩
   rw [HS.out] at hown1
   clear hown2 hrd hx hsz HO HK
   go_wp2_with fail
   go_roundw
   case rel => exact ⟨k + 1, by omega, by go_num, hown1, hU1, hK1⟩
   case measure => simp [intOf]; omega
  ·
   have hkn : k = n := by omega
   subst hkn
   obtain ⟨l, rfl, hV, hl⟩ := VecV.owned hown (by rw [List.length_take, HX.out.1]; omega) (HX.out.2.1.take k)
   rw [List.take_of_length_le (by rw [HX.out.1]; exact Nat.le_refl _)] at hV
   have HV := Lib.hid (And.intro hV (And.intro hl (And.intro hU hK)))
   have hs := hU.size
   clear hown hV hl hU hK hk0
   go_wp2_with fail
   obtain ⟨ib, hib⟩ : ∃ ib, wr.heap.size = ib := ⟨_, rfl⟩
   obtain ⟨wi, hwi⟩ : ∃ wi, wr.alloc (.cells #[.bool false, .slice none 0 0] 58) = wi := ⟨_, rfl⟩
   rw [hib, hwi]
   have uI : Upd NoF wr wi := by rw [← hwi]; exact (Upd.refl NoF wr).alloc _
   have hD : IntD wi ib ⟨none, 0, 0, 0⟩ false 0 := by
    have := IntD.boxed (w := wr) (l := ⟨none, 0, 0, 0⟩) (n := 0) (Loc.Ok.nil wr 0 0) (Upd.refl NoF _)
    rw [hib, hwi] at this
    exact this
   have hB : Calls Tryz.prog 52 #[.pointer (some ⟨ib, 0, none⟩), .slice l.A k l.c] wi fun e w' => e = .returned (.pointer (some ⟨ib, 0, none⟩)) ∧ IntV w' ib l (val B64 xs : Nat) ∧ Upd (Blk ib) wi w' := by
    have := SetBits_any ib 0 ⟨none, 0, 0, 0⟩ l false xs wi hD (HV.out.1.upd0 uI)
    rwa [HX.out.1] at this
   have HB := Lib.hid (And.intro hB (And.intro uI (show w.heap.size ≤ ib by omega)))
   have hnum := (HV.out.2.2.2.upd uI (fun h => h))
   have HN := Lib.hid hnum
   have hlt2 : w.heap.size < ib := by have := HV.out.2.2.2.lt; omega
   clear hwi hib uI hD hB hnum hs
   refine HB.out.1.mono ?_
   rintro e w2 ⟨rfl, hI, hU2⟩
   have cn := (HN.out.upd hU2 (fun h => by have : _ = ib := h; omega)).cell
   have hUa : Upd NoF w w2 := (HV.out.2.2.1.trans HB.out.2.1).then hU2 (fun _ _ _ h => h.elim) (fun b i hb h => by have : b = ib := h; omega)
   cases neg with
   | false =>
    have HF := Lib.hid (And.intro hI hUa)
    clear hI hUa hU2
    go_wp2
    go_ret
    exact ⟨ib, l, rfl, by omega, fun h => by have := HV.out.2.1 h; omega, HF.out⟩
   | true =>
    have HF := Lib.hid (And.intro hI (And.intro hUa (Neg_self ib l _ w2 hI)))
    clear hI hUa hU2
    go_wp2_with fail
    refine HF.out.2.2.mono ?_
    rintro e w3 ⟨rfl, hI, hU3⟩
    have hUb : Upd NoF w w3 := HF.out.2.1.then hU3 (fun _ _ _ h => h.elim) (fun b i hb h => by have : b = ib := h; omega)
    have HG := Lib.hid (And.intro hI hUb)
    clear hI hUb hU3
    go_wp2
    go_ret
    exact ⟨ib, l, rfl, by omega, fun h => by have := HV.out.2.1 h; omega, HG.out⟩
end Go.Proofs.YthkklkjldpcbkaaGreatDoor
namespace Go.Proofs.YthkklkjldpcbkaaGreatDoor
open Go.RowKit
theorem iUint3 : (Tryz.prog.info? 65).map (fun i => (i.zero, i.size, i.bytes)) = some (some (.int .u64 0), 1, 8) := by kernel_rfl
theorem uUints : Tryz.prog.underlying 22 = some (.slice 65) := by kernel_rfl
theorem iUint : ∃ i, Tryz.prog.info? 65 = some i ∧ i.zero = some (.int .u64 0) ∧ i.size = 1 ∧ i.bytes = 8 := info_parts iUint3
theorem sign_lt (v : Int) : decide (v.sign < 0) = decide (v < 0) := by
 by_cases h : v < 0
 · rw [Int.sign_eq_neg_one_of_neg h, decide_eq_true h]; rfl
 ·
  rw [decide_eq_false h]
  rcases Int.lt_trichotomy v 0 with h0 | h0 | h0
  · omega
  · subst h0; rfl
  · rw [Int.sign_eq_one_of_pos h0]; rfl
set_option maxRecDepth 1000000 in
set_option maxHeartbeats 1600000 in
theorem told_S (b n : Nat) (l : Loc) (s0 : Bool) (v : Int) (w : World) (hI : IntS w b l s0 v) (hn : (digs v.natAbs).length = n) (hlen : n ≤ 1099511627776) :
  Calls Tryz.prog 31 #[.pointer (some ⟨b, 0, none⟩)] w fun e w' => ∃ (A : Option Addr) (c : Nat), e = .returned (.agg #[.bool (decide (v < 0)), .slice A n c]) ∧ n ≤ c ∧ c ≤ 9223372036854775807 ∧ RdU w' A (digs v.natAbs) ∧ Upd NoF w w' := by
 obtain ⟨i0, i1, i2, i3, i4⟩ := iUint
 have HI := Lib.hid (And.intro hI hn)
 have HS := Lib.hid (fun (w' : World) (u : Upd NoF w w') => Sign_S b l s0 v w' (hI.upd0 u))
 have HB := Lib.hid (fun (w' : World) (u : Upd NoF w w') => Bits_S b l s0 v w' (hI.upd0 u))
 obtain ⟨s, hs⟩ : ∃ s, decide (v < 0) = s := ⟨_, rfl⟩
 have hsl := sign_lt v
 rw [hs] at hsl ⊢
 obtain ⟨sv, hsv⟩ : ∃ sv, v.sign = sv := ⟨_, rfl⟩
 rw [hsv] at hsl HS
 rw [hn] at HB
 clear hI hn hs hsv
 go_enter Tryz.func31, Tryz.ntmps31
 go_wp2_with fail
 refine (HS.out _ ((Upd.refl NoF w).alloc _)).mono ?_
 rintro e w1 ⟨rfl, hw1⟩
 cases hw1.symm
 go_wp2_with fail
 obtain ⟨g2, hg2⟩ : ∃ g2, w.heap.size = g2 := ⟨_, rfl⟩
 obtain ⟨w2, hw2⟩ : ∃ w2, (w.alloc (.cells #[.bool false, .slice none 0 0] 24)).alloc (.cells #[.bool s, .slice none 0 0] 24) = w2 := ⟨_, rfl⟩
 rw [hg2, hw2]
 have u2 : Upd NoF w w2 := by rw [← hw2]; exact ((Upd.refl NoF w).alloc _).alloc _
 have hh := heap_alloc_new w (.cells #[.bool false, .slice none 0 0] 24)
 have hh3 := heap_alloc_new (w.alloc (.cells #[.bool false, .slice none 0 0] 24)) (.cells #[.bool s, .slice none 0 0] 24)
 rw [World.size_alloc, hg2] at hh3
 rw [hg2] at hh
 rw [hw2] at hh3
 have m0 : CellT 24 w2 g2 0 (.bool false) := by rw [← hw2]; exact CellT.upd (b := g2) ⟨_, hh, by simp⟩ ((Upd.refl NoF _).alloc _) (fun h => h)
 have m1 : CellT 24 w2 g2 1 (.slice none 0 0) := by rw [← hw2]; exact CellT.upd (b := g2) ⟨_, hh, by simp⟩ ((Upd.refl NoF _).alloc _) (fun h => h)
 have m2 : CellT 24 w2 (g2 + 1) 0 (.bool s) := ⟨_, hh3, by simp⟩
 have m3 : CellT 24 w2 (g2 + 1) 1 (.slice none 0 0) := ⟨_, hh3, by simp⟩
 have HM := Lib.hid (And.intro m0 (And.intro m1 (And.intro m2 (And.intro m3 (And.intro u2 hg2)))))
 clear hw2 hg2 hh hh3 m0 m1 m2 m3 u2 hw1
 refine (HB.out _ HM.out.2.2.2.2.1).mono ?_
 rintro e w3 ⟨rfl, hw3⟩
 cases hw3.symm
 go_wp2_with fail
 go_loopw [13] (fun i wr => ∃ (k : Nat) (u : Value), k ≤ n ∧ i = .int .i64 (k : Int) ∧ wr.ownsRow (g2 + 2) 65 1 u k (vals ((digs v.natAbs).take k)) ∧ Hid (Upd NoF w wr ∧ CellT 24 wr g2 0 (.bool false) ∧ CellT 24 wr g2 1 (.slice none 0 0) ∧ CellT 24 wr (g2 + 1) 0 (.bool s) ∧ CellT 24 wr (g2 + 1) 1 u))
  (fun i _ => n - (intOf i).toNat)
 case atStart => exact ⟨0, .slice none 0 0, Nat.zero_le _, rfl, World.ownsRow_nil _ _ _ _, HM.out.2.2.2.2.1, HM.out.1, HM.out.2.1, HM.out.2.2.1, HM.out.2.2.2.1⟩
 case round =>
  obtain ⟨k, u, hk, rfl, hown, HR⟩ := hrel
  by_cases hlt : k < n
  ·
   have hV := HI.out.1.upd0 HR.out.1
   have eA := hV.nat.addr (by rw [HI.out.2]; omega)
   have hx := hV.nat.at_ k (by rw [HI.out.2]; omega)
   have hsn := vals_take_snoc (xs := digs v.natAbs) (k := k) (by rw [HI.out.2]; omega)
   obtain ⟨x, hxk⟩ : ∃ x, (digs v.natAbs)[k]'(by rw [HI.out.2]; omega) = x := ⟨_, rfl⟩
   rw [hxk] at hx hsn
   have c1 := hx.cell
   have HS2 := Lib.hid hsn
   have p1 : (0 : Int) ≤ (k : Int) := by omega
   have hsz := HR.out.1.size
   have c2 := HR.out.2.2.2.2.cell
   have c3 := HR.out.2.2.2.2.frozen
   have hgs : w.heap.size = g2 := HM.out.2.2.2.2.2
   have hg3 := HR.out.2.2.2.2.lt
   have HO := Lib.hid (And.intro hown (show g2 + 2 ≤ wr.heap.size by omega))
   clear hx hsn hxk hown hV hsz hgs
   rw [eA]
   go_wp2_with (at_builtin; refine wpList_append_own_at _ rfl (.tmp 18) (.tmp 20) 22 rfl (g2 + 2) 65 i0 (.int .u64 0) 1 8 uUints i1 i2 i3 i4 rfl (by decide) _ _ _ rfl (HO.out.1.alloc _) ⟨wr.heap.size, 0, none⟩ 1 1 [.int .u64 (x : Int)] rfl rfl ?c1 ?c2 ?c3 ?c4 ?c5 ?_)
   case c1 =>
    intro j u hj
    cases j with
    | zero => cases hj; rw [addr_add]; exact (CellT.new (by simp) (heap_alloc_new wr _)).cell
    | succ j => simp at hj
   case c2 => simp [Value.oneCell']
   case c3 => unfold maxLen; omega
   case c4 => omega
   case c5 => have := HO.out.2; simp; omega
   intro u' w1 hown1 hgrow _ _
   obtain ⟨g', cap', rfl⟩ : ∃ g' cap', u' = .slice (some ⟨g', 0, none⟩) (k + 1) cap' := by
    rcases hown1.2 with ⟨_, h⟩ | ⟨g, cap, cur, h1, _⟩
    · omega
    · exact ⟨g, cap, h1⟩
   obtain ⟨u', hu'⟩ : ∃ u', Value.slice (some ⟨g', 0, none⟩) (k + 1) cap' = u' := ⟨_, rfl⟩
   rw [hu'] at hown1
   have hge : ∀ k, u.ownBlock = some k → g2 + 2 ≤ k := fun k hk => (HO.out.1.lt k hk).1
   have hU1 : Upd NoF w w1 := (HR.out.1.alloc _).grown hgrow (fun k hk => by have := hge k hk; have := HM.out.2.2.2.2.2; omega)
   have hkeep : ∀ {b i : Nat} {y : Value}, CellT 24 wr b i y → b < g2 + 2 → CellT 24 w1 b i y := fun hc hb => by
    obtain ⟨cs, h1, h2⟩ := hc.upd ((Upd.refl NoF wr).alloc (.cells #[.int .u64 (x : Int)] 65)) (fun h => h)
    exact ⟨cs, (hgrow.block _ (heap_lt h1) (fun e => by have := hge _ e.symm; omega)).trans h1, h2⟩
   have n0 := hkeep HR.out.2.1 (by omega)
   have n1 := hkeep HR.out.2.2.1 (by omega)
   have n2 := hkeep HR.out.2.2.2.1 (by omega)
   have n3 := hkeep HR.out.2.2.2.2 (by omega)
   have d1 := n3.cell
   have d2 := n3.frozen
   have hW : ∀ y : Value, Upd NoF w (w1.setCell ⟨g2 + 1, 1, none⟩ y) := fun y => hU1.setCell (fun h => by have := HM.out.2.2.2.2.2; omega) y
   have hown2 : (w1.setCell ⟨g2 + 1, 1, none⟩ u').ownsRow (g2 + 2) 65 1 u' (k + 1) (vals ((digs v.natAbs).take (k + 1))) := by
    rw [HS2.out] at hown1
    refine ⟨hown1.1, ?_⟩
    rcases hown1.2 with h | ⟨g, cap, cur, h1, h2, h3, h4⟩
    · exact Or.inl h
    · exact Or.inr ⟨g, cap, cur, h1, h2, (Below.heap_setCell w1 ⟨g2 + 1, 1, none⟩ u' g (by simp only; omega)).trans h3, h4⟩
   have HF := Lib.hid (And.intro hown2 (And.intro (hW u') (And.intro (n0.far u' (b' := g2 + 1) (i' := 1) (by omega)) (And.intro (n1.far u' (b' := g2 + 1) (i' := 1) (by omega)) (And.intro (n2.far u' (b' := g2 + 1) (i' := 1) (by omega)) (n3.set u'))))))
   clear hown1 hgrow hge hU1 hkeep n0 n1 n2 n3 hW hown2 c1 c2 c3
   subst hu'
   go_wp2_with fail
   go_roundw
   case rel => exact ⟨k + 1, _, by omega, by go_num, HF.out.1, HF.out.2⟩
   case measure => simp [intOf]; omega
  ·
   have hkn : k = n := by omega
   subst hkn
   rw [List.take_of_length_le (by rw [HI.out.2]; exact Nat.le_refl _)] at hown
   have hread : ∃ (A : Option Addr) (c : Nat), u = .slice A k c ∧ k ≤ c ∧ c ≤ 9223372036854775807 ∧ RdU wr A (digs v.natAbs) ∧ (∀ g, u.ownBlock = some g → g2 + 2 ≤ g) := by
    have hl := hown.1
    have hlt := fun g hg => (hown.lt g hg).1
    rcases hown.2 with ⟨rfl, h0⟩ | ⟨g, cap, cur, rfl, h1, h2, h3, h4, h5, h6⟩
    · exact ⟨none, 0, by rw [h0], by omega, by omega, fun h => by rw [HI.out.2] at h; omega, hlt⟩
    ·
     refine ⟨some ⟨g, 0, none⟩, cap, rfl, h3, h4, fun _ => ⟨_, rfl, fun i hi => ?_⟩, hlt⟩
     refine hown.cells (g := g) rfl i _ ?_
     simp [vals, hi]
   obtain ⟨A, c, rfl, hc, hc2, hrd, hge⟩ := hread
   have c1 := HR.out.2.1.cell
   have c2 := HR.out.2.2.1.cell
   have c3 := HR.out.2.2.2.1.cell
   have c4 := HR.out.2.2.2.2.cell
   have f1 := HR.out.2.1.frozen
   have f2 := HR.out.2.2.1.frozen
   have hU := HR.out.1
   have hgs := HM.out.2.2.2.2.2
   have hU2 : Upd NoF w ((wr.setCell ⟨g2, 0, none⟩ (.bool s)).setCell ⟨g2, 1, none⟩ (.slice A k c)) := (hU.setCell (fun h => by omega) _).setCell (fun h => by omega) _
   have hrd2 : RdU ((wr.setCell ⟨g2, 0, none⟩ (.bool s)).setCell ⟨g2, 1, none⟩ (.slice A k c)) A (digs v.natAbs) := fun h => by
    obtain ⟨ad, rfl, hcell⟩ := hrd h
    have hb := hge ad.block rfl
    refine ⟨ad, rfl, fun i hi => ?_⟩
    have h1 := hcell i hi
    have hab : (ad.add i).block = ad.block := by unfold Addr.add; split <;> rfl
    rw [World.cell?_setCell_other _ _ _ _ (fun e => by rw [← e] at hab; simp only at hab; omega), World.cell?_setCell_other _ _ _ _ (fun e => by rw [← e] at hab; simp only at hab; omega)]
    exact h1
   have HF := Lib.hid (And.intro hc (And.intro hc2 (And.intro hrd2 hU2)))
   clear hown hrd hge hU hgs hU2 hrd2 hc hc2
   go_wp2_with fail
   exact bodyPost_ret (v := .agg #[.bool s, .slice A k c]) (by simp [results, Tryz.results31, go_sem, c1, c2]) rfl ⟨A, c, rfl, HF.out⟩
theorem told_any (b n : Nat) (l : Loc) (v : Int) (w : World) (hI : IntV w b l v) (hn : (digs v.natAbs).length = n) (hlen : n ≤ 1099511627776) :
  Calls Tryz.prog 31 #[.pointer (some ⟨b, 0, none⟩)] w fun e w' => ∃ (A : Option Addr) (c : Nat), e = .returned (.agg #[.bool (decide (v < 0)), .slice A n c]) ∧ n ≤ c ∧ c ≤ 9223372036854775807 ∧ RdU w' A (digs v.natAbs) ∧ Upd NoF w w' := told_S b n l _ v w hI.s hn hlen
end Go.Proofs.YthkklkjldpcbkaaGreatDoor
namespace Go.Proofs.YthkklkjldpcbkaaGreatDoor
open Go.RowKit
theorem IntD.made {w w' : World} (u : Upd NoF (w.alloc (.cells #[.bool false, .slice none 0 0] 58)) w') : IntD w' w.heap.size ⟨none, 0, 0, 0⟩ false 0 := IntD.boxed (w := w) (l := ⟨none, 0, 0, 0⟩) (n := 0) (Loc.Ok.nil w 0 0) u
theorem digs_sg (s : Bool) (xs : List Nat) (hd : Digs B64 xs) : (digs (sg s (val B64 xs)).natAbs).length ≤ xs.length := by
 have : (sg s (val B64 xs)).natAbs = val B64 xs := by unfold sg; split <;> omega
 rw [this]; exact digs_len_le hd
theorem Mul_new (T : Int) (zb xb yb : Nat) (lx ly : Loc) (X Y : Int) (w : World) (hz : IntD w zb ⟨none, 0, 0, 0⟩ false 0) (hx : IntV w xb lx X) (hy : IntV w yb ly Y) (hne : xb ≠ yb) (hT : Thr w T) (hX : (digs X.natAbs).length ≤ 262144) (hY : (digs Y.natAbs).length ≤ 262144) :
  Calls Tryz.prog 38 #[.pointer (some ⟨zb, 0, none⟩), .pointer (some ⟨xb, 0, none⟩), .pointer (some ⟨yb, 0, none⟩)] w fun e w' => e = .returned (.pointer (some ⟨zb, 0, none⟩)) ∧ ∃ l, IntV w' zb l (X * Y) ∧ Upd (Blk zb) w w' := by
 refine (Int_Mul_any T zb xb yb ⟨none, 0, 0, 0⟩ lx ly false 0 X Y w hz hx hy hne (Or.inr (Or.inl rfl)) (Or.inr (Or.inl rfl)) hT ?_).mono ?_
 ·
  unfold G
  have : ((digs X.natAbs).length + (digs Y.natAbs).length + 4) * ((digs X.natAbs).length + (digs Y.natAbs).length + 4) ≤ 524292 * 524292 := Nat.mul_le_mul (by omega) (by omega)
  omega
 ·
  rintro e w' ⟨rfl, r, k, _, _, _, h4, h5⟩
  exact ⟨rfl, r, h4, h5.weak (fun b i h => h.elim id (fun ⟨_, _, h3, h4⟩ => by simp only at h3 h4; omega))⟩
set_option maxRecDepth 1000000 in
set_option maxHeartbeats 3200000 in
theorem implMul_any (T : Int) (xn yn : Bool) (xA yA : Option Addr) (n m cx cy : Nat) (xs ys : List Nat) (w : World) (hT : Thr w T) (hn : xs.length = n) (hm : ys.length = m) (hcx : n ≤ cx) (hcy : m ≤ cy) (hln : n ≤ 262144) (hlm : m ≤ 262144)
  (dx : Digs B64 xs) (dy : Digs B64 ys) (hx : RdU w xA xs) (hy : RdU w yA ys) :
  Calls Tryz.prog 20 #[.agg #[.bool xn, .slice xA n cx], .agg #[.bool yn, .slice yA m cy]] w fun e w' => ∃ (A : Option Addr) (c : Nat),
   e = .returned (.agg #[.bool (decide (sg xn (val B64 xs) * sg yn (val B64 ys) < 0)), .slice A (digs (sg xn (val B64 xs) * sg yn (val B64 ys)).natAbs).length c]) ∧ (digs (sg xn (val B64 xs) * sg yn (val B64 ys)).natAbs).length ≤ c ∧ c ≤ 9223372036854775807 ∧
   RdU w' A (digs (sg xn (val B64 xs) * sg yn (val B64 ys)).natAbs) ∧ Upd NoF w w' := by
 have HOX := Lib.hid (fun (w' : World) (u : Upd NoF w w') => of_any xn xA n cx xs w' hn hcx (by omega) dx (hx.upd u))
 have HOY := Lib.hid (fun (w' : World) (u : Upd NoF w w') => of_any yn yA m cy ys w' hm hcy (by omega) dy (hy.upd u))
 have HL := Lib.hid (And.intro (show (digs (sg xn (val B64 xs)).natAbs).length ≤ 262144 by have := digs_sg xn xs dx; omega) (And.intro (show (digs (sg yn (val B64 ys)).natAbs).length ≤ 262144 by have := digs_sg yn ys dy; omega) hT))
 clear hn hm hx hy dx dy hT
 go_enter Tryz.func20, Tryz.ntmps20
 go_wp2_with fail
 obtain ⟨g, hg⟩ : ∃ g, w.heap.size = g := ⟨_, rfl⟩
 obtain ⟨w3, hw3⟩ : ∃ w3, ((w.alloc (.cells #[.bool xn, .slice xA n cx] 24)).alloc (.cells #[.bool yn, .slice yA m cy] 24)).alloc (.cells #[.bool false, .slice none 0 0] 24) = w3 := ⟨_, rfl⟩
 rw [hg, hw3]
 have u3 : Upd NoF w w3 := by rw [← hw3]; exact (((Upd.refl NoF w).alloc _).alloc _).alloc _
 have hs3 : w3.heap.size = g + 3 := by rw [← hw3]; simp [hg]
 have h1 := heap_alloc_new w (.cells #[.bool xn, .slice xA n cx] 24)
 have h2 := heap_alloc_new (w.alloc (.cells #[.bool xn, .slice xA n cx] 24)) (.cells #[.bool yn, .slice yA m cy] 24)
 have h3 := heap_alloc_new ((w.alloc (.cells #[.bool xn, .slice xA n cx] 24)).alloc (.cells #[.bool yn, .slice yA m cy] 24)) (.cells #[.bool false, .slice none 0 0] 24)
 simp only [World.size_alloc, hg] at h1 h2 h3
 rw [hw3] at h3
 have hS : ∀ w', Upd (Blk (g + 1 + 1)) w3 w' → w'.cell? ⟨g, 0, none⟩ = some (.bool xn) ∧ w'.cell? ⟨g, 1, none⟩ = some (.slice xA n cx) ∧ w'.cell? ⟨g + 1, 0, none⟩ = some (.bool yn) ∧ w'.cell? ⟨g + 1, 1, none⟩ = some (.slice yA m cy) := by
  intro w' u
  have v1 : Upd (Blk (g + 1 + 1)) (w.alloc (.cells #[.bool xn, .slice xA n cx] 24)) w' := by refine Upd.trans ?_ u; rw [← hw3]; exact ((Upd.refl _ _).alloc _).alloc _
  have v2 : Upd (Blk (g + 1 + 1)) ((w.alloc (.cells #[.bool xn, .slice xA n cx] 24)).alloc (.cells #[.bool yn, .slice yA m cy] 24)) w' := by refine Upd.trans ?_ u; rw [← hw3]; exact (Upd.refl _ _).alloc _
  have ne1 : ∀ i, ¬ Blk (g + 1 + 1) g i := fun i (h : g = g + 1 + 1) => by omega
  have ne2 : ∀ i, ¬ Blk (g + 1 + 1) (g + 1) i := fun i (h : g + 1 = g + 1 + 1) => by omega
  have a1 : CellT 24 w' g 0 (.bool xn) := CellT.upd ⟨_, h1, by simp⟩ v1 (ne1 _)
  have a2 : CellT 24 w' g 1 (.slice xA n cx) := CellT.upd ⟨_, h1, by simp⟩ v1 (ne1 _)
  have a3 : CellT 24 w' (g + 1) 0 (.bool yn) := CellT.upd ⟨_, h2, by simp⟩ v2 (ne2 _)
  have a4 : CellT 24 w' (g + 1) 1 (.slice yA m cy) := CellT.upd ⟨_, h2, by simp⟩ v2 (ne2 _)
  exact ⟨a1.cell, a2.cell, a3.cell, a4.cell⟩
 have hS2 : ∀ w', Upd NoF w3 w' → CellT 24 w' (g + 1 + 1) 0 (.bool false) ∧ CellT 24 w' (g + 1 + 1) 1 (.slice none 0 0) := fun w' u =>
  ⟨CellT.upd ⟨_, h3, by simp⟩ u (fun h => h), CellT.upd ⟨_, h3, by simp⟩ u (fun h => h)⟩
 have HS2 := Lib.hid hS2
 have HST := Lib.hid (fun (wt : World) (u : Upd NoF w3 wt) (a c : Value) => (show Upd (Blk (g + 1 + 1)) w3 ((wt.setCell ⟨g + 1 + 1, 0, none⟩ a).setCell ⟨g + 1 + 1, 1, none⟩ c) from ((u.weak (G := Blk (g + 1 + 1)) (fun _ _ h => h.elim)).setCell (fun _ => rfl) a).setCell (fun _ => rfl) c))
 clear h1 h2 h3 hS2
 have HS := Lib.hid (And.intro hS (And.intro u3 hs3))
 have HMUL := Lib.hid (fun (zb xb yb : Nat) (lx ly : Loc) (w' : World) (hb : w3.heap.size ≤ zb) (hz : IntD w' zb ⟨none, 0, 0, 0⟩ false 0) (hx : IntV w' xb lx (sg xn (val B64 xs))) (hy : IntV w' yb ly (sg yn (val B64 ys))) (hne : xb ≠ yb) (u : Upd NoF w3 w') =>
  (Mul_new T zb xb yb lx ly _ _ w' hz hx hy hne (HL.out.2.2.upd (HS.out.2.1.trans u) (fun _ h => h)) HL.out.1 HL.out.2.1).mono (R' := fun e w'' => e = .returned (.pointer (some ⟨zb, 0, none⟩)) ∧ ∃ l, IntV w'' zb l (sg xn (val B64 xs) * sg yn (val B64 ys)) ∧ Upd NoF w3 w'')
   (fun e w'' ⟨he, l, h1, h2⟩ => ⟨he, l, h1, u.then h2 (fun _ _ _ h => h.elim) (fun b i hb' h => by have : b = zb := h; omega)⟩))
 have hlen : (digs (sg xn (val B64 xs) * sg yn (val B64 ys)).natAbs).length ≤ 1099511627776 := by
  rw [Int.natAbs_mul]
  have := digs_mul_len (sg xn (val B64 xs)).natAbs (sg yn (val B64 ys)).natAbs
  have := HL.out.1
  have := HL.out.2.1
  omega
 have HTOLD := Lib.hid (fun (b : Nat) (l : Loc) (w' : World) (hI : IntV w' b l (sg xn (val B64 xs) * sg yn (val B64 ys))) (u : Upd NoF w3 w') =>
  (told_any b _ l _ w' hI rfl hlen).mono (R' := fun e w'' => ∃ (A : Option Addr) (c : Nat), e = .returned (.agg #[.bool (decide (sg xn (val B64 xs) * sg yn (val B64 ys) < 0)), .slice A (digs (sg xn (val B64 xs) * sg yn (val B64 ys)).natAbs).length c]) ∧
   Hid ((digs (sg xn (val B64 xs) * sg yn (val B64 ys)).natAbs).length ≤ c ∧ c ≤ 9223372036854775807 ∧ RdU w'' A (digs (sg xn (val B64 xs) * sg yn (val B64 ys)).natAbs)) ∧ Upd NoF w3 w'')
   (fun e w'' ⟨A, c, he, h1, h2, h3, h4⟩ => ⟨A, c, he, ⟨h1, h2, h3⟩, u.trans h4⟩))
 have hu0 := fun (w' : World) (u : Upd NoF w3 w') => u3.trans u
 have HU0 := Lib.hid hu0
 obtain ⟨V, hV⟩ : ∃ V, sg xn (val B64 xs) * sg yn (val B64 ys) = V := ⟨_, rfl⟩
 rw [hV] at HMUL HTOLD hlen
 have HVV := Lib.hid hV
 have HG := Lib.hid hg
 clear hg hw3 u3 hs3 hS hlen hu0 hV
 go_region_held3 (fun w' => w'.cell? ⟨g, 0, none⟩ = some (.bool xn) ∧ w'.cell? ⟨g, 1, none⟩ = some (.slice xA n cx) ∧ w'.cell? ⟨g + 1, 0, none⟩ = some (.bool yn) ∧ w'.cell? ⟨g + 1, 1, none⟩ = some (.slice yA m cy))
  (first | exact HS.out.1 _ (HST.out _ (by assumption) _ _) | exact HS.out.1 _ (Upd.weak (F := NoF) (by (repeat (first | exact Upd.refl _ _ | assumption | refine Upd.alloc ?_ _ | refine Upd.drew ?_ | refine Upd.drewN ?_ _ | refine Upd.trans ?_ (by assumption)))) (fun _ _ h => h.elim)))
  (first
   | ((go_at_call_of 30 (Value.agg #[.bool xn, .slice xA n cx]); refine (HOX.out _ (HU0.out _ (by (repeat (first | exact Upd.refl _ _ | assumption | refine Upd.alloc ?_ _ | refine Upd.drew ?_ | refine Upd.drewN ?_ _ | refine Upd.trans ?_ (by assumption)))))).mono ?_; rintro e wx ⟨ibx, lx, rfl, hbx, hlx, hIx, hUx⟩))
   | ((go_at_call_of 30 (Value.agg #[.bool yn, .slice yA m cy]); refine (HOY.out _ (HU0.out _ (by (repeat (first | exact Upd.refl _ _ | assumption | refine Upd.alloc ?_ _ | refine Upd.drew ?_ | refine Upd.drewN ?_ _ | refine Upd.trans ?_ (by assumption)))))).mono ?_; rintro e wy ⟨iby, ly, rfl, hby, hly, hIy, hUy⟩))
   | ((go_at_call 38; refine (HMUL.out _ _ _ lx ly _ ?_ ?_ ?_ ?_ ?_ ?_).mono ?_; (exact Upd.size (F := NoF) (by (repeat (first | exact Upd.refl _ _ | assumption | refine Upd.alloc ?_ _ | refine Upd.drew ?_ | refine Upd.drewN ?_ _ | refine Upd.trans ?_ (by assumption))))); (exact IntD.made (by (repeat (first | exact Upd.refl _ _ | assumption | refine Upd.alloc ?_ _ | refine Upd.drew ?_ | refine Upd.drewN ?_ _ | refine Upd.trans ?_ (by assumption))))); (exact IntV.upd0 hIx (by (repeat (first | exact Upd.refl _ _ | assumption | refine Upd.alloc ?_ _ | refine Upd.drew ?_ | refine Upd.drewN ?_ _ | refine Upd.trans ?_ (by assumption))))); (exact IntV.upd0 hIy (by (repeat (first | exact Upd.refl _ _ | assumption | refine Upd.alloc ?_ _ | refine Upd.drew ?_ | refine Upd.drewN ?_ _ | refine Upd.trans ?_ (by assumption))))); (have h1 := hIx.lt; (try have h2 := hUx.size); (try simp only [World.size_alloc] at hby); omega); ((repeat (first | exact Upd.refl _ _ | assumption | refine Upd.alloc ?_ _ | refine Upd.drew ?_ | refine Upd.drewN ?_ _ | refine Upd.trans ?_ (by assumption)))); rintro e wm ⟨rfl, lz, hIz, hUz⟩))
   | ((go_at_call 31; refine (HTOLD.out _ lz _ (IntV.upd0 hIz (by (repeat (first | exact Upd.refl _ _ | assumption | refine Upd.alloc ?_ _ | refine Upd.drew ?_ | refine Upd.drewN ?_ _ | refine Upd.trans ?_ (by assumption))))) (by (repeat (first | exact Upd.refl _ _ | assumption | refine Upd.alloc ?_ _ | refine Upd.drew ?_ | refine Upd.drewN ?_ _ | refine Upd.trans ?_ (by assumption))))).mono ?_; rintro e wt ⟨A, c, rfl, hT, hUt⟩; have d1 := (HS2.out wt hUt).1.cell; have d2 := (HS2.out wt hUt).2.cell; have f1 := (HS2.out wt hUt).1.frozen; have f2 := (HS2.out wt hUt).2.frozen)))
 all_goals
  have HF := Lib.hid (And.intro (HS2.out wt hUt) (And.intro hT.out (HU0.out _ hUt)))
  clear hUt hUz hUx hUy hIz hIx hIy hT
  have hR := HF.out.2.1.2.2
  have hge : w.heap.size ≤ g := by have := HS.out.2.1.size; have := HS.out.2.2; have := HG.out; omega
  have hU2 : Upd NoF w ((wt.setCell ⟨g + 1 + 1, 0, none⟩ (.bool (decide (V < 0)))).setCell ⟨g + 1 + 1, 1, none⟩ (.slice A (digs V.natAbs).length c)) := (HF.out.2.2.setCell (fun h => by omega) _).setCell (fun h => by omega) _
  have hR2 : RdU ((wt.setCell ⟨g + 1 + 1, 0, none⟩ (.bool (decide (V < 0)))).setCell ⟨g + 1 + 1, 1, none⟩ (.slice A (digs V.natAbs).length c)) A (digs V.natAbs) := fun h => by
   obtain ⟨ad, rfl, hcell⟩ := hR h
   refine ⟨ad, rfl, fun i hi => ?_⟩
   have h1 := hcell i hi
   have h8 : (⟨g + 1 + 1, 0, none⟩ : Addr) ≠ ad.add i := fun e => by rw [← e, HF.out.1.1.cell] at h1; cases h1
   have h9 : (⟨g + 1 + 1, 1, none⟩ : Addr) ≠ ad.add i := fun e => by rw [← e, HF.out.1.2.cell] at h1; cases h1
   rw [World.cell?_setCell_other _ _ _ _ h9, World.cell?_setCell_other _ _ _ _ h8]
   exact h1
  have e1 := HF.out.1.1
  have e2 := HF.out.1.2
  have g1 := ((e1.set (.bool (decide (V < 0)))).far (b' := g + 1 + 1) (i' := 1) (.slice A (digs V.natAbs).length c) (by omega)).cell
  have g2 := ((e2.far (b' := g + 1 + 1) (i' := 0) (.bool (decide (V < 0))) (by omega)).set (.slice A (digs V.natAbs).length c)).cell
  have HE := Lib.hid (And.intro hU2 (And.intro hR2 (And.intro HF.out.2.1.1 (And.intro HF.out.2.1.2.1 HVV.out))))
  clear hR hge hU2 hR2 e1 e2 d1 d2 f1 f2
  go_wp2_with fail
  refine bodyPost_ret (v := .agg #[.bool (decide (V < 0)), .slice A (digs V.natAbs).length c]) (by simp [results, Tryz.results20, go_sem, g1, g2]) rfl ?_
  rw [HE.out.2.2.2.2]
  exact ⟨A, c, rfl, HE.out.2.2.1, HE.out.2.2.2.1, HE.out.2.1, HE.out.1⟩
end Go.Proofs.YthkklkjldpcbkaaGreatDoor
