/- For the claim of laws.The program's symbol is Jacobi's (FnJacobi).: RowJ, LawJacobiProduct, SpecP, Symbol, LawJacobi. -/
import Derived.Test.YtefeijofhocnpaaGreatDoorKlE2
import Derived.Test.YtefeijofhocnpaaGreatDoorKlG3
import Derived.Test.YtefeijofhocnpaaGreatDoorKlL1
import Derived.Test.YtefeijofhocnpaaGreatDoorKlD5
import Derived.Deep.DeepCutAuto
import Derived.Test.YtefeijofhocnpaaGreatDoorKlDs
import Derived.Deep.RegionHeld3
set_option linter.unusedVariables false
set_option linter.unusedSimpArgs false
namespace Go.Proofs.YtefeijofhocnpaaGreatDoor
open Go.ChangeShapes Go.WideShapes Go.ChangeAt Go.RowKit
theorem tab_data : (Rows.laid_math_bits_deBruijn64tab : DataW Unit) = .agg (Lib.deBruijn64tab.map (fun n : Nat => DataW.lit (.int .u8 (n : Int)))) := rfl
set_option maxRecDepth 100000 in
theorem tz_of {W : World} (hs : W.ShapedOpen Tryz.prog) {laid : List (String × DataW Unit)} (h : laidMetH Tryz.prog laid W.memory) (hn : laid.filter (fun x => x.2.handleName?.isSome) = [])
    (hm : ("math/bits.deBruijn64tab", (Rows.laid_math_bits_deBruijn64tab : DataW Unit)) ∈ laid) : TzTab W := by
  obtain ⟨ps, hL, _, _⟩ := laid_plain h hn
  obtain ⟨g, t, cs, fuel, p, e1, e2, e3, e4, e5⟩ := laid_at hL hm
  obtain rfl : 7 = g := Option.some.inj ((show Tryz.prog.globalNamed "math/bits.deBruijn64tab" = some 7 by kernel_rfl).symm.trans e1)
  obtain rfl : 176 = t := Option.some.inj ((show (Tryz.prog.globals[7]?).map (·.type) = some 176 by kernel_rfl).symm.trans e2)
  have hvar : W.var? Tryz.prog "math/bits.deBruijn64tab" = some cs := e3
  obtain ⟨xs, m, rfl, hx, hl, hn64, hel⟩ := DataW.trod_array Tryz.underlying176 e4
  rw [tab_data] at hx
  have hc1 : Tryz.prog.cellsOf 5 = 1 := by kernel_rfl
  have hc64 : Tryz.prog.cellsOf 176 = 64 := by kernel_rfl
  rw [hc64] at hl
  have hmap : xs.map (·.1) = Lib.deBruijn64tab.map (fun n : Nat => DataW.lit (.int .u8 (n : Int))) := by
    simp only [Prod.mk.injEq, DataW.agg.injEq] at hx
    exact hx.1.symm
  have hheap : ∃ e, W.heap[7]? = some (.cells cs e (0, 0)) := by
    unfold World.var? at hvar
    rw [e1] at hvar
    obtain ⟨cs', h1, _⟩ := hs.1 7 (Array.replicate 64 (.int .u8 0)) 176 (of_decide_eq_true (by kernel_rfl)) (by kernel_rfl)
    simp only [Option.bind_some, h1] at hvar
    exact ⟨_, (Option.some.inj hvar) ▸ h1⟩
  obtain ⟨e, hh⟩ := hheap
  intro j hj
  have hj64 : j < 64 := hj
  have h1 := hel j hj64
  rw [hc1, Nat.mul_one] at h1
  have h2 : (cs.toList.drop j).take 1 = [cs.toList[j]'(by omega)] := by
    rw [List.drop_eq_getElem_cons (by omega)]; rfl
  rw [h2] at h1
  have hxj : xs[j]? = some (xs[j]'(by omega)) := List.getElem?_eq_getElem (by omega)
  rw [hxj] at h1
  obtain ⟨z, k1, k2, _⟩ := DataW.trod_int Tryz.underlying5 h1
  have hd : (xs[j]'(by omega)).1 = DataW.lit (.int .u8 ((Lib.deBruijn64tab.getD j 0 : Nat) : Int)) := by
    have h3 := congrArg (fun l => l[j]?) hmap
    simp only [List.getElem?_map] at h3
    rw [hxj, List.getElem?_eq_getElem hj] at h3
    simp only [Option.map_some] at h3
    rw [List.getD_eq_getElem?_getD, List.getElem?_eq_getElem hj]
    exact Option.some.inj h3
  rw [k2] at hd
  simp only [DataW.lit.injEq, Lit.int.injEq] at hd
  have hz := hd.2
  subst hz
  have hcell : cs[j]? = some (.int .u8 ((Lib.deBruijn64tab.getD j 0 : Nat) : Int)) := by
    rw [← Array.getElem?_toList, List.getElem?_eq_getElem (by omega)]
    simpa using k1
  simp [World.cell?, hh, hcell]
structure WordsR (W : World) (A : Option Addr) (n c : Nat) (xs : List Nat) : Prop where
  len : xs.length = n
  le : n ≤ c
  max : n ≤ 9223372036854775807
  dig : Digs B64 xs
  rd : RdU W A xs
theorem WordsR.upd {w w' : World} {A : Option Addr} {n c : Nat} {xs : List Nat} (h : WordsR w A n c xs) (u : Upd NoF w w') : WordsR w' A n c xs := ⟨h.len, h.le, h.max, h.dig, h.rd.upd u⟩
end Go.Proofs.YtefeijofhocnpaaGreatDoor
namespace Go.Proofs.YtefeijofhocnpaaGreatDoor
open Go.RowKit Go.Proofs.YtefeijofhocnpaaGreatDoor.PSpec Go.Proofs.YtefeijofhocnpaaGreatDoorW.PrintWords Go.Proofs.YtefeijofhocnpaaGreatDoorW.PrintLast Go.Proofs.YtefeijofhocnpaaGreatDoorW.PrintMore
set_option linter.unusedSimpArgs false
theorem num_lit (w : World) (x : Nat) (hx : x < B64) : NumR (w.alloc (.cells #[.int .u64 (x : Int)] 22)) (.agg #[.bool false, .slice (some ⟨w.heap.size, 0, none⟩) 1 1]) 1 (x : Int) := by
  refine ⟨false, _, 1, [x], rfl, rfl, Nat.le_refl _, by omega, Digs.cons hx Digs.nil, fun _ => ⟨_, rfl, fun i hi => ?_⟩, by simp [sg, val]⟩
  have hi0 : i = 0 := by simpa using hi
  subst hi0
  have h := heap_alloc_new w (.cells #[.int .u64 (x : Int)] 22)
  exact (show CellT 22 (w.alloc (.cells #[.int .u64 (x : Int)] 22)) w.heap.size 0 (.int .u64 (x : Int)) from ⟨_, h, by simp⟩).cell
structure JP (w w' : World) (g ga gb : Nat) (s1 : Bool) (A1 : Option Addr) (n1 c1 : Nat) (s2 : Bool) (A2 : Option Addr) (n2 c2 : Nat) (A6 : Option Addr) (ma k6 : Nat) (A16 : Option Addr) (mb k16 : Nat) (Va Vb : Nat) : Prop where
  up : Upd NoF w w'
  bx : BoxN w' g s1 A1 n1 c1
  bw : BoxN w' (g + 1) s2 A2 n2 c2
  ba : BoxN w' ga false A6 ma k6
  bb : BoxN w' gb false A16 mb k16
  na : NumR w' (.agg #[.bool false, .slice A6 ma k6]) ma (Va : Int)
  nb : NumR w' (.agg #[.bool false, .slice A16 mb k16]) mb (Vb : Int)
theorem JP.upd {w w' w2 : World} {g ga gb : Nat} {s1 : Bool} {A1 : Option Addr} {n1 c1 : Nat} {s2 : Bool} {A2 : Option Addr} {n2 c2 : Nat} {A6 : Option Addr} {ma k6 : Nat} {A16 : Option Addr} {mb k16 : Nat} {Va Vb : Nat}
    (h : JP w w' g ga gb s1 A1 n1 c1 s2 A2 n2 c2 A6 ma k6 A16 mb k16 Va Vb) (u : Upd NoF w' w2) : JP w w2 g ga gb s1 A1 n1 c1 s2 A2 n2 c2 A6 ma k6 A16 mb k16 Va Vb :=
  ⟨h.up.trans u, h.bx.upd u, h.bw.upd u, h.ba.upd u, h.bb.upd u, h.na.upd u, h.nb.upd u⟩
end Go.Proofs.YtefeijofhocnpaaGreatDoor
namespace Go.Proofs.YtefeijofhocnpaaGreatDoor
open Go.RowKit Go.Proofs.YtefeijofhocnpaaGreatDoor.PSpec Go.Proofs.YtefeijofhocnpaaGreatDoorW.PrintWords Go.Proofs.YtefeijofhocnpaaGreatDoorW.PrintLast Go.Proofs.YtefeijofhocnpaaGreatDoorW.PrintMore
theorem spec_Has_bit (X i : Nat) (hi : i < 16 * (ds X).length) (hb : (ds X).length ≤ 1099511627776) : spec_Has.f (ints (ds X)) (i : Int) = some (decide (X / 2 ^ i % 2 = 1)) := by
  have e1 : Int.tdiv (i : Int) 16 = ((i / 16 : Nat) : Int) := by rw [Int.tdiv_eq_ediv_of_nonneg (by omega)]; rfl
  have e2 : Int.tmod (i : Int) 16 = ((i % 16 : Nat) : Int) := by rw [Int.tmod_eq_emod_of_nonneg (by omega)]; rfl
  obtain ⟨q, hq⟩ : ∃ q, i / 16 = q := ⟨_, rfl⟩
  obtain ⟨m, hm⟩ : ∃ m, i % 16 = m := ⟨_, rfl⟩
  have hqB : q < (ds X).length := by omega
  have hmB : m < 16 := by omega
  have him : i = 16 * q + m := by omega
  rw [hq] at e1
  rw [hm] at e2
  obtain ⟨T, hT⟩ := digit_at X q hqB
  obtain ⟨x, ex⟩ : ∃ x, (ds X)[q] = x := ⟨_, rfl⟩
  rw [ex] at hT
  have hxB : x < 65536 := ex ▸ (ds_ds X).get q hqB
  have hrx : rd (ints (ds X)) (q : Int) = (x : Int) := by rw [rd_getD, List.getD_eq_getElem?_getD, List.getElem?_eq_getElem hqB, ex]; rfl
  have hsh : shr .i64 (x : Int) (m : Int) = ((x / 2 ^ m : Nat) : Int) := by
    have : m ≤ 64 := by omega
    show (x : Int) / 2 ^ min ((m : Int)).toNat 64 = _
    rw [Int.toNat_natCast, Nat.min_eq_left this]
    norm_cast
  have hle : x / 2 ^ m ≤ x := Nat.div_le_self _ _
  have W1 := Lib.hid (wr64 (z := (q : Int)) (by omega) (by omega))
  have key : X / 2 ^ i % 2 = x / 2 ^ m % 2 := by
    have h1 : 2 ^ i = B16 ^ q * 2 ^ m := by rw [him, Nat.pow_add, show B16 = 2 ^ 16 from rfl, ← Nat.pow_mul]
    rw [h1, ← Nat.div_div_eq_div_mul, hT]
    obtain ⟨c, hc⟩ : ∃ c, 16 = m + 1 + c := ⟨15 - m, by omega⟩
    have h2 : B16 * T = 2 ^ m * (2 * (2 ^ c * T)) := by
      rw [show B16 = 2 ^ 16 from rfl, hc, Nat.pow_add, Nat.pow_succ]; grind
    rw [h2, Nat.add_mul_div_left _ _ (Nat.two_pow_pos m)]
    omega
  have hbool : ((((x / 2 ^ m % 2 : Nat) : Int)) == 1) = decide (X / 2 ^ i % 2 = 1) := by
    rw [key]
    by_cases h : x / 2 ^ m % 2 = 1
    · rw [h]; rfl
    · rw [decide_eq_false h]; exact beq_eq_false_iff_ne.2 (by omega)
  rw [← hbool]
  unfold spec_Has.f
  rw [e1, e2, W1.out, if_pos (by rw [ints_length]; omega), if_pos (by omega), if_pos (by omega), hrx, hsh, and_one _ (by omega)]
theorem has_sp (v : Value) (X i : Nat) (w : World) (h : SpN w v X) (hi : i < 16 * (ds X).length) (hb : (ds X).length ≤ 1000000) : Calls Tryz.prog 62 #[v, .int .i64 (i : Int)] w fun e w' => e = .returned (.bool (decide (X / 2 ^ i % 2 = 1))) ∧ Upd NoF w w' := by
  obtain ⟨A, c, rfl, a1, a2⟩ := h
  have h := spec_Has.calls A c (ints (ds X)) (i : Int) _ w (by rw [ints_length]; exact a2) (by rw [ints_length]; exact a1) (spec_Has_bit X i hi (by omega))
  rw [ints_length] at h
  exact h.mono (fun e w' ⟨he, n, hn⟩ => ⟨he, hn ▸ (Upd.refl NoF w).drewN n⟩)
theorem len_sp (v : Value) (X : Nat) (w : World) (h : SpN w v X) (hb : (ds X).length ≤ 1000000) : Calls Tryz.prog 66 #[v] w fun e w' => ∃ b : Nat, e = .returned (.int .i64 (b : Int)) ∧ X < 2 ^ b ∧ b ≤ 16 * (ds X).length ∧ Upd NoF w w' := by
  obtain ⟨A, c, rfl, a1, a2⟩ := h
  obtain ⟨b, hk, h1, h2⟩ := spec_Len_any X (16 * (ds X).length + 1) hb (by omega)
  have h := spec_Len.calls _ A c (ints (ds X)) _ w (by rw [ints_length]; exact a2) (by rw [ints_length]; exact a1) hk
  rw [ints_length] at h
  exact h.mono (fun e w' ⟨he, n, hn⟩ => ⟨b, he, h1, h2, hn ▸ (Upd.refl NoF w).drewN n⟩)
theorem one_sp (v : Value) (X : Nat) (w : World) (h : SpN w v X) (hb : (ds X).length ≤ 1000000) : Calls Tryz.prog 46 #[v] w fun e w' => e = .returned (.bool (decide (X = 1))) ∧ Upd NoF w w' := by
  obtain ⟨A, c, rfl, a1, a2⟩ := h
  have hk : spec_One.f (ints (ds X)) = some (decide (X = 1)) := by
    unfold spec_One.f
    rw [ints_length]
    have hv := val_ds X
    match hds : ds X with
    | [] =>
      rw [hds] at hv
      have : X = 0 := by rw [← hv]; rfl
      rw [if_neg (by simp), decide_eq_false (by omega)]
    | [x] =>
      rw [hds] at hv
      have hx : x = X := by rw [← hv]; simp [val]
      rw [if_pos (by simp), if_pos (by simp)]
      congr 1
      subst hx
      by_cases h1 : x = 1
      · rw [decide_eq_true h1]; subst h1; rfl
      · rw [decide_eq_false h1]; exact beq_eq_false_iff_ne.2 (by show (x : Int) ≠ 1; omega)
    | x :: y :: r =>
      have hl : (ds X).length = r.length + 1 + 1 := by rw [hds]; rfl
      have h1 := le_of_ds_len hl
      have h2 : B16 ^ 1 ≤ B16 ^ (r.length + 1) := Nat.pow_le_pow_right B16_pos (by omega)
      have h3 : B16 ^ 1 = 65536 := rfl
      rw [if_neg (by simp only [List.length_cons]; omega), decide_eq_false (by omega)]
  have h := spec_One.calls A c (ints (ds X)) _ w (by rw [ints_length]; exact a2) (by rw [ints_length]; exact a1) hk
  rw [ints_length] at h
  exact h.mono (fun e w' h => ⟨h.1, by first | exact Upd.ofBelow h.2 | (obtain ⟨n, hn⟩ := h.2; exact hn ▸ (Upd.refl NoF w).drewN n)⟩)
set_option maxRecDepth 1000000 in
theorem mod_sp1 (v1 v2 : Value) (X d : Nat) (w : World) (h1 : SpN w v1 X) (h2 : SpN w v2 d) (h0 : 0 < d) (hd : d < 65536) (hl : (ds X).length ≤ 35184372088832) :
    Calls Tryz.prog 48 #[v1, v2] w fun e w' => ∃ v, e = .returned v ∧ SpN w' v (X % d) ∧ Upd NoF w w' := by
  have HD := Lib.hid (divone_sp v1 v2 X d w h1 h2 h0 hd hl)
  obtain ⟨A1, c1, rfl, _, _⟩ := h1
  obtain ⟨A2, c2, rfl, _, _⟩ := h2
  obtain ⟨n1, e1⟩ : ∃ n, (ds X).length = n := ⟨_, rfl⟩
  obtain ⟨n2, e2⟩ : ∃ n, (ds d).length = n := ⟨_, rfl⟩
  rw [e1, e2] at HD ⊢
  clear e1 e2 hl h0 hd
  go_enter Tryz.func48, Tryz.ntmps48
  go_wp2_with fail
  refine HD.out.mono ?_
  rintro e w1 ⟨q, r, rfl, _, hr, u1⟩
  have H1 := Lib.hid (And.intro hr u1)
  clear hr u1
  go_wp2_with fail
  go_ret
  exact ⟨r, rfl, H1.out⟩
theorem pow_step {A E d i : Nat} : (if E / 2 ^ i % 2 = 1 then (A ^ (E / 2 ^ (i + 1)) % d * (A ^ (E / 2 ^ (i + 1)) % d) % d * A) % d else A ^ (E / 2 ^ (i + 1)) % d * (A ^ (E / 2 ^ (i + 1)) % d) % d) = A ^ (E / 2 ^ i) % d := by
  have h : E / 2 ^ (i + 1) = E / 2 ^ i / 2 := by rw [Nat.pow_succ, Nat.div_div_eq_div_mul]
  rw [h]
  generalize E / 2 ^ i = k
  have hk : k = 2 * (k / 2) + k % 2 := by omega
  have e : A ^ (k / 2) % d * (A ^ (k / 2) % d) % d = A ^ (2 * (k / 2)) % d := by
    rw [← Nat.mul_mod, ← Nat.pow_add, show k / 2 + k / 2 = 2 * (k / 2) by omega]
  rw [e]
  by_cases h1 : k % 2 = 1
  · rw [if_pos h1, Nat.mod_mul_mod, ← Nat.pow_succ, show (2 * (k / 2)).succ = k by omega]
  · rw [if_neg h1, show 2 * (k / 2) = k by omega]
set_option maxRecDepth 1000000 in
set_option maxHeartbeats 1600000 in
theorem powmod_sp (v1 v2 v3 : Value) (A E d : Nat) (w : World) (h1 : SpN w v1 A) (h2 : SpN w v2 E) (h3 : SpN w v3 d) (h0 : 0 < d) (hd : d < 65536) (hA : (ds A).length ≤ 1000) (hE : (ds E).length ≤ 1000) :
    Calls Tryz.prog 71 #[v1, v2, v3] w fun e w' => ∃ v, e = .returned v ∧ SpN w' v (A ^ E % d) ∧ Upd NoF w w' := by
  have hl1 : ∀ x, (ds (x % d)).length ≤ 1 := fun x => ds_len_of_lt (by rw [Nat.pow_one]; show x % d < 65536; have := Nat.mod_lt x h0; omega)
  have HH := Lib.hid (And.intro h1 (And.intro h2 (And.intro h3 (And.intro h0 (And.intro hd (And.intro hA (And.intro hE hl1)))))))
  clear h1 h2 h3 hA hE hl1
  go_enter Tryz.func71, Tryz.ntmps71
  go_wp2_with fail
  refine (small_sp 1 w (by omega)).mono ?_
  rintro e w1 ⟨t1, rfl, k1, u1⟩
  have K1 := Lib.hid (And.intro k1 u1)
  clear k1 u1
  go_wp2_with fail
  refine (mod_sp1 t1 v3 1 d w1 K1.out.1 (HH.out.2.2.1.upd K1.out.2) h0 hd (by have : (ds 1).length ≤ 1 := ds_len_of_lt (by decide); omega)).mono ?_
  rintro e w2 ⟨t2, rfl, k2, u2⟩
  have K2 := Lib.hid (And.intro k2 (K1.out.2.trans u2))
  clear k2 u2 K1
  go_wp2_with fail
  refine (len_sp v2 E w2 (HH.out.2.1.upd K2.out.2) (by have := HH.out.2.2.2.2.2.2.1; omega)).mono ?_
  rintro e w3 ⟨b, rfl, hb1, hb2, u3⟩
  have hb3 : b ≤ 16000 := by have := HH.out.2.2.2.2.2.2.1; omega
  have K3 := Lib.hid (And.intro (K2.out.2.trans u3) (And.intro (K2.out.1.upd u3) (And.intro hb1 hb2)))
  have wb : IntKind.i64.wrap ((b : Int) - 1) = (b : Int) - 1 := by rw [IntKind.wrap_i64]; omega
  clear u3 K2 hb1 hb2
  go_wp2_with fail
  go_loopw [7, 8] (fun a c wr => ∃ (j : Nat) (va : Value), a = va ∧ c = .int .i64 ((j : Int) - 1) ∧ j ≤ b ∧ Hid (Upd NoF w wr ∧ SpN wr va (A ^ (E / 2 ^ j) % d))) (fun _ c _ => (intOf c + 1).toNat)
  case atStart =>
    refine ⟨b, t2, rfl, ?_, Nat.le_refl _, K3.out.1, ?_⟩
    · first | rfl | (rw [wb])
    · rw [Nat.div_eq_of_lt K3.out.2.2.1, Nat.pow_zero]; exact K3.out.2.1
  case round =>
    obtain ⟨j, va, rfl, rfl, hj, HI⟩ := hrel
    cases j with
    | zero =>
      have q1 : (((0 : Nat) : Int) - 1) = -1 := rfl
      have q2 : decide ((0 : Int) ≤ -1) = false := rfl
      go_wp2_with fail
      go_ret
      refine ⟨_, rfl, ?_, HI.out.1⟩
      have := HI.out.2
      rwa [Nat.pow_zero, Nat.div_one] at this
    | succ i =>
      obtain ⟨ii, hii⟩ : ∃ ii : Int, ((i + 1 : Nat) : Int) - 1 = ii := ⟨_, rfl⟩
      have hin : ii = (i : Int) := by omega
      rw [hii]
      have q2 : (0 : Int) ≤ ii := by omega
      have q3 : decide ((0 : Int) ≤ ii) = true := decide_eq_true q2
      have w1' : IntKind.i64.wrap (ii - 1) = ii - 1 := by rw [IntKind.wrap_i64]; omega
      have HIN := Lib.hid hin
      have hi16 : i < 16 * (ds E).length := by have := K3.out.2.2.2; omega
      have HI16 := Lib.hid (And.intro hi16 hj)
      clear hii hin hi16 hj
      obtain ⟨R, hR⟩ : ∃ R, A ^ (E / 2 ^ (i + 1)) % d = R := ⟨_, rfl⟩
      have hst := pow_step (A := A) (E := E) (d := d) (i := i)
      rw [hR] at HI hst
      have hRl : (ds R).length ≤ 1 := hR ▸ HH.out.2.2.2.2.2.2.2 _
      have hR2 : (ds (R * R)).length ≤ 2 := by have := ds_mul_len R R; omega
      have HM1 := Lib.hid (mul_sp u7 u7 R R wr HI.out.2 HI.out.2 (by omega))
      have HSL := Lib.hid (And.intro hst (And.intro hRl hR2))
      clear hst hRl hR2 hR
      go_wp2_with fail
      refine HM1.out.mono ?_
      rintro e w4 ⟨t4, rfl, k4, u4⟩
      have K4 := Lib.hid (And.intro (HI.out.1.trans u4) k4)
      clear k4 u4 HM1
      have HM2 := Lib.hid (mod_sp1 t4 v3 (R * R) d w4 K4.out.2 (HH.out.2.2.1.upd K4.out.1) h0 hd (by have := HSL.out.2.2; omega))
      go_wp2_with fail
      refine HM2.out.mono ?_
      rintro e w5 ⟨t5, rfl, k5, u5⟩
      have K5 := Lib.hid (And.intro (K4.out.1.trans u5) k5)
      clear k5 u5 HM2 K4
      have HB := has_sp v2 E i w5 (HH.out.2.1.upd K5.out.1) HI16.out.1 (by have := HH.out.2.2.2.2.2.2.1; omega)
      rw [← HIN.out] at HB
      have HB := Lib.hid HB
      go_wp2_with fail
      refine HB.out.mono ?_
      rintro e w6 ⟨rfl, u6⟩
      have K6 := Lib.hid (And.intro (K5.out.1.trans u6) (K5.out.2.upd u6))
      clear u6 K5 HB
      by_cases hbit : E / 2 ^ i % 2 = 1
      · have q5 : decide (E / 2 ^ i % 2 = 1) = true := decide_eq_true hbit
        rw [q5]
        have hst := HSL.out.1
        rw [if_pos hbit] at hst
        have HST := Lib.hid hst
        have hl5 : (ds (R * R % d)).length ≤ 1 := HH.out.2.2.2.2.2.2.2 _
        have hl6 : (ds (R * R % d * A)).length ≤ 1001 := by have := ds_mul_len (R * R % d) A; have := HH.out.2.2.2.2.2.1; omega
        have HM3 := Lib.hid (mul_sp t5 v1 (R * R % d) A w6 K6.out.2 (HH.out.1.upd K6.out.1) (by have := HH.out.2.2.2.2.2.1; omega))
        have HL6 := Lib.hid hl6
        clear hst hl5 hl6 hbit q5
        go_wp2_with fail
        refine HM3.out.mono ?_
        rintro e w7 ⟨t7, rfl, k7, u7'⟩
        have K7 := Lib.hid (And.intro (K6.out.1.trans u7') k7)
        clear k7 u7' HM3 K6
        have HM4 := Lib.hid (mod_sp1 t7 v3 (R * R % d * A) d w7 K7.out.2 (HH.out.2.2.1.upd K7.out.1) h0 hd (by have := HL6.out; omega))
        go_wp2_with fail
        refine HM4.out.mono ?_
        rintro e w8 ⟨t8, rfl, k8, u8⟩
        have K8 := Lib.hid (And.intro (K7.out.1.trans u8) k8)
        clear k8 u8 HM4 K7
        go_wp2_with fail
        go_roundw
        case rel =>
          refine ⟨i, t8, rfl, ?_, by have := HI16.out.2; omega, K8.out.1, ?_⟩
          · rw [HIN.out]
          · rw [← HST.out]; exact K8.out.2
        case measure => simp [intOf, HIN.out]
      · have q5 : decide (E / 2 ^ i % 2 = 1) = false := decide_eq_false hbit
        rw [q5]
        have hst := HSL.out.1
        rw [if_neg hbit] at hst
        have HST := Lib.hid hst
        clear hst hbit q5
        go_wp2_with fail
        go_roundw
        case rel =>
          refine ⟨i, t5, rfl, ?_, by have := HI16.out.2; omega, K6.out.1, ?_⟩
          · rw [HIN.out]
          · rw [← HST.out]; exact K6.out.2
        case measure => simp [intOf, HIN.out]
theorem emod_digit (X : Int) (d : Nat) (h0 : 0 < d) : X % (d : Int) = if X < 0 ∧ X.natAbs % d ≠ 0 then ((d - X.natAbs % d : Nat) : Int) else ((X.natAbs % d : Nat) : Int) := by
  have hlt := Nat.mod_lt X.natAbs h0
  have hd := Nat.div_add_mod X.natAbs d
  generalize X.natAbs % d = r at *
  by_cases hX : X < 0
  · have e : X = -((d : Int) * ((X.natAbs / d : Nat) : Int) + (r : Int)) := by rw [← Int.natCast_mul, ← Int.natCast_add, hd]; omega
    generalize X.natAbs / d = k at *
    by_cases hr : r = 0
    · rw [if_neg (fun h => h.2 hr), e, hr]
      simp
    · rw [if_pos ⟨hX, hr⟩, e]
      rw [show -((d : Int) * (k : Int) + (r : Int)) = ((d : Int) - (r : Int)) + (d : Int) * (-(k : Int) - 1) by grind, Int.add_mul_emod_self_left, Int.emod_eq_of_lt (by omega) (by omega)]
      omega
  · rw [if_neg (fun h => hX h.1)]
    have e : X = (d : Int) * ((X.natAbs / d : Nat) : Int) + (r : Int) := by rw [← Int.natCast_mul, ← Int.natCast_add, hd]; omega
    generalize X.natAbs / d = k at *
    rw [e, Int.add_comm, Int.add_mul_emod_self_left, Int.emod_eq_of_lt (by omega) (by omega)]
set_option maxRecDepth 1000000 in
theorem rest_sp (v1 v2 : Value) (X : Int) (d : Nat) (w : World) (h1 : SpI w v1 X) (h2 : SpN w v2 d) (h0 : 0 < d) (hd : d < 65536) (hl : (ds X.natAbs).length ≤ 1000000) :
    Calls Tryz.prog 47 #[v1, v2] w fun e w' => ∃ v, e = .returned v ∧ SpN w' v (X % (d : Int)).toNat ∧ Upd NoF w w' := by
  obtain ⟨A1, c1, rfl, a1, a2⟩ := h1
  have hN : SpN w (.slice A1 (ds X.natAbs).length c1) X.natAbs := ⟨A1, c1, rfl, a1, a2⟩
  obtain ⟨n1, e1⟩ : ∃ n, (ds X.natAbs).length = n := ⟨_, rfl⟩
  rw [e1] at hN hl ⊢
  obtain ⟨sx, hsx⟩ : ∃ s, decide (X < 0) = s := ⟨_, rfl⟩
  rw [hsx]
  have HH := Lib.hid (And.intro hN (And.intro h2 (And.intro hsx e1)))
  clear a1 a2 hN h2 hsx e1
  go_enter Tryz.func47, Tryz.ntmps47
  go_wp2_with fail
  have hb := heap_alloc_new w (.cells #[.bool sx, .slice A1 n1 c1] 27)
  obtain ⟨g, hg⟩ : ∃ g, w.heap.size = g := ⟨_, rfl⟩
  obtain ⟨w1, hw1⟩ : ∃ w1, w.alloc (.cells #[.bool sx, .slice A1 n1 c1] 27) = w1 := ⟨_, rfl⟩
  have u1 : Upd NoF w w1 := by rw [← hw1]; exact (Upd.refl NoF w).alloc _
  rw [hg, hw1] at hb
  rw [hw1]
  have b0 : CellT 27 w1 g 0 (.bool sx) := ⟨_, hb, by simp⟩
  have HM := Lib.hid (mod_sp1 (.slice A1 n1 c1) v2 X.natAbs d w1 (HH.out.1.upd u1) (HH.out.2.1.upd u1) h0 hd (by rw [HH.out.2.2.2]; omega))
  have HU := Lib.hid (And.intro u1 b0)
  clear hb hw1 u1 b0
  refine HM.out.mono ?_
  rintro e w2 ⟨r, rfl, kr, u2⟩
  obtain ⟨R, hR⟩ : ∃ R, X.natAbs % d = R := ⟨_, rfl⟩
  rw [hR] at kr
  have kr' := kr
  obtain ⟨A3, c3, rfl, _, _⟩ := kr
  have hRd : R < d := hR ▸ Nat.mod_lt _ h0
  have hln := ds_len_eq_zero (n := R)
  obtain ⟨m, hm⟩ : ∃ m, (ds R).length = m := ⟨_, rfl⟩
  rw [hm] at kr' hln ⊢
  have hE := emod_digit X d h0
  rw [hR] at hE
  have HK := Lib.hid (And.intro (HU.out.1.trans u2) (And.intro kr' (And.intro hRd (And.intro hln (And.intro hE hm)))))
  have d0 := (HU.out.2.upd u2 (fun h => h)).cell
  clear kr' u2 hRd hln hR HM HU hE hm
  cases sx with
  | false =>
    go_wp2_with fail
    go_ret
    refine ⟨_, rfl, ?_, HK.out.1⟩
    have hE := HK.out.2.2.2.2.1
    rw [if_neg (fun h => absurd h.1 (of_decide_eq_false HH.out.2.2.1))] at hE
    rw [hE, Int.toNat_natCast]
    exact HK.out.2.1
  | true =>
    by_cases hm0 : m = 0
    · have q1 : decide (0 < m) = false := decide_eq_false (by omega)
      have HR0 := Lib.hid (HK.out.2.2.2.1.1 hm0)
      clear hm0
      go_wp2_with fail
      go_ret
      refine ⟨_, rfl, ?_, HK.out.1⟩
      have hE := HK.out.2.2.2.2.1
      rw [if_neg (fun h => h.2 HR0.out)] at hE
      rw [hE, Int.toNat_natCast]
      exact HK.out.2.1
    · have q1 : decide (0 < m) = true := decide_eq_true (by omega)
      have q2 : 0 < m := by omega
      have HR0 := Lib.hid (fun h => hm0 (HK.out.2.2.2.1.2 h))
      have HS := Lib.hid (sub_sp v2 (.slice A3 m c3) d R w2 (HH.out.2.1.upd HK.out.1) HK.out.2.1 (Nat.le_of_lt HK.out.2.2.1) (by have : (ds d).length ≤ 1 := ds_len_of_lt (by rw [Nat.pow_one]; exact hd); omega))
      clear hm0
      go_wp2_with fail
      refine HS.out.mono ?_
      rintro e w3 ⟨v', rfl, hv', u3⟩
      have H3 := Lib.hid (And.intro hv' (HK.out.1.trans u3))
      clear hv' u3
      go_wp2_with fail
      go_ret
      refine ⟨_, rfl, ?_, H3.out.2⟩
      have hE := HK.out.2.2.2.2.1
      rw [if_pos ⟨of_decide_eq_true HH.out.2.2.1, HR0.out⟩] at hE
      rw [hE, Int.toNat_natCast]
      exact H3.out.1
end Go.Proofs.YtefeijofhocnpaaGreatDoor
namespace Go.Proofs.YtefeijofhocnpaaGreatDoor
open Go.RowKit
set_option linter.unusedSimpArgs false
structure SyI (w wr : World) (X : Int) (Y g : Nat) (sx : Bool) (A : Option Addr) (n c : Nat) (y p : Nat) (out : Int) : Prop where
  up : Upd NoF w wr
  b0 : CellT 27 wr g 0 (.bool sx)
  b1 : CellT 27 wr g 1 (.slice A n c)
  hx : SpI wr (.agg #[.bool sx, .slice A n c]) X
  val : out * Jac.jz X y = Jac.jz X Y
  oo : out = 0 ∨ out = 1 ∨ out = -1
  yo : y % 2 = 1
  yB : y < 65536
  po : p % 2 = 1
  p3 : 3 ≤ p
  pB : p < 65540
  rg : Jac.Rough p y
theorem SyI.upd {w wr w2 : World} {X : Int} {Y g : Nat} {sx : Bool} {A : Option Addr} {n c y p : Nat} {out : Int} (h : SyI w wr X Y g sx A n c y p out) (u : Upd NoF wr w2) : SyI w w2 X Y g sx A n c y p out :=
  ⟨h.up.trans u, h.b0.upd u (fun h => h), h.b1.upd u (fun h => h), h.hx.upd u, h.val, h.oo, h.yo, h.yB, h.po, h.p3, h.pB, h.rg⟩
theorem SyI.held {w wr : World} {X : Int} {Y g : Nat} {sx : Bool} {A : Option Addr} {n c y p : Nat} {out : Int} (h : SyI w wr X Y g sx A n c y p out) : wr.cell? ⟨g, 0, none⟩ = some (.bool sx) ∧ wr.cell? ⟨g, 1, none⟩ = some (.slice A n c) := ⟨h.b0.cell, h.b1.cell⟩
theorem SyI.next {w wr w2 : World} {X : Int} {Y g : Nat} {sx : Bool} {A : Option Addr} {n c y p : Nat} {out out' : Int} (h : SyI w wr X Y g sx A n c y p out) (hy : y % p = 0) (u : Upd NoF wr w2) {a : Nat} (ha : X % (p : Int) = (a : Int))
    (ho : out' = out * (if a = 0 then 0 else if a ^ (p / 2) % p = 1 then 1 else -1)) (hoo : out' = 0 ∨ out' = 1 ∨ out' = -1) : SyI w w2 X Y g sx A n c (y / p) p out' := by
  have hp3 := h.p3
  have hd : p ∣ y := Nat.dvd_of_mod_eq_zero hy
  have hpr := Jac.rough_prime (by omega) h.rg hd
  have hyd : y = p * (y / p) := (Nat.mul_div_cancel' hd).symm
  have hyo : (y / p) % 2 = 1 := by
    rcases Nat.mod_two_eq_zero_or_one (y / p) with h0 | h0
    · exfalso
      have h1 := h.yo
      rw [hyd, Nat.mul_mod, h0, Nat.mul_zero] at h1
      simp at h1
    · exact h0
  have hle : y / p ≤ y := Nat.div_le_self _ _
  refine ⟨h.up.trans u, h.b0.upd u (fun h => h), h.b1.upd u (fun h => h), h.hx.upd u, ?_, hoo, hyo, by have := h.yB; omega, h.po, h.p3, h.pB, Jac.rough_div h.rg ⟨p, by rw [Nat.mul_comm]; exact hyd⟩⟩
  rw [← h.val, ho]
  have e := Jac.jz_prime (x := X) (p := p) (y := y / p) (a := a) hpr h.po hyo ha
  rw [← hyd] at e
  rw [e, Int.mul_assoc]
set_option maxRecDepth 1000000 in
set_option maxHeartbeats 1600000 in
theorem symbol_sp (v : Value) (X : Int) (Y : Nat) (w : World) (h1 : SpI w v X) (hY : Y % 2 = 1) (hYB : Y < 65536) (hl : (ds X.natAbs).length ≤ 1000) :
    Calls Tryz.prog 39 #[v, .int .i64 (Y : Int)] w fun e w' => e = .returned (.int .i64 (Jac.jz X Y)) ∧ Upd NoF w w' := by
  obtain ⟨A, c, rfl, a1, a2⟩ := h1
  have hX : SpI w (.agg #[.bool (decide (X < 0)), .slice A (ds X.natAbs).length c]) X := ⟨A, c, rfl, a1, a2⟩
  obtain ⟨n, hn⟩ : ∃ n, (ds X.natAbs).length = n := ⟨_, rfl⟩
  obtain ⟨sx, hsx⟩ : ∃ s, decide (X < 0) = s := ⟨_, rfl⟩
  have HN := Lib.hid (show (ds X.natAbs).length ≤ 1000000 by omega)
  rw [hn, hsx] at hX
  rw [hn, hsx]
  have HX := Lib.hid (And.intro hX (And.intro hY hYB))
  clear a1 a2 hn hsx hl hX hY hYB
  go_enter Tryz.func39, Tryz.ntmps39
  go_wp2_with fail
  have hb := heap_alloc_new w (.cells #[.bool sx, .slice A n c] 27)
  obtain ⟨g, hg⟩ : ∃ g, w.heap.size = g := ⟨_, rfl⟩
  obtain ⟨w1, hw1⟩ : ∃ w1, w.alloc (.cells #[.bool sx, .slice A n c] 27) = w1 := ⟨_, rfl⟩
  have u1 : Upd NoF w w1 := by rw [← hw1]; exact (Upd.refl NoF w).alloc _
  rw [hg, hw1] at hb
  rw [hg, hw1]
  have HI0 : Hid (SyI w w1 X Y g sx A n c Y 3 1) := ⟨u1, ⟨_, hb, by simp⟩, ⟨_, hb, by simp⟩, HX.out.1.upd u1, Int.one_mul _, Or.inr (Or.inl rfl), HX.out.2.1, HX.out.2.2, rfl, Nat.le_refl _, by omega, Jac.rough_three HX.out.2.1⟩
  clear hb hw1 u1 hg
  go_loopw [1, 5, 6] (fun yv ov pv wr => ∃ (y p : Nat) (out : Int), yv = .int .i64 (y : Int) ∧ ov = .int .i64 out ∧ pv = .int .i64 (p : Int) ∧ Hid (SyI w wr X Y g sx A n c y p out)) (fun yv _ pv _ => (intOf yv).toNat + 3 - (intOf pv).toNat)
  case atStart => exact ⟨Y, 3, 1, rfl, rfl, rfl, HI0⟩
  case round =>
    obtain ⟨y, p, out, rfl, rfl, rfl, HI⟩ := hrel
    by_cases hy : y = 1
    · have q1 : ¬ (1 : Int) < (y : Int) := by omega
      have q2 : decide ((1 : Int) < (y : Int)) = false := decide_eq_false q1
      have hv : out = Jac.jz X Y := by have := HI.out.val; rw [hy, Jac.jz_one, Int.mul_one] at this; exact this
      have HV := Lib.hid hv
      clear hy hv
      go_wp2_with fail
      go_ret
      rw [HV.out]
      exact ⟨rfl, HI.out.up⟩
    · have hyo := HI.out.yo
      have q1 : (1 : Int) < (y : Int) := by omega
      have q2 : decide ((1 : Int) < (y : Int)) = true := decide_eq_true q1
      have HLE := Lib.hid (Jac.rough_end HI.out.rg (show 1 < y by omega))
      have hp3 : (p : Int) ≠ 0 := by have := HI.out.p3; omega
      clear hy hyo
      go_wp2_with fail
      go_loopw [1, 5] (fun yv ov wr2 => ∃ (y2 : Nat) (out2 : Int), yv = .int .i64 (y2 : Int) ∧ ov = .int .i64 out2 ∧ y2 ≤ y ∧ Hid (SyI w wr2 X Y g sx A n c y2 p out2)) (fun yv _ _ => (intOf yv).toNat)
      case atStart => exact ⟨y, out, rfl, rfl, Nat.le_refl _, HI⟩
      case round =>
        obtain ⟨y2, out2, rfl, rfl, hle, HJ⟩ := hrel
        obtain ⟨r, hr⟩ : ∃ r, y2 % p = r := ⟨_, rfl⟩
        have t1 : Int.tmod (y2 : Int) (p : Int) = (r : Int) := by rw [← hr]; rfl
        have hp0 : ((p : Int) == 0) = false := beq_eq_false_iff_ne.2 hp3
        by_cases hr0 : r = 0
        · have q3 : ((r : Int) == 0) = true := beq_iff_eq.2 (by omega)
          obtain ⟨yq, hyq⟩ : ∃ yq, y2 / p = yq := ⟨_, rfl⟩
          have hyB := HJ.out.yB
          have hyq2 : yq ≤ y2 := hyq ▸ Nat.div_le_self _ _
          have t2 : Int.tdiv (y2 : Int) (p : Int) = (yq : Int) := by rw [← hyq]; rfl
          have t3 : IntKind.i64.wrap (yq : Int) = (yq : Int) := by rw [IntKind.wrap_i64]; omega
          have HR := Lib.hid (And.intro (hr0 ▸ hr) (And.intro hyq hle))
          have HPB := Lib.hid (show p < 9223372036854775808 ∧ 0 < p ∧ p < 65536 by have := HI.out.yB; have := HLE.out; have := HJ.out.p3; omega)
          have hy2 : 0 < y2 := by have := HJ.out.yo; omega
          have hylt : yq < y2 := by rw [← hyq]; exact Nat.div_lt_self hy2 (by have := HJ.out.p3; omega)
          have HLT := Lib.hid hylt
          clear hr hr0 hyq hyB hyq2 hle hylt hy2
          go_wp2_with fail
          have HS := Lib.hid (fun w' (hu : Upd NoF wr w') => (HJ.out.upd hu).held)
          go_region_held3 (fun w' => w'.cell? ⟨g, 0, none⟩ = some (.bool sx) ∧ w'.cell? ⟨g, 1, none⟩ = some (.slice A n c))
            (exact HS.out _ (by (repeat (first | exact Upd.refl _ _ | assumption | refine Upd.alloc ?_ _ | refine Upd.drew ?_ | refine Upd.drewN ?_ _ | refine Upd.trans ?_ (by assumption)))))
            (first
              | ((go_at_call 16; refine (small_sp p _ HPB.out.1).mono ?_; rintro e wm ⟨vm, rfl, hm, um⟩))
              | ((go_at_call 47; refine (rest_sp _ vm X p _ (HJ.out.hx.upd (by (repeat (first | exact Upd.refl _ _ | assumption | refine Upd.alloc ?_ _ | refine Upd.drew ?_ | refine Upd.drewN ?_ _ | refine Upd.trans ?_ (by assumption))))) (hm.upd (by (repeat (first | exact Upd.refl _ _ | assumption | refine Upd.alloc ?_ _ | refine Upd.drew ?_ | refine Upd.drewN ?_ _ | refine Upd.trans ?_ (by assumption))))) HPB.out.2.1 HPB.out.2.2 HN.out).mono ?_; rintro e w3 ⟨va, rfl, h3, u3⟩)))
          all_goals
            have U3 : Upd NoF wr w3 := (by (repeat (first | exact Upd.refl _ _ | assumption | refine Upd.alloc ?_ _ | refine Upd.drew ?_ | refine Upd.drewN ?_ _ | refine Upd.trans ?_ (by assumption))))
            obtain ⟨a, ha⟩ : ∃ a, (X % (p : Int)).toNat = a := ⟨_, rfl⟩
            rw [ha] at h3
            have hap : X % (p : Int) = (a : Int) := by rw [← ha, Int.toNat_of_nonneg (Int.emod_nonneg _ hp3)]
            have haB : a < p := by have := Int.emod_lt_of_pos X (show (0 : Int) < (p : Int) by have := HPB.out.2.1; omega); omega
            have ha1 : (ds a).length ≤ 1 := ds_len_of_lt (by rw [Nat.pow_one]; show a < 65536; have := HPB.out.2.2; omega)
            have h3' := h3
            obtain ⟨A3, c3, rfl, _, _⟩ := h3
            have hln := ds_len_eq_zero (n := a)
            obtain ⟨m, hm'⟩ : ∃ m, (ds a).length = m := ⟨_, rfl⟩
            rw [hm'] at h3' hln ha1
            rw [hm']
            have HA := Lib.hid (And.intro hap (And.intro haB (And.intro hln (And.intro h3' (And.intro hm' ha1)))))
            have HJ3 := Lib.hid (HJ.out.upd U3)
            have HU3 := Lib.hid U3
            clear ha hap haB ha1 h3' hln hm' U3 hm um HS
            by_cases hm0 : m = 0
            · have q5 : ((m : Int) == 0) = true := beq_iff_eq.2 (by omega)
              have HR0 := Lib.hid (HA.out.2.2.1.1 hm0)
              clear hm0
              go_wp2_with fail
              go_roundw
              case rel => exact ⟨yq, 0, rfl, rfl, by have := HR.out.2.2; have := HLT.out; omega, HR.out.2.1 ▸ HJ.out.next HR.out.1 HU3.out HA.out.1 (by rw [if_pos HR0.out, Int.mul_zero]) (Or.inl rfl)⟩
              case measure => have := HLT.out; simp [intOf]; omega
            · have q5 : ((m : Int) == 0) = false := beq_eq_false_iff_ne.2 (by omega)
              have HR0 := Lib.hid (fun h => hm0 (HA.out.2.2.1.2 h))
              have t5 : Int.tdiv (p : Int) 2 = ((p / 2 : Nat) : Int) := by rw [Int.tdiv_eq_ediv_of_nonneg (by omega)]; rfl
              obtain ⟨ph, hph⟩ : ∃ ph, p / 2 = ph := ⟨_, rfl⟩
              rw [hph] at t5
              have t6 : IntKind.i64.wrap (ph : Int) = (ph : Int) := by rw [IntKind.wrap_i64]; have := HPB.out.2.2; omega
              have HPH := Lib.hid (And.intro hph (show ph < 65536 by have := HPB.out.2.2; omega))
              clear hm0 hph
              go_wp2_with fail
              refine (small_sp ph w3 (by have := HPH.out.2; omega)).mono ?_
              rintro e w4 ⟨v4, rfl, k4, u4⟩
              have K4 := Lib.hid (And.intro k4 u4)
              clear k4 u4
              go_wp2_with fail
              refine (small_sp p w4 HPB.out.1).mono ?_
              rintro e w5 ⟨v5, rfl, k5, u5⟩
              have K5 := Lib.hid (And.intro (K4.out.1.upd u5) (And.intro k5 (K4.out.2.trans u5)))
              clear k5 u5 K4
              have HPM := Lib.hid (powmod_sp (.slice A3 m c3) v4 v5 a ph p w5 (HA.out.2.2.2.1.upd K5.out.2.2) K5.out.1 K5.out.2.1 HPB.out.2.1 HPB.out.2.2 (by rw [HA.out.2.2.2.2.1]; have := HA.out.2.2.2.2.2; omega) (by have : (ds ph).length ≤ 1 := ds_len_of_lt (by rw [Nat.pow_one]; exact HPH.out.2); omega))
              go_wp2_with fail
              refine HPM.out.mono ?_
              rintro e w6 ⟨v6, rfl, k6, u6⟩
              have K6 := Lib.hid (And.intro k6 (K5.out.2.2.trans u6))
              clear k6 u6 K5 HPM
              have HO := Lib.hid (one_sp v6 (a ^ ph % p) w6 K6.out.1 (by have : (ds (a ^ ph % p)).length ≤ 1 := ds_len_of_lt (by rw [Nat.pow_one]; show a ^ ph % p < 65536; have := Nat.mod_lt (a ^ ph) HPB.out.2.1; have := HPB.out.2.2; omega); omega))
              go_wp2_with fail
              refine HO.out.mono ?_
              rintro e w7 ⟨rfl, u7'⟩
              have K7 := Lib.hid (K6.out.2.trans u7')
              clear u7' K6 HO
              by_cases hone : a ^ ph % p = 1
              · have q6 : decide (a ^ ph % p = 1) = true := decide_eq_true hone
                have HO1 := Lib.hid hone
                rw [q6]
                clear hone
                go_wp2_with fail
                go_roundw
                case rel => exact ⟨yq, out2, rfl, rfl, by have := HR.out.2.2; have := HLT.out; omega, HR.out.2.1 ▸ HJ.out.next HR.out.1 (HU3.out.trans K7.out) HA.out.1 (by rw [if_neg HR0.out, HPH.out.1, if_pos HO1.out, Int.mul_one]) HJ.out.oo⟩
                case measure => have := HLT.out; simp [intOf]; omega
              · have q6 : decide (a ^ ph % p = 1) = false := decide_eq_false hone
                have HO1 := Lib.hid hone
                have w2' : IntKind.i64.wrap (-out2) = -out2 := by rw [IntKind.wrap_i64]; rcases HJ.out.oo with h | h | h <;> rw [h] <;> decide
                rw [q6]
                clear hone
                go_wp2_with fail
                go_roundw
                case rel => exact ⟨yq, -out2, rfl, rfl, by have := HR.out.2.2; have := HLT.out; omega, HR.out.2.1 ▸ HJ.out.next HR.out.1 (HU3.out.trans K7.out) HA.out.1 (by rw [if_neg HR0.out, HPH.out.1, if_neg HO1.out, Int.mul_neg, Int.mul_one]) (by rcases HJ.out.oo with h | h | h <;> rw [h] <;> decide)⟩
                case measure => have := HLT.out; simp [intOf]; omega
        · have q3 : ((r : Int) == 0) = false := beq_eq_false_iff_ne.2 (by omega)
          have hpp := HJ.out.pB
          have hple := HLE.out
          have w1' : IntKind.i64.wrap ((p : Int) + 2) = ((p + 2 : Nat) : Int) := by rw [IntKind.wrap_i64]; omega
          have hyB := HI.out.yB
          have HF : Hid (SyI w wr X Y g sx A n c y2 (p + 2) out2) := ⟨HJ.out.up, HJ.out.b0, HJ.out.b1, HJ.out.hx, HJ.out.val, HJ.out.oo, HJ.out.yo, HJ.out.yB, by have := HJ.out.po; omega, by have := HJ.out.p3; omega, by omega, Jac.rough_next HJ.out.rg HJ.out.yo HJ.out.po (by rw [hr]; exact hr0)⟩
          clear hr hr0
          go_wp2_with fail
          go_roundw
          case rel => exact ⟨y2, p + 2, out2, rfl, rfl, rfl, HF⟩
          case measure => simp [intOf]; omega
end Go.Proofs.YtefeijofhocnpaaGreatDoor
namespace Go.Proofs.YtefeijofhocnpaaGreatDoor
open Go.RowKit
set_option linter.unusedSimpArgs false
theorem dthr_var {W : World} (hs : W.ShapedOpen Tryz.prog) {H : Type} {enc : TypeId × Value → H} {vars : List String} {gs : List (DataW H)} {q : List MemPlace} {i : Nat} (hV : DataW.TrodVars enc Tryz.prog W (fun _ => true) vars gs q) (h : vars[i]? = some "loop.example/pub-g03125/pub/big.divRecursiveThreshold") : ∃ T, DThr W T := by
  obtain ⟨cs, h1, h2, _⟩ := hs.1 3 #[.int .i64 0] 3 (of_decide_eq_true (by kernel_rfl)) (by kernel_rfl)
  exact int_var hV h (by kernel_rfl) (by kernel_rfl) ⟨cs, h1, by simpa using h2⟩
theorem wrap_u64_lt {y : Nat} (h : y < 18446744073709551616) : IntKind.u64.wrap (y : Int) = (y : Int) := by
  show (y : Int) % 18446744073709551616 = _
  omega
set_option maxRecDepth 1000000 in
set_option maxHeartbeats 3200000 in
theorem FnJacobi_any (T : Int) (v : Value) (n : Nat) (V : Int) (y : Nat) (w : World) (hN : NumR w v n V) (hy : y < 65536) (hD : DThr w T) (hO : OneI w) (hZ : TzTab w) :
    Calls Tryz.prog 11 #[v, .int .u16 (y : Int)] w fun e w' => e = .returned (.bool true) ∧ Upd NoF w w' := by
  have HZ := Lib.hid (fun w' (u : Upd NoF w w') => zz_sp v n V w' (hN.upd u))
  have HG := Lib.hid (fun w' (u : Upd NoF w w') => big_sp v n V 12 w' (hN.upd u))
  have HIN := Lib.hid (fun w' (u : Upd NoF w w') (h : n ≤ 12) => in_sp v n V w' (hN.upd u) (by omega))
  have hyl : (digs y).length ≤ 1 := by
    have := digs_len_le (xs := [y]) (Digs.cons (by rw [B64_eq]; omega) Digs.nil)
    simpa [val] using this
  have hlen := hN.len
  have HJ := Lib.hid (fun (w' : World) (u : Upd NoF w w') (v' : Value) (ky : NumR w' v' 1 (y : Int)) (hn : n ≤ 12) (ho : y % 2 = 1) =>
    implJacobi_any T v v' n 1 V y w' (hN.upd u) ky ho (by omega) (by omega) (hD.upd u (fun _ h => h)) (hO.upd u) (hZ.upd u) (fun A B hB hB1 hA1 =>
      divAtT_any hB (fun _ h => by omega) (by have := G_mono (a := (digs B).length) (b := 20) (by omega); have : G 20 = 576 := (by decide); omega) (by omega)))
  have HJP := Lib.hid (fun (w' : World) (u : Upd NoF w w') (v' : Value) (ky : NumR w' v' 1 (y : Int)) (hn : n ≤ 12) (ho : y % 2 = 0) =>
    implJacobi_panic v v' n 1 V y w' (hN.upd u) ky ho (by omega) (by omega))
  obtain ⟨s, A, c, xs, rfl, hN2⟩ := id hN
  have HW := Lib.hid (And.intro hN (And.intro hy hlen))
  clear hN hN2 hO hD hZ hyl hlen hy
  go_enter Tryz.func11, Tryz.ntmps11
  go_wp2_with fail
  have hb := BoxN.new w s A n c
  have u1 : Upd NoF w (w.alloc (.cells #[.bool s, .slice A n c] 33)) := (Upd.refl NoF w).alloc _
  obtain ⟨g, hg⟩ : ∃ g, w.heap.size = g := ⟨_, rfl⟩
  obtain ⟨w1, hw1⟩ : ∃ w1, w.alloc (.cells #[.bool s, .slice A n c] 33) = w1 := ⟨_, rfl⟩
  rw [hg, hw1] at hb
  rw [hw1] at u1
  rw [hg, hw1]
  have H1 := Lib.hid (And.intro u1 hb)
  clear u1 hb hg hw1
  refine (HZ.out w1 H1.out.1).mono ?_
  rintro e w2 ⟨rfl, u2⟩
  by_cases hz : 2147483647 < n
  · have q1 : decide (n ≤ 2147483647) = false := decide_eq_false (by omega)
    rw [q1]
    have HU := Lib.hid (H1.out.1.trans u2)
    clear u2
    go_wp2_with fail
    go_ret
    exact ⟨rfl, HU.out⟩
  have q1 : decide (n ≤ 2147483647) = true := decide_eq_true (by omega)
  rw [q1]
  have H2 := Lib.hid (And.intro (H1.out.1.trans u2) (H1.out.2.upd u2))
  have c0 := H2.out.2.c0.cell
  have c1 := H2.out.2.c1.cell
  clear u2 q1
  go_wp2_with fail
  refine (HG.out w2 H2.out.1).mono ?_
  rintro e w3 ⟨rfl, u3⟩
  by_cases hz2 : 12 < n
  · have q1 : decide (12 < n) = true := decide_eq_true hz2
    rw [q1]
    have HU := Lib.hid (H2.out.1.trans u3)
    clear u3
    go_wp2_with fail
    go_ret
    exact ⟨rfl, HU.out⟩
  have q1 : decide (12 < n) = false := decide_eq_false hz2
  rw [q1]
  have H3 := Lib.hid (And.intro (H2.out.1.trans u3) (H2.out.2.upd u3))
  have c0 := H3.out.2.c0.cell
  have c1 := H3.out.2.c1.cell
  have HN12 := Lib.hid (show n ≤ 12 by omega)
  have wy : IntKind.u64.wrap (y : Int) = (y : Int) := by have := HW.out.2.1; exact wrap_u64_lt (by omega)
  clear u3 q1 hz hz2
  go_wp2_with fail
  have hn1 := num_lit w3 y (by have := HW.out.2.1; rw [B64_eq]; omega)
  have uA : Upd NoF w3 (w3.alloc (.cells #[.int .u64 (y : Int)] 22)) := (Upd.refl NoF w3).alloc _
  obtain ⟨gb, hgb⟩ : ∃ gb, w3.heap.size = gb := ⟨_, rfl⟩
  obtain ⟨w4, hw4⟩ : ∃ w4, w3.alloc (.cells #[.int .u64 (y : Int)] 22) = w4 := ⟨_, rfl⟩
  rw [hgb, hw4] at hn1
  rw [hw4] at uA
  rw [hgb, hw4]
  have H4 := Lib.hid (And.intro (H3.out.1.trans uA) (And.intro (H3.out.2.upd uA) hn1))
  clear hn1 uA hgb hw4
  obtain ⟨r, hr⟩ : ∃ r, y % 2 = r := ⟨_, rfl⟩
  have t1 : Int.tmod (y : Int) 2 = (r : Int) := by rw [← hr]; rfl
  by_cases ho : y % 2 = 1
  · have q1 : ((r : Int) == 0) = false := beq_eq_false_iff_ne.2 (by omega)
    have HO1 := Lib.hid ho
    clear ho hr
    refine (HJ.out w4 H4.out.1 _ H4.out.2.2 HN12.out HO1.out).mono ?_
    rintro e w5 ⟨rfl, u5⟩
    obtain ⟨J, hJ⟩ : ∃ J, Jac.jz V y = J := ⟨_, rfl⟩
    rw [hJ]
    have H5 := Lib.hid (And.intro (H4.out.1.trans u5) (And.intro (H4.out.2.1.upd u5) hJ))
    have c0 := H5.out.2.1.c0.cell
    have c1 := H5.out.2.1.c1.cell
    have wi : IntKind.i64.wrap (y : Int) = (y : Int) := by have := HW.out.2.1; rw [IntKind.wrap_i64]; omega
    clear u5 hJ
    go_wp2_with fail
    refine (HIN.out w5 H5.out.1 HN12.out).mono ?_
    rintro e w6 ⟨v6, rfl, hv6, u6⟩
    have HS := Lib.hid (symbol_sp v6 V y w6 hv6 HO1.out HW.out.2.1 (by have h4 := ds_len4 V.natAbs; have := HW.out.2.2; have := HN12.out; omega))
    have H6 := Lib.hid (And.intro (H5.out.1.trans u6) H5.out.2.2)
    clear u6 hv6
    go_wp2_with fail
    refine HS.out.mono ?_
    rintro e w7 ⟨rfl, u7⟩
    rw [H6.out.2]
    have q6 : (J == J) = true := beq_self_eq_true J
    have H7 := Lib.hid (H6.out.1.trans u7)
    clear u7 HS
    go_wp2_with fail
    go_ret
    exact ⟨rfl, H7.out⟩
  · have q1 : ((r : Int) == 0) = true := beq_iff_eq.2 (by omega)
    have HO1 := Lib.hid (show y % 2 = 0 by omega)
    clear ho hr
    refine (HJP.out w4 H4.out.1 _ H4.out.2.2 HN12.out HO1.out).mono ?_
    rintro e w5 ⟨rfl, u5⟩
    have H5 := Lib.hid (H4.out.1.trans u5)
    clear u5
    go_wp2_with fail
    go_ret
    exact ⟨rfl, H5.out⟩
end Go.Proofs.YtefeijofhocnpaaGreatDoor
