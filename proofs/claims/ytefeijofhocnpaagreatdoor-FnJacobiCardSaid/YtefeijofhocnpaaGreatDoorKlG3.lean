/- For the claim of laws.The program's symbol is Jacobi's (FnJacobi).: ShelfT, Tz, Rsh, Jacobi, ImplJacobi, ImplJacP. -/
import Derived.Test.YtefeijofhocnpaaGreatDoorKlShelfD
import Derived.Test.YtefeijofhocnpaaGreatDoorProg
import Derived.Shelf.Lay
import Derived.Shelf.Spec.TrailingZeros
import Derived.Test.YtefeijofhocnpaaGreatDoorKlA2
import Derived.Test.YtefeijofhocnpaaGreatDoorKlDs
import Derived.Test.YtefeijofhocnpaaGreatDoorKlF1
import Derived.Test.YtefeijofhocnpaaGreatDoorKlD3
import Derived.Test.YtefeijofhocnpaaGreatDoorKlG2
import Derived.Deep.DeepCutAuto
import Derived.BigQuiet
import Derived.Deep.RegionHeld3
import Derived.Deep.RegionHeld2
set_option linter.unusedVariables false
set_option linter.unusedSimpArgs false
namespace Go.Proofs.YtefeijofhocnpaaGreatDoor
open Go.RowKit
def TzTab (w : World) : Prop := TabAt 7 Lib.deBruijn64tab w
theorem TzTab.upd {w w' : World} (h : TzTab w) (u : Upd NoF w w') : TzTab w' := fun j hj => u.cell (h j hj) (fun h => h)
theorem TrailingZeros_any (x : Nat) (w : World) (hx : x < B64) (hT : TzTab w) :
    Calls Tryz.prog 126 #[.int .u64 (x : Int)] w fun e w' => e = .returned (.int .i64 ((Lib.ctz 64 x : Nat) : Int)) ∧ w' = w :=
  Any7.bits_TrailingZeros Tryz.lays727 x hx w (fun _ => hT)
set_option maxRecDepth 100000 in
theorem tz_any (x : Loc) (X n : Nat) (w : World) (hx : NatV w x X) (hX : X ≠ 0) (hl : (digs X).length = n) (hn : n ≤ 1099511627776) (hT : TzTab w) :
    Calls Tryz.prog 99 #[.slice x.A n x.c] w fun e w' => ∃ s m : Nat, e = .returned (.int .u64 (s : Int)) ∧ w' = w ∧ X = 2 ^ s * (2 * m + 1) := by
  have hn0 : n ≠ 0 := by have := mt (digs_len_eq_zero (n := X)).1 hX; omega
  have exA := hx.addr (by omega)
  have hv := val_digs X
  have hxc := hx.le
  have hat := hx.at_
  have hdg := digs_digs X
  obtain ⟨xA, xc, xb, xo⟩ := x
  simp only at exA hxc hat
  subst exA
  obtain ⟨xs, hxs⟩ : ∃ xs, digs X = xs := ⟨_, rfl⟩
  rw [hxs] at hl hv hxc hat hdg
  have q1 : ((n : Int) == 0) = false := beq_eq_false_iff_ne.2 (by omega)
  have H := Lib.hid (And.intro hv (And.intro hX (And.intro hl (And.intro hn (And.intro hT (And.intro hat hdg))))))
  clear hv hX hl hn hT hat hdg hx hxs
  go_enter Tryz.func99, Tryz.ntmps99
  go_wp2_with fail
  go_loop [3] (fun i => ∃ j : Nat, j < n ∧ i = .int .u64 j ∧ Hid (val B64 (xs.take j) = 0)) (fun i => n - (intOf i).toNat)
  case atStart => exact ⟨0, by omega, rfl, by show _ = _; simp⟩
  case round =>
    obtain ⟨j, hj, rfl, hV⟩ := hrel
    obtain ⟨t, et, ct, ft, _⟩ := U64.at_ (k := j) (H.out.2.2.2.2.2.1.drop j) H.out.2.2.1 hj
    have htB : t < B64 := H.out.2.2.2.2.2.2.at_ et
    have p2 : (j : Int) < (n : Int) := by omega
    have p3 : (0 : Int) ≤ (j : Int) := by omega
    have hn := H.out.2.2.2.1
    have kw : IntKind.i64.wrap (j : Int) = (j : Int) := by rw [IntKind.wrap_i64]; omega
    by_cases h0 : t = 0
    · have q2 : ((t : Int) == 0) = true := beq_iff_eq.2 (by omega)
      have hV2 : Hid (val B64 (xs.take (j + 1)) = 0) := by
        show _ = _
        rw [val_take_at et, hV.out, h0]; simp
      have hlt : j + 1 < n := by
        rcases Nat.lt_or_ge (j + 1) n with h | h
        · exact h
        · exfalso
          have h1 := hV2.out
          rw [List.take_of_length_le (by rw [H.out.2.2.1]; omega), H.out.1] at h1
          exact H.out.2.1 h1
      have w1 : IntKind.u64.wrap ((j : Int) + 1) = ((j + 1 : Nat) : Int) := by rw [IntKind.wrap_u64]; omega
      clear h0 et htB hV hn
      go_wp2_with fail
      go_round
      case rel => exact ⟨j + 1, hlt, rfl, hV2⟩
      case measure => simp [intOf]; omega
    · have q2 : ((t : Int) == 0) = false := beq_eq_false_iff_ne.2 (by omega)
      obtain ⟨m, hm, hc⟩ := tz_word hV.out et h0 htB
      rw [H.out.1] at hm
      have HT := Lib.hid (TrailingZeros_any t w htB H.out.2.2.2.2.1)
      obtain ⟨c, hcc⟩ : ∃ c, Lib.ctz 64 t = c := ⟨_, rfl⟩
      rw [hcc] at hm hc HT
      have HM := Lib.hid hm
      have w1 : IntKind.u64.wrap ((j : Int) * 64) = (j : Int) * 64 := by rw [IntKind.wrap_u64]; omega
      have w2 : IntKind.u64.wrap (c : Int) = (c : Int) := by rw [IntKind.wrap_u64]; omega
      have w3 : IntKind.u64.wrap ((j : Int) * 64 + (c : Int)) = ((64 * j + c : Nat) : Int) := by rw [IntKind.wrap_u64]; omega
      clear h0 et htB hV hm hc hcc hn
      go_wp2_with fail
      refine HT.out.mono ?_
      rintro e w' ⟨rfl, hw'⟩
      cases hw'.symm
      go_wp2_with fail
      go_ret
      exact ⟨_, m, rfl, rfl, HM.out⟩
end Go.Proofs.YtefeijofhocnpaaGreatDoor
namespace Go.Proofs.YtefeijofhocnpaaGreatDoor
open Go.RowKit
set_option maxRecDepth 1000000 in
set_option maxHeartbeats 1600000 in
theorem same_apart (z x : Loc) (nz nx : Nat) (w : World) (hz : z.Ok w) (hx : x.Ok w) (ha : Apart z x) (hnz : nz ≤ z.c) (hnx : nx ≤ x.c) :
    Calls Tryz.prog 151 #[.slice z.A nz z.c, .slice x.A nx x.c] w fun e w' => e = .returned (.bool false) ∧ Drew w w' := by
  obtain ⟨zA, zc, zb, zo⟩ := z
  obtain ⟨xA, xc, xb, xo⟩ := x
  simp only at hnz hnx
  by_cases h1 : nz = nx
  · subst h1
    have p1 : ((nz : Int) == (nz : Int)) = true := by simp
    by_cases h0 : nz = 0
    · subst h0
      have q0 : decide ((0 : Int) < 0) = false := rfl
      clear hz hx ha hnz hnx
      go_enter Tryz.func151, Tryz.ntmps151
      go_wp2_with fail
      go_quiet (fail)
      go_wp2_with fail
      go_ret
      exact ⟨rfl, by repeat (first | exact ⟨_, rfl⟩ | refine Drew.step ?_ _)⟩
    · obtain ⟨hzA, hzL⟩ := hz.2 (by simp only; omega)
      obtain ⟨hxA, hxL⟩ := hx.2 (by simp only; omega)
      simp only at hzA hxA hzL hxL
      subst hzA; subst hxA
      have hb : ((⟨zb, zo, none⟩ : Addr) == ⟨xb, xo, none⟩) = false := by
        rw [addr_beq]
        refine decide_eq_false ?_
        rintro ⟨e1, e2⟩
        unfold Apart at ha
        simp only at ha
        omega
      have hp : ∀ nq, (binOp .eql 127 (.pointer (some ⟨zb, zo, none⟩)) (.pointer (some ⟨xb, xo, none⟩))).run Tryz.prog (w.drewN nq) = .ok (.bool false) (w.drewN nq) :=
        fun nq => eql_words (w := w.drewN nq) (hzL.free (by omega)) (hxL.free (by omega)) hb
      have hn0 : 0 < nz := by omega
      have p0 : (0 : Int) < (nz : Int) := by omega
      have q0 : decide (0 < nz) = true := decide_eq_true hn0
      clear hb hz hx hzL hxL ha h0
      go_enter Tryz.func151, Tryz.ntmps151
      go_wp2_with fail
      go_quiet (fail)
      go_wp2_with fail
      go_ret
      exact ⟨rfl, by repeat (first | exact ⟨_, rfl⟩ | refine Drew.step ?_ _)⟩
  · have p1 : ((nz : Int) == (nx : Int)) = false := beq_eq_false_iff_ne.2 (by omega)
    clear hz hx ha hnz hnx
    go_enter Tryz.func151, Tryz.ntmps151
    go_wp2_with fail
    go_quiet (fail)
    go_wp2_with fail
    go_ret
    exact ⟨rfl, by repeat (first | exact ⟨_, rfl⟩ | refine Drew.step ?_ _)⟩
set_option maxRecDepth 1000000 in
theorem rsh_zero (z x : Loc) (nz X m : Nat) (w : World) (hz : z.Ok w) (hx : NatV w x X) (hm : (digs X).length = m) (hmB : m ≤ 1099511627776) (ha : Apart z x) (hnz : nz ≤ z.c) :
    Calls Tryz.prog 124 #[.slice z.A nz z.c, .slice x.A m x.c, .int .u64 0] w fun e w' => NatRes w z m X e w' := by
  have HS := Lib.hid (same_apart z x nz m w hz hx.ok ha hnz (by rw [← hm]; exact hx.le))
  have HA := Lib.hid (fun w' (u : Upd NoF w w') => alias_any z x nz m w' (hz.upd u) (hx.ok.upd u))
  have HE := Lib.hid (fun w' (u : Upd NoF w w') => (by have := set_any z x nz X w' (hz.upd u) (hx.upd0 u) (by omega); rw [hm] at this; exact this : Calls Tryz.prog 89 #[.slice z.A nz z.c, .slice x.A m x.c] w' fun e w2 => NatRes w' z m X e w2))
  have al := ha.alias
  rw [al] at HA
  have q1 : ((0 : Int) == 0) = true := rfl
  clear hz hx hm ha hnz al
  go_enter Tryz.func124, Tryz.ntmps124
  go_wp2_with fail
  refine HS.out.mono ?_
  rintro e w1 ⟨rfl, hw⟩
  have hu := hw.upd
  clear hw
  go_wp2_with fail
  refine (HA.out w1 hu).mono ?_
  rintro e w2 ⟨rfl, hw2⟩
  have hu2 := hu.trans hw2.upd
  clear hw2 hu
  go_wp2_with fail
  refine (HE.out w2 hu2).mono ?_
  rintro e w3 ⟨r, rfl, h1, h2, h3, h4⟩
  have HF := Lib.hid (NatRes.since (e := .returned (.slice r.A (digs X).length r.c)) hu2 ⟨r, rfl, h1, h2, h3, h4⟩)
  clear h1 h2 h3 h4
  go_wp2_with fail
  go_ret
  exact HF.out
theorem rsh_any (z x : Loc) (nz X s : Nat) (w : World) (hz : z.Ok w) (hx : NatV w x X) (hmB : (digs X).length ≤ 1099511627776) (ha : Apart z x) (hnz : nz ≤ z.c) (hs : 2 ^ s ≤ X) :
    Calls Tryz.prog 124 #[.slice z.A nz z.c, .slice x.A (digs X).length x.c, .int .u64 (s : Int)] w fun e w' => ∃ need, NatRes w z need (X / 2 ^ s) e w' := by
  by_cases h0 : s = 0
  · subst h0
    rw [Nat.pow_zero, Nat.div_one]
    exact (rsh_zero z x nz X _ w hz hx rfl hmB ha hnz).mono (fun _ _ h => ⟨_, h⟩)
  · have hX := lt_of_digs_len X
    have hlt : s < 64 * (digs X).length := by
      rw [show B64 = 2 ^ 64 from rfl, ← Nat.pow_mul] at hX
      exact (Nat.pow_lt_pow_iff_right (by omega : 1 < 2)).1 (Nat.lt_of_le_of_lt hs hX)
    obtain ⟨m, hm⟩ : ∃ m, (digs X).length = m + s / 64 := ⟨(digs X).length - s / 64, by omega⟩
    rw [hm]
    exact (rsh_pos z x nz X s m (s / 64) (s % 64) w hz hx hm (by omega) (by omega) (by omega) (by omega) h0 (Or.inr ha)).mono (fun _ _ h => ⟨_, h⟩)
set_option maxRecDepth 1000000 in
theorem Rsh_o (zb xb s : Nat) (z x : Loc) (Z : Int) (X : Nat) (w : World) (hz : IntV w zb z Z) (hx : IntV w xb x (X : Int)) (ha : Apart z x) (hm : (digs X).length ≤ 1099511627776) (hs : 2 ^ s ≤ X) :
    Calls Tryz.prog 100 #[.pointer (some ⟨zb, 0, none⟩), .pointer (some ⟨xb, 0, none⟩), .int .u64 (s : Int)] w fun e w' => e = .returned (.pointer (some ⟨zb, 0, none⟩)) ∧ IntOut w zb z ((X / 2 ^ s : Nat) : Int) w' := by
  have c1 := hz.neg.cell
  have c2 := hz.neg.frozen
  have c3 := hz.abs.cell
  have c4 := hz.abs.frozen
  have c5 := hx.neg.cell
  have c6 := hx.abs.cell
  rw [decide_eq_false (by omega : ¬ ((X : Nat) : Int) < 0)] at c5
  rw [Int.natAbs_natCast] at c6
  have HS := Lib.hid (fun (w' : World) (u : Upd NoF w w') => (rsh_any z x (digs Z.natAbs).length X s w' (hz.nat.ok.upd u) (by have := hx.nat.upd0 u; rwa [Int.natAbs_natCast] at this) hm ha hz.nat.le hs).mono (R' := fun e w2 => ∃ k, NatRes w z k (X / 2 ^ s) e w2) (fun _ _ ⟨k, h⟩ => ⟨k, NatRes.since u h⟩))
  have HZ := Lib.hid hz.dest
  obtain ⟨N, hN⟩ : ∃ N, X / 2 ^ s = N := ⟨_, rfl⟩
  rw [hN] at HS ⊢
  clear hz hx ha hm hs hN
  go_enter Tryz.func100, Tryz.ntmps100
  go_wp2_with fail
  refine wp_region_pre_tail 1 10 (by kernel_rfl) (by kernel_rfl) ?_
  simp only [List.take_succ_cons, List.take_zero, List.drop_succ_cons, List.drop_zero]
  repeat (refine wpPure_step ?_ (fun _ _ _ h => h) (by rfl) (by intro _; go_simp; with_reducible rfl) ?_; (try simp only [Act.put, List.setIfInBounds_toArray, List.set_cons_zero, List.set_cons_succ]))
  refine wpPure_nil ?_
  repeat still_step
  refine wpStill_nil ?_
  go_wp2_with fail
  refine (HS.out _ ((Upd.refl NoF w).drew)).mono ?_
  rintro e w1 ⟨k, r, rfl, h1, h2, h3, h4⟩
  have d1 := (HZ.out.keep HZ.out.ok h3).abs.cell
  have d2 := (HZ.out.keep HZ.out.ok h3).abs.frozen
  have d3 := (HZ.out.keep HZ.out.ok h3).neg.cell
  have d4 := (HZ.out.keep HZ.out.ok h3).neg.frozen
  have hm := IntRes.made HZ.out h1 h2 h3 h4 (v := (N : Int)) (by rw [Int.natAbs_natCast])
  rw [decide_eq_false (by omega : ¬ ((N : Nat) : Int) < 0)] at hm
  have HM := Lib.hid hm
  clear h1 h2 h3 h4 hm c1 c2 c3 c4 c5 c6
  go_wp2
  go_ret
  exact ⟨rfl, HM.out.out⟩
end Go.Proofs.YtefeijofhocnpaaGreatDoor
namespace Go.Proofs.YtefeijofhocnpaaGreatDoor
open Go.RowKit
theorem low_word {X : Nat} (h : X ≠ 0) : ∃ t, (digs X)[0]? = some t ∧ t < B64 ∧ X % 8 = t % 8 ∧ X % 4 = t % 4 ∧ X % 2 = t % 2 := by
  refine ⟨X % B64, ?_, Nat.mod_lt _ B64_pos, ?_⟩
  · rw [digs_pos h]; rfl
  · rw [B64_eq]; omega
theorem and_low (t k : Nat) (ht : t < B64) (hk : k ≤ 3) : bits .and .u64 (t : Int) ((2 ^ k - 1 : Nat) : Int) = ((t % 2 ^ k : Nat) : Int) := by
  have ht' : t < 2 ^ 64 := ht
  have hk1 : 2 ^ k ≤ 2 ^ 3 := Nat.pow_le_pow_right (by omega) hk
  have h2 : ∀ x : Nat, x < 2 ^ 64 → (BitVec.ofInt 64 (x : Int)).toNat = x := fun x hx => by
    rw [BitVec.ofInt_natCast, BitVec.toNat_ofNat]; exact Nat.mod_eq_of_lt hx
  show IntKind.u64.wrap ((BitVec.ofInt 64 (t : Int) &&& BitVec.ofInt 64 ((2 ^ k - 1 : Nat) : Int)).toNat : Int) = _
  rw [BitVec.toNat_and, h2 t ht', h2 _ (by omega), Nat.and_two_pow_sub_one_eq_mod, IntKind.wrap_u64]
  have : t % 2 ^ k < 2 ^ k := Nat.mod_lt _ (Nat.two_pow_pos k)
  omega
structure JI (w wr : World) (X : Int) (Y g : Nat) (j A : Int) (B : Nat) (C : Int) (la lb lc : Loc) : Prop where
  jj : j = 1 ∨ j = -1
  val : j * Jac.jz A B = Jac.jz X Y
  odd : B % 2 = 1
  sB : (digs B).length ≤ (digs Y).length
  sA : (digs A.natAbs).length ≤ max (digs X.natAbs).length (digs Y).length
  ints : Ints w wr [(g + 1 + 1, lc, C), (g + 1, lb, (B : Int)), (g, la, A)]
theorem JI.upd {w wr w' : World} {X : Int} {Y g : Nat} {j A : Int} {B : Nat} {C : Int} {la lb lc : Loc} (h : JI w wr X Y g j A B C la lb lc) (u : Upd NoF wr w') : JI w w' X Y g j A B C la lb lc := ⟨h.jj, h.val, h.odd, h.sB, h.sA, h.ints.upd u⟩
theorem IntV.low0 {w : World} {b : Nat} {l : Loc} {X : Nat} (h : IntV w b l (X : Int)) (h0 : X ≠ 0) : ∃ t n, t < B64 ∧ X % 8 = t % 8 ∧ X % 4 = t % 4 ∧ X % 2 = t % 2 ∧ (digs X).length = n ∧ 0 < n ∧ n ≤ l.c ∧ w.cell? ⟨b, 1, none⟩ = some (.slice (some ⟨l.b, l.o, none⟩) n l.c) ∧ w.cell? ⟨l.b, l.o, none⟩ = some (.int .u64 (t : Int)) := by
  obtain ⟨t, ht, htB, h8, h4, h2⟩ := low_word h0
  have hl := mt (digs_len_eq_zero (n := X)).1 h0
  have c1 := h.abs.cell
  have hn := h.nat
  rw [Int.natAbs_natCast] at c1 hn
  have eA := hn.addr (by omega)
  obtain ⟨g1, e1⟩ := List.getElem?_eq_some_iff.1 ht
  have c2 := hn.at_.cell 0 g1
  rw [e1] at c2
  exact ⟨t, _, htB, h8, h4, h2, rfl, by omega, hn.le, by rw [← eA]; exact c1, c2⟩
theorem one_cmp {B : Nat} : cmpI (B : Int) 1 = if B = 1 then 0 else if B = 0 then -1 else 1 := by
  unfold cmpI
  by_cases h : B = 0
  · subst h; rfl
  · rw [if_neg (by omega), if_neg h]
    by_cases h1 : B = 1
    · rw [if_neg (by omega), if_pos h1]
    · rw [if_pos (by omega), if_neg h1]
set_option maxRecDepth 1000000 in
set_option maxHeartbeats 1600000 in
theorem Jacobi_any (T : Int) (xb yb : Nat) (x y : Loc) (X : Int) (Y : Nat) (w : World) (hx : IntV w xb x X) (hy : IntV w yb y (Y : Int)) (ho : Y % 2 = 1) (hT : DThr w T) (hO : OneI w) (hZ : TzTab w)
    (hD : ∀ A B : Nat, B ≠ 0 → (digs B).length ≤ (digs Y).length → (digs A).length ≤ max (digs X.natAbs).length (digs Y).length → DivAtT T A B) (hX1 : (digs X.natAbs).length ≤ 1000000) (hY1 : (digs Y).length ≤ 1000000) :
    Calls Tryz.prog 70 #[.pointer (some ⟨xb, 0, none⟩), .pointer (some ⟨yb, 0, none⟩)] w fun e w' => e = .returned (.int .i64 (Jac.jz X Y)) ∧ Upd NoF w w' := by
  have hY0 : Y ≠ 0 := by omega
  obtain ⟨t, n, htB, _, _, ht2, _, q3', hyc, c1, c2⟩ := hy.low0 hY0
  have q1 : ((n : Int) == 0) = false := beq_eq_false_iff_ne.2 (by omega)
  have q2 : bits .and .u64 (t : Int) 1 = 1 := by
    have := and_low t 1 htB (by omega)
    rw [show ((2 ^ 1 - 1 : Nat) : Int) = 1 from rfl] at this
    rw [this]; omega
  have q3 : (0 : Int) < (n : Int) := by omega
  have HX := Lib.hid (And.intro hx (And.intro hy (And.intro ho (And.intro hT (And.intro hO (And.intro hZ (And.intro hD (And.intro hX1 hY1))))))))
  have hI := ((Ints.nil w).new).new.new
  simp only [size_alloc] at hI
  obtain ⟨g, hg⟩ : ∃ g, w.heap.size = g := ⟨_, rfl⟩
  have hxg : xb < g := hg ▸ hx.neg.lt
  have hyg : yb < g := hg ▸ hy.neg.lt
  rw [hg] at hI
  have HI := Lib.hid hI
  have HG := Lib.hid (And.intro hxg hyg)
  clear hx hy ho hT hO hZ hD hX1 hY1 htB ht2 hY0 hI hxg hyg q3'
  go_enter Tryz.func70, Tryz.ntmps70
  go_wp2_with fail
  obtain ⟨w1, hw1⟩ : ∃ w1, (((w.alloc (.cells #[.bool false, .slice none 0 0] 80)).alloc (.cells #[.bool false, .slice none 0 0] 80)).alloc (.cells #[.bool false, .slice none 0 0] 80)) = w1 := ⟨_, rfl⟩
  rw [hw1] at HI ⊢
  refine (Set_o g xb nilL x 0 X w1 (HI.out.at_ 2 _ _ _ rfl) (HI.out.old HX.out.1) (by have := HG.out; omega) (by have := HX.out.2.2.2.2.2.2.2.1; omega)).mono ?_
  rintro e w2 ⟨rfl, ho⟩
  obtain ⟨la, h2⟩ := HI.out.out (i := 2) rfl ho
  have H2 : Hid (Ints w w2 [(g + 1 + 1, nilL, 0), (g + 1, nilL, 0), (g, la, X)]) := h2
  clear ho h2 hw1 c1 c2 HI
  go_wp2_with fail
  refine (Set_o (g + 1) yb nilL y 0 (Y : Int) w2 (H2.out.at_ 1 _ _ _ rfl) (H2.out.old HX.out.2.1) (by have := HG.out; omega) (by have := HX.out.2.2.2.2.2.2.2.2; rw [Int.natAbs_natCast]; omega)).mono ?_
  rintro e w3 ⟨rfl, ho⟩
  obtain ⟨lb, h3⟩ := H2.out.out (i := 1) rfl ho
  have h3' : Ints w w3 [(g + 1 + 1, nilL, 0), (g + 1, lb, (Y : Int)), (g, la, X)] := h3
  have d1 := (h3'.at_ 1 _ _ _ rfl).neg.cell
  rw [decide_eq_false (by omega : ¬ ((Y : Nat) : Int) < 0)] at d1
  have H3 : Hid (JI w w3 X Y g 1 X Y 0 la lb nilL) := ⟨Or.inl rfl, Int.one_mul _, HX.out.2.2.1, Nat.le_refl _, Nat.le_max_left _ _, h3'⟩
  clear ho h3 h3' H2
  go_wp2_with fail
  go_loopw [8] (fun jv wr => ∃ (j A : Int) (B : Nat) (C : Int) (la lb lc : Loc), jv = .int .i64 j ∧ Hid (JI w wr X Y g j A B C la lb lc)) (fun _ wr => (intAt wr (g + 1)).natAbs)
  case atStart => exact ⟨1, X, Y, 0, la, lb, nilL, rfl, H3⟩
  case round =>
    obtain ⟨j, A, B, C, la, lb, lc, rfl, HJ⟩ := hrel
    have hB0 : B ≠ 0 := by have := HJ.out.odd; omega
    have ib := HJ.out.ints.at_ 1 _ _ _ rfl
    have HM := Lib.hid (show (intAt wr (g + 1)).natAbs = B by rw [ib.val, Int.natAbs_natCast])
    obtain ⟨ob, oo, lo, co, hO1⟩ := HX.out.2.2.2.2.1.sub HJ.out.ints
    have HC := Cmp_oO (g + 1) ob oo lb lo (B : Int) 1 wr ib (HJ.out.ints.oldR hO1) (HJ.out.ints.farR (i := 1) rfl hO1).1 (by rw [Int.natAbs_natCast]; have := HJ.out.sB; have := HX.out.2.2.2.2.2.2.2.2; omega)
    rw [one_cmp] at HC
    clear hO1 ib
    by_cases hB1 : B = 1
    · rw [if_pos hB1] at HC
      have HC := Lib.hid HC
      have hj : j = Jac.jz X Y := by have := HJ.out.val; rw [hB1, Jac.jz_one, Int.mul_one] at this; exact this
      have HJJ := Lib.hid hj
      clear hB1 hj hB0
      go_wp2_with fail
      refine HC.out.mono ?_
      rintro e w4 ⟨rfl, hd⟩
      have HU := Lib.hid (HJ.out.upd hd.upd).ints.up
      clear hd
      go_wp2_with fail
      go_ret
      rw [HJJ.out]
      exact ⟨rfl, HU.out⟩
    · rw [if_neg hB1, if_neg hB0] at HC
      have HC := Lib.hid HC
      go_wp2_with fail
      refine HC.out.mono ?_
      rintro e w4 ⟨rfl, hd⟩
      have HJ4 := Lib.hid (HJ.out.upd hd.upd)
      have c1 := (HJ4.out.ints.at_ 2 _ _ _ rfl).abs.cell
      clear hd HC co
      by_cases hA0 : A = 0
      · have q4 : (((digs A.natAbs).length : Int) == 0) = true := beq_iff_eq.2 (by have := natAbs_len_zero.2 hA0; omega)
        have hj : Jac.jz X Y = 0 := by
          have := HJ.out.val
          rw [Jac.jz_zero (by omega) (by rw [hA0]; simp), Int.mul_zero] at this
          exact this.symm
        have HJJ := Lib.hid hj
        clear hA0 hj hB0 hB1
        go_wp2_with fail
        go_ret
        rw [HJJ.out]
        exact ⟨rfl, HJ4.out.ints.up⟩
      · have q4 : (((digs A.natAbs).length : Int) == 0) = false := beq_eq_false_iff_ne.2 (by have := mt natAbs_len_zero.1 hA0; omega)
        have s1 := HX.out.2.2.2.2.2.2.2.1
        have s2 := HX.out.2.2.2.2.2.2.2.2
        have s3 := HJ.out.sA
        have s4 := HJ.out.sB
        have HMD := Lib.hid (Mod_I T w w4 _ 2 2 1 g g (g + 1) la la lb A A (B : Int) HJ4.out.ints rfl rfl rfl (by decide) HX.out.2.2.2.1 (by rw [Int.natAbs_natCast]; exact HX.out.2.2.2.2.2.2.1 _ _ hB0 HJ.out.sB HJ.out.sA) (by omega) (by omega) (by rw [Int.natAbs_natCast]; omega))
        clear s1 s2 s3 s4
        go_wp2_with fail
        refine HMD.out.mono ?_
        rintro e w5 ⟨rfl, r, h5⟩
        obtain ⟨a, ha⟩ : ∃ a : Nat, A % (B : Int) = (a : Int) := ⟨(A % (B : Int)).toNat, by have := Int.emod_nonneg A (show (B : Int) ≠ 0 by omega); omega⟩
        have haB : a < B := by have := Int.emod_lt_of_pos A (show (0 : Int) < B by omega); omega
        rw [ha] at h5
        have H5 : Hid (Ints w w5 [(g + 1 + 1, lc, C), (g + 1, lb, (B : Int)), (g, r, (a : Int))]) := h5
        have c2 := (H5.out.at_ 2 _ _ _ rfl).abs.cell
        rw [Int.natAbs_natCast] at c2
        clear h5 c1 q4 HMD
        by_cases ha0 : a = 0
        · have q4 : (((digs a).length : Int) == 0) = true := beq_iff_eq.2 (by have := (digs_len_eq_zero (n := a)).2 ha0; omega)
          have hj : Jac.jz X Y = 0 := by
            have := HJ.out.val
            rw [Jac.jz_zero (by omega) (by rw [ha, ha0]; rfl), Int.mul_zero] at this
            exact this.symm
          have HJJ := Lib.hid hj
          clear hA0 hj hB0 hB1 ha0 ha haB
          go_wp2_with fail
          go_ret
          rw [HJJ.out]
          exact ⟨rfl, H5.out.up⟩
        · have q4 : (((digs a).length : Int) == 0) = false := beq_eq_false_iff_ne.2 (by have := mt (digs_len_eq_zero (n := a)).1 ha0; omega)
          have hla : (digs a).length ≤ (digs B).length := digs_len_mono (by omega)
          have hla2 : (digs a).length ≤ 1000000 := by have := HX.out.2.2.2.2.2.2.2.2; have := HJ.out.sB; omega
          have HT := Lib.hid (tz_any r a _ w5 (by have := (H5.out.at_ 2 _ _ _ rfl).nat; rwa [Int.natAbs_natCast] at this) ha0 rfl (by omega) (HX.out.2.2.2.2.2.1.upd H5.out.up))
          have HA := Lib.hid (And.intro ha (And.intro haB (And.intro ha0 (And.intro hB1 (And.intro hB0 (And.intro hla hla2))))))
          clear ha haB ha0 hB1 hB0 hla hla2 hA0
          go_wp2_with fail
          refine HT.out.mono ?_
          rintro e w6 ⟨s, m, rfl, hw6, hsm⟩
          cases hw6
          have hs2 : 2 ^ s ≤ a := by rw [hsm]; exact Nat.le_mul_of_pos_right _ (by omega)
          have hsB : s < B64 := by
            have h1 := lt_of_digs_len a
            rw [show B64 = 2 ^ 64 from rfl, ← Nat.pow_mul] at h1
            have h2 := (Nat.pow_lt_pow_iff_right (by omega : 1 < 2)).1 (Nat.lt_of_le_of_lt hs2 h1)
            have := HA.out.2.2.2.2.2.2
            rw [B64_eq]; omega
          have q5 : bits .and .u64 (s : Int) 1 = ((s % 2 : Nat) : Int) := and_low s 1 hsB (by omega)
          obtain ⟨s1, hs1⟩ : ∃ s1, s % 2 = s1 := ⟨_, rfl⟩
          rw [hs1] at q5
          have HS := Lib.hid (And.intro hsm (And.intro hs2 hs1))
          clear hs1
          clear hsm hs2 hsB HT q4 c2
          have ib := H5.out.at_ 1 _ _ _ rfl
          obtain ⟨tb, nb, htB, hb8, hb4, hb2, _, hnb, hnb2, e1, e2⟩ := ib.low0 HA.out.2.2.2.2.1
          have q6 : bits .and .u64 (tb : Int) 7 = ((tb % 8 : Nat) : Int) := and_low tb 3 htB (by omega)
          have q7 : bits .and .u64 (tb : Int) 3 = ((tb % 4 : Nat) : Int) := and_low tb 2 htB (by omega)
          have q8 : (0 : Int) < (nb : Int) := by omega
          obtain ⟨b8, hb8e⟩ : ∃ b8, tb % 8 = b8 := ⟨_, rfl⟩
          rw [hb8e] at q6 hb8
          have HB := Lib.hid hb8
          clear ib hb8 hb4 hb2 htB hb8e q7
          go_upto_if 55 with fail
          go_cut [8] from 37 to 88 (fun v wx => v = .int .i64 (j * (if s % 2 = 1 ∧ (B % 8 = 3 ∨ B % 8 = 5) then -1 else 1)) ∧ wx = w5)
          case first =>
            have hs1 := HS.out.2.2
            by_cases h1 : s % 2 = 1
            · have r1 : (((s1 : Int) != 0)) = true := bne_iff_ne.2 (by omega)
              have hj1 := HJ.out.jj
              have wn : IntKind.i64.wrap (-j) = -j := by rw [IntKind.wrap_i64]; omega
              have hb8 := HB.out
              by_cases h3 : B % 8 = 3
              · have r3 : ((b8 : Int) == 3) = true := beq_iff_eq.2 (by omega)
                have r2 : j * (if s % 2 = 1 ∧ (B % 8 = 3 ∨ B % 8 = 5) then -1 else 1) = -j := by rw [if_pos ⟨h1, Or.inl h3⟩]; omega
                have R2 := Lib.hid r2
                clear r2 h1 h3 hb8 hj1 hs1
                go_wp2_with fail
                go_meet
                case rel => exact ⟨by rw [R2.out], rfl⟩
              · have r3 : ((b8 : Int) == 3) = false := beq_eq_false_iff_ne.2 (by omega)
                by_cases h5 : B % 8 = 5
                · have r4 : ((b8 : Int) == 5) = true := beq_iff_eq.2 (by omega)
                  have r2 : j * (if s % 2 = 1 ∧ (B % 8 = 3 ∨ B % 8 = 5) then -1 else 1) = -j := by rw [if_pos ⟨h1, Or.inr h5⟩]; omega
                  have R2 := Lib.hid r2
                  clear r2 h1 h3 h5 hb8 hj1 hs1
                  go_wp2_with fail
                  go_meet
                  case rel => exact ⟨by rw [R2.out], rfl⟩
                · have r4 : ((b8 : Int) == 5) = false := beq_eq_false_iff_ne.2 (by omega)
                  have r2 : j * (if s % 2 = 1 ∧ (B % 8 = 3 ∨ B % 8 = 5) then -1 else 1) = j := by rw [if_neg (fun h => h.2.elim h3 h5), Int.mul_one]
                  have R2 := Lib.hid r2
                  clear r2 h1 h3 h5 hb8 hj1 hs1
                  go_wp2_with fail
                  go_meet
                  case rel => exact ⟨by rw [R2.out], rfl⟩
            · have r1 : (((s1 : Int) != 0)) = false := by rw [show (s1 : Int) = 0 by omega]; rfl
              have r2 : j * (if s % 2 = 1 ∧ (B % 8 = 3 ∨ B % 8 = 5) then -1 else 1) = j := by rw [if_neg (fun h => h1 h.1), Int.mul_one]
              have R2 := Lib.hid r2
              clear r2 h1 hs1
              go_wp2_with fail
              go_meet
              case rel => exact ⟨by rw [R2.out], rfl⟩
          case rest =>
            obtain ⟨rfl, hwx⟩ := hcut
            cases hwx.symm
            have hj1 : (if s % 2 = 1 ∧ (B % 8 = 3 ∨ B % 8 = 5) then (-1 : Int) else 1) = 1 ∨ (if s % 2 = 1 ∧ (B % 8 = 3 ∨ B % 8 = 5) then (-1 : Int) else 1) = -1 := by split; exact Or.inr rfl; exact Or.inl rfl
            obtain ⟨j1, hj1e⟩ : ∃ j1, (if s % 2 = 1 ∧ (B % 8 = 3 ∨ B % 8 = 5) then (-1 : Int) else 1) = j1 := ⟨_, rfl⟩
            rw [hj1e] at hj1 ⊢
            have hjj : j * j1 = 1 ∨ j * j1 = -1 := by rcases HJ.out.jj with h | h <;> rcases hj1 with h' | h' <;> rw [h, h'] <;> decide
            obtain ⟨j2, hj2⟩ : ∃ j2, j * j1 = j2 := ⟨_, rfl⟩
            rw [hj2] at hjj ⊢
            have HR := Lib.hid (Rsh_o (g + 1 + 1) g s lc r C a w5 (H5.out.at_ 0 _ _ _ rfl) (H5.out.at_ 2 _ _ _ rfl) (H5.out.rel2 (i := 0) (j := 2) (by decide) rfl rfl).2 (by have := HA.out.2.2.2.2.2.2; omega) HS.out.2.1)
            have hdiv : a / 2 ^ s = 2 * m + 1 := by rw [HS.out.1, Nat.mul_div_cancel_left _ (Nat.two_pow_pos s)]
            rw [hdiv] at HR
            have HJ2 := Lib.hid (And.intro hjj (And.intro hj1e hj2))
            clear hj1 hj1e hjj hj2 hdiv
            go_wp2_with fail
            refine HR.out.mono ?_
            rintro e w6 ⟨rfl, ho⟩
            obtain ⟨l6, h6⟩ := H5.out.out (i := 0) rfl ho
            have H6 : Hid (Ints w w6 [(g + 1 + 1, l6, ((2 * m + 1 : Nat) : Int)), (g + 1, lb, (B : Int)), (g, r, (a : Int))]) := h6
            have ib := H6.out.at_ 1 _ _ _ rfl
            obtain ⟨tb', nb', htB, hb8, hb4, hb2, _, hnb, hnb2, e1, e2⟩ := ib.low0 HA.out.2.2.2.2.1
            obtain ⟨tc, nc, htC, _, hc4, _, _, hnc, hnc2, e3, e4⟩ := (H6.out.at_ 0 _ _ _ rfl).low0 (show 2 * m + 1 ≠ 0 by omega)
            have q7 : bits .and .u64 (tb' : Int) 3 = ((tb' % 4 : Nat) : Int) := and_low tb' 2 htB (by omega)
            have q8 : (0 : Int) < (nb' : Int) := by omega
            have q9 : bits .and .u64 (tc : Int) 3 = ((tc % 4 : Nat) : Int) := and_low tc 2 htC (by omega)
            have q10 : (0 : Int) < (nc : Int) := by omega
            obtain ⟨b4, hb4e⟩ : ∃ b4, tb' % 4 = b4 := ⟨_, rfl⟩
            rw [hb4e] at q7 hb4
            obtain ⟨c4, hc4e⟩ : ∃ c4, tc % 4 = c4 := ⟨_, rfl⟩
            rw [hc4e] at q9 hc4
            have HB := Lib.hid (And.intro hb4 hc4)
            clear ib hb8 hb4 hb2 htB htC hc4 ho h6 HR hb4e hc4e
            obtain ⟨k1, hk1e⟩ : ∃ k1, (if B % 4 = 3 ∧ (2 * m + 1) % 4 = 3 then (-1 : Int) else 1) = k1 := ⟨_, rfl⟩
            have HK1 := Lib.hid hk1e
            clear hk1e
            go_upto_region 24 with fail
            go_cut [84] from 37 to 88 (fun v wx => v = .bool (decide (B % 4 = 3 ∧ (2 * m + 1) % 4 = 3)) ∧ wx = w6)
            case first =>
              have hb4 := HB.out.1
              have hc4 := HB.out.2
              by_cases h3 : B % 4 = 3
              · have r3 : ((b4 : Int) == 3) = true := beq_iff_eq.2 (by omega)
                by_cases h5 : (2 * m + 1) % 4 = 3
                · have r4 : ((c4 : Int) == 3) = true := beq_iff_eq.2 (by omega)
                  have R2 := Lib.hid (decide_eq_true (And.intro h3 h5))
                  clear h3 h5 hb4 hc4
                  go_wp2_with fail
                  go_meet
                  case rel => exact ⟨by rw [R2.out], rfl⟩
                · have r4 : ((c4 : Int) == 3) = false := beq_eq_false_iff_ne.2 (by omega)
                  have R2 := Lib.hid (show decide (B % 4 = 3 ∧ (2 * m + 1) % 4 = 3) = false from decide_eq_false (fun h => h5 h.2))
                  clear h3 h5 hb4 hc4
                  go_wp2_with fail
                  go_meet
                  case rel => exact ⟨by rw [R2.out], rfl⟩
              · have r3 : ((b4 : Int) == 3) = false := beq_eq_false_iff_ne.2 (by omega)
                have R2 := Lib.hid (show decide (B % 4 = 3 ∧ (2 * m + 1) % 4 = 3) = false from decide_eq_false (fun h => h3 h.1))
                clear h3 hb4 hc4
                go_wp2_with fail
                go_meet
                case rel => exact ⟨by rw [R2.out], rfl⟩
            case rest =>
            obtain ⟨rfl, hwx⟩ := hcut
            cases hwx.symm
            obtain ⟨bb, hbb⟩ : ∃ bb, decide (B % 4 = 3 ∧ (2 * m + 1) % 4 = 3) = bb := ⟨_, rfl⟩
            rw [hbb]
            have HBB := Lib.hid hbb
            clear hbb
            go_upto_if 84 with fail
            go_cut [8] from 37 to 88 (fun v wx => v = .int .i64 (j2 * k1) ∧ wx = w6)
            case first =>
              have hj1 := HJ2.out.1
              have wn : IntKind.i64.wrap (-j2) = -j2 := by rw [IntKind.wrap_i64]; omega
              cases bb with
              | true =>
                have r2 : j2 * k1 = -j2 := by rw [← HK1.out, if_pos (of_decide_eq_true HBB.out)]; omega
                have R2 := Lib.hid r2
                clear r2 hj1
                go_wp2_with fail
                go_meet
                case rel => exact ⟨by rw [R2.out], rfl⟩
              | false =>
                have r2 : j2 * k1 = j2 := by rw [← HK1.out, if_neg (of_decide_eq_false HBB.out), Int.mul_one]
                have R2 := Lib.hid r2
                clear r2 hj1
                go_wp2_with fail
                go_meet
                case rel => exact ⟨by rw [R2.out], rfl⟩
            case rest =>
              obtain ⟨rfl, hwx⟩ := hcut
              cases hwx.symm
              have hk1e := HK1.out
              have hk1 : k1 = 1 ∨ k1 = -1 := by rw [← hk1e]; split; exact Or.inr rfl; exact Or.inl rfl
              have hjj : j2 * k1 = 1 ∨ j2 * k1 = -1 := by rcases HJ2.out.1 with h | h <;> rcases hk1 with h' | h' <;> rw [h, h'] <;> decide
              have hval : j2 * k1 * Jac.jz (B : Int) (2 * m + 1) = Jac.jz X Y := by
                have h1 := Jac.jz_round HJ.out.odd HA.out.1 HS.out.1
                rw [HJ2.out.2.1, hk1e] at h1
                rw [← HJ.out.val, h1, ← HJ2.out.2.2]
                simp only [Int.mul_assoc]
              obtain ⟨j3, hj3⟩ : ∃ j3, j2 * k1 = j3 := ⟨_, rfl⟩
              rw [hj3] at hjj hval ⊢
              have HJ3 := Lib.hid (And.intro hjj hval)
              have hlB := HJ.out.sB
              have hlY := HX.out.2.2.2.2.2.2.2.2
              have hma : 2 * m + 1 ≤ a := by rw [HS.out.1]; exact Nat.le_mul_of_pos_left _ (Nat.two_pow_pos s)
              have hlm : (digs (2 * m + 1)).length ≤ (digs B).length := digs_len_mono (by have := HA.out.2.1; omega)
              have HL := Lib.hid (And.intro hma hlm)
              have HSB := Lib.hid (Set_o g (g + 1) r lb (a : Int) (B : Int) w6 (H6.out.at_ 2 _ _ _ rfl) (H6.out.at_ 1 _ _ _ rfl) (by omega) (by rw [Int.natAbs_natCast]; omega))
              clear hk1 hk1e hjj hval hj3 hlB hlY hma hlm q7 q8 q9 q10 e1 e2 e3 e4
              go_wp2_with fail
              refine HSB.out.mono ?_
              rintro e w7 ⟨rfl, ho⟩
              obtain ⟨l7, h7⟩ := H6.out.out (i := 2) rfl ho
              have H7 : Hid (Ints w w7 [(g + 1 + 1, l6, ((2 * m + 1 : Nat) : Int)), (g + 1, lb, (B : Int)), (g, l7, (B : Int))]) := h7
              clear ho h7 HSB
              have HSC := Lib.hid (Set_o (g + 1) (g + 1 + 1) lb l6 (B : Int) ((2 * m + 1 : Nat) : Int) w7 (H7.out.at_ 1 _ _ _ rfl) (H7.out.at_ 0 _ _ _ rfl) (by omega) (by rw [Int.natAbs_natCast]; have := HL.out.2; have := HJ.out.sB; have := HX.out.2.2.2.2.2.2.2.2; omega))
              go_wp2_with fail
              refine HSC.out.mono ?_
              rintro e w8 ⟨rfl, ho⟩
              obtain ⟨l8, h8⟩ := H7.out.out (i := 1) rfl ho
              have H8 : Hid (Ints w w8 [(g + 1 + 1, l6, ((2 * m + 1 : Nat) : Int)), (g + 1, l8, ((2 * m + 1 : Nat) : Int)), (g, l7, (B : Int))]) := h8
              have HM8 := Lib.hid (show (intAt w8 (g + 1)).natAbs = 2 * m + 1 by rw [(H8.out.at_ 1 _ _ _ rfl).val, Int.natAbs_natCast])
              have HJ8 : Hid (JI w w8 X Y g j3 (B : Int) (2 * m + 1) ((2 * m + 1 : Nat) : Int) l7 l8 l6) :=
                ⟨HJ3.out.1, HJ3.out.2, by omega, Nat.le_trans HL.out.2 HJ.out.sB, by rw [Int.natAbs_natCast]; exact Nat.le_trans HJ.out.sB (Nat.le_max_right _ _), H8.out⟩
              clear ho h8 HSC
              go_wp2_with fail
              go_roundw
              case rel => exact ⟨j3, (B : Int), 2 * m + 1, _, l7, l8, l6, rfl, HJ8⟩
              case measure =>
                have e1 := HM8.out
                have e2 := HM.out
                have e3 := HL.out.1
                have e4 := HA.out.2.1
                omega
end Go.Proofs.YtefeijofhocnpaaGreatDoor
namespace Go.Proofs.YtefeijofhocnpaaGreatDoor
open Go.RowKit
set_option maxRecDepth 1000000 in
theorem Jacobi_panic (xb yb : Nat) (y : Loc) (Y : Nat) (w : World) (hy : IntV w yb y (Y : Int)) (he : Y % 2 = 0) :
    Calls Tryz.prog 70 #[.pointer (some ⟨xb, 0, none⟩), .pointer (some ⟨yb, 0, none⟩)] w fun e w' => ∃ u pv, e = .panicked [{ v := .iface u pv, recovered := false }] ∧ w' = w := by
  by_cases h0 : Y = 0
  · have c1 := hy.abs.cell
    rw [Int.natAbs_natCast, (digs_len_eq_zero (n := Y)).2 h0] at c1
    have q1 : (((0 : Nat) : Int) == 0) = true := rfl
    clear hy he h0
    go_enter Tryz.func70, Tryz.ntmps70
    go_wp2
    exact ⟨rfl, _, _, rfl, rfl⟩
  · obtain ⟨t, n, htB, _, _, ht2, _, q3', hyc, c1, c2⟩ := hy.low0 h0
    have q1 : ((n : Int) == 0) = false := beq_eq_false_iff_ne.2 (by omega)
    have q2 : bits .and .u64 (t : Int) 1 = 0 := by
      have := and_low t 1 htB (by omega)
      rw [show ((2 ^ 1 - 1 : Nat) : Int) = 1 from rfl] at this
      rw [this]; omega
    have q3 : (0 : Int) < (n : Int) := by omega
    clear hy he h0 htB ht2 q3'
    go_enter Tryz.func70, Tryz.ntmps70
    go_wp2
    exact ⟨rfl, _, _, rfl, rfl⟩
structure JB (w : World) (xb yb ob : Nat) (sx : Bool) (xA : Option Addr) (n cx : Nat) (sy : Bool) (yA : Option Addr) (m cy : Nat) : Prop where
  x0 : CellT 33 w xb 0 (.bool sx)
  x1 : CellT 33 w xb 1 (.slice xA n cx)
  y0 : CellT 33 w yb 0 (.bool sy)
  y1 : CellT 33 w yb 1 (.slice yA m cy)
  o : CellT 3 w ob 0 (.int .i64 0)
theorem JB.upd {w w' : World} {xb yb ob : Nat} {sx : Bool} {xA : Option Addr} {n cx : Nat} {sy : Bool} {yA : Option Addr} {m cy : Nat} (h : JB w xb yb ob sx xA n cx sy yA m cy) (u : Upd NoF w w') : JB w' xb yb ob sx xA n cx sy yA m cy :=
  ⟨h.x0.upd u (fun h => h), h.x1.upd u (fun h => h), h.y0.upd u (fun h => h), h.y1.upd u (fun h => h), h.o.upd u (fun h => h)⟩
set_option maxRecDepth 1000000 in
set_option maxHeartbeats 1600000 in
theorem jac1_any (T : Int) (xb yb ob : Nat) (sx sy : Bool) (xA yA : Option Addr) (n m cx cy : Nat) (X : Int) (Y : Nat) (w : World) (hB : JB w xb yb ob sx xA n cx sy yA m cy) (hX : NumR w (.agg #[.bool sx, .slice xA n cx]) n X) (hY : NumR w (.agg #[.bool sy, .slice yA m cy]) m (Y : Int)) (ho : Y % 2 = 1) (hn : n ≤ 1000) (hm : m ≤ 1000)
    (hT : DThr w T) (hO : OneI w) (hZ : TzTab w) (hD : ∀ A B : Nat, B ≠ 0 → (digs B).length ≤ (digs Y).length → (digs A).length ≤ max (digs X.natAbs).length (digs Y).length → DivAtT T A B) :
    Calls Tryz.prog 69 #[.pointer (some ⟨xb, 0, none⟩), .pointer (some ⟨yb, 0, none⟩), .pointer (some ⟨ob, 0, none⟩)] w fun e w' => e = .returned (.tuple #[]) ∧ Upd (Blk ob) w w' ∧ CellT 3 w' ob 0 (.int .i64 (Jac.jz X Y)) := by
  have hX1 := hX.len
  have hY1 := hY.len
  rw [Int.natAbs_natCast] at hY1
  have HOX := Lib.hid (fun (w' : World) (u : Upd NoF w w') => of_num _ n X w' (hX.upd u) (by omega))
  have HOY := Lib.hid (fun (w' : World) (u : Upd NoF w w') => of_num _ m (Y : Int) w' (hY.upd u) (by omega))
  have HJ := Lib.hid (fun (ix iy : Nat) (lx ly : Loc) (w' : World) (u : Upd NoF w w') (kx : IntV w' ix lx X) (ky : IntV w' iy ly (Y : Int)) => Jacobi_any T ix iy lx ly X Y w' kx ky ho (hT.upd u (fun _ h => h)) (hO.upd u) (hZ.upd u) hD (by omega) (by omega))
  have HB := Lib.hid hB
  have ob1 : ∀ i, ¬ Blk ob xb i := fun i (h : xb = ob) => (hB.x0.ne hB.o (by decide)) h
  have ob2 : ∀ i, ¬ Blk ob yb i := fun i (h : yb = ob) => (hB.y0.ne hB.o (by decide)) h
  have HS := Lib.hid (fun w' (u : Upd (Blk ob) w w') => (show w'.cell? ⟨xb, 0, none⟩ = some (.bool sx) ∧ w'.cell? ⟨xb, 1, none⟩ = some (.slice xA n cx) ∧ w'.cell? ⟨yb, 0, none⟩ = some (.bool sy) ∧ w'.cell? ⟨yb, 1, none⟩ = some (.slice yA m cy) from
    ⟨(hB.x0.upd u (ob1 _)).cell, (hB.x1.upd u (ob1 _)).cell, (hB.y0.upd u (ob2 _)).cell, (hB.y1.upd u (ob2 _)).cell⟩))
  have HST := Lib.hid (fun (wt : World) (u : Upd NoF w wt) (a : Value) => (show Upd (Blk ob) w (wt.setCell ⟨ob, 0, none⟩ a) from (u.weak (G := Blk ob) (fun _ _ h => h.elim)).setCell (fun _ => rfl) a))
  obtain ⟨J, hJ⟩ : ∃ J, Jac.jz X Y = J := ⟨_, rfl⟩
  rw [hJ] at HJ ⊢
  clear hB hX hY ho hT hO hZ hD hX1 hY1 hn hm ob1 ob2 hJ
  go_enter Tryz.func69, Tryz.ntmps69
  go_wp2_with fail
  go_region_held3 (fun w' => w'.cell? ⟨xb, 0, none⟩ = some (.bool sx) ∧ w'.cell? ⟨xb, 1, none⟩ = some (.slice xA n cx) ∧ w'.cell? ⟨yb, 0, none⟩ = some (.bool sy) ∧ w'.cell? ⟨yb, 1, none⟩ = some (.slice yA m cy))
    (first | exact HS.out _ (HST.out _ (by assumption) _) | exact HS.out _ (Upd.weak (F := NoF) (by (repeat (first | exact Upd.refl _ _ | assumption | refine Upd.alloc ?_ _ | refine Upd.drew ?_ | refine Upd.drewN ?_ _ | refine Upd.trans ?_ (by assumption)))) (fun _ _ h => h.elim)))
    (first
      | ((go_at_call_of 59 (Value.agg #[.bool sx, .slice xA n cx]); refine (HOX.out _ (by (repeat (first | exact Upd.refl _ _ | assumption | refine Upd.alloc ?_ _ | refine Upd.drew ?_ | refine Upd.drewN ?_ _ | refine Upd.trans ?_ (by assumption))))).mono ?_; rintro e wx ⟨ibx, lx, rfl, hbx, hlx, hIx, hUx⟩))
      | ((go_at_call_of 59 (Value.agg #[.bool sy, .slice yA m cy]); refine (HOY.out _ (by (repeat (first | exact Upd.refl _ _ | assumption | refine Upd.alloc ?_ _ | refine Upd.drew ?_ | refine Upd.drewN ?_ _ | refine Upd.trans ?_ (by assumption))))).mono ?_; rintro e wy ⟨iby, ly, rfl, hby, hly, hIy, hUy⟩))
      | ((go_at_call 70; refine (HJ.out _ _ lx ly _ (by (repeat (first | exact Upd.refl _ _ | assumption | refine Upd.alloc ?_ _ | refine Upd.drew ?_ | refine Upd.drewN ?_ _ | refine Upd.trans ?_ (by assumption)))) (IntV.upd0 hIx (by (repeat (first | exact Upd.refl _ _ | assumption | refine Upd.alloc ?_ _ | refine Upd.drew ?_ | refine Upd.drewN ?_ _ | refine Upd.trans ?_ (by assumption))))) (IntV.upd0 hIy (by (repeat (first | exact Upd.refl _ _ | assumption | refine Upd.alloc ?_ _ | refine Upd.drew ?_ | refine Upd.drewN ?_ _ | refine Upd.trans ?_ (by assumption)))))).mono ?_; rintro e wj ⟨rfl, hUj⟩; have hUt : Upd NoF w wj := (by (repeat (first | exact Upd.refl _ _ | assumption | refine Upd.alloc ?_ _ | refine Upd.drew ?_ | refine Upd.drewN ?_ _ | refine Upd.trans ?_ (by assumption)))); have d1 := (HB.out.upd hUt).o.cell; have f1 := (HB.out.upd hUt).o.frozen)))
  all_goals
    have HF := Lib.hid (And.intro (HST.out _ hUt (.int .i64 J)) ((HB.out.upd hUt).o.set (.int .i64 J)))
    clear hUt hUx hUy hIx hIy d1 f1
    go_wp2_with fail
    exact ⟨rfl, _, results_none rfl _ _ _, rfl, HF.out.1, HF.out.2⟩
theorem JB.made (w : World) (sx : Bool) (xA : Option Addr) (n cx : Nat) (sy : Bool) (yA : Option Addr) (m cy : Nat) :
    JB (((w.alloc (.cells #[.bool sx, .slice xA n cx] 33)).alloc (.cells #[.bool sy, .slice yA m cy] 33)).alloc (.cells #[.int .i64 0] 3)) w.heap.size (w.heap.size + 1) (w.heap.size + 1 + 1) sx xA n cx sy yA m cy ∧
    Upd NoF w (((w.alloc (.cells #[.bool sx, .slice xA n cx] 33)).alloc (.cells #[.bool sy, .slice yA m cy] 33)).alloc (.cells #[.int .i64 0] 3)) ∧
    (((w.alloc (.cells #[.bool sx, .slice xA n cx] 33)).alloc (.cells #[.bool sy, .slice yA m cy] 33)).alloc (.cells #[.int .i64 0] 3)).heap.size = w.heap.size + 1 + 1 + 1 := by
  have h1 := heap_alloc_new w (.cells #[.bool sx, .slice xA n cx] 33)
  obtain ⟨w1, hw1⟩ : ∃ w1, w.alloc (.cells #[.bool sx, .slice xA n cx] 33) = w1 := ⟨_, rfl⟩
  have s1 : w1.heap.size = w.heap.size + 1 := by rw [← hw1]; simp
  have u1 : Upd NoF w w1 := by rw [← hw1]; exact (Upd.refl NoF w).alloc _
  have h2 := heap_alloc_new w1 (.cells #[.bool sy, .slice yA m cy] 33)
  rw [hw1] at h1 ⊢
  obtain ⟨w2, hw2⟩ : ∃ w2, w1.alloc (.cells #[.bool sy, .slice yA m cy] 33) = w2 := ⟨_, rfl⟩
  have s2 : w2.heap.size = w.heap.size + 1 + 1 := by rw [← hw2]; simp [s1]
  have u2 : Upd NoF w1 w2 := by rw [← hw2]; exact (Upd.refl NoF w1).alloc _
  have h3 := heap_alloc_new w2 (.cells #[.int .i64 0] 3)
  rw [hw2, s1] at h2
  rw [hw2]
  obtain ⟨w3, hw3⟩ : ∃ w3, w2.alloc (.cells #[.int .i64 0] 3) = w3 := ⟨_, rfl⟩
  have s3 : w3.heap.size = w.heap.size + 1 + 1 + 1 := by rw [← hw3]; simp [s2]
  have u3 : Upd NoF w2 w3 := by rw [← hw3]; exact (Upd.refl NoF w2).alloc _
  rw [hw3, s2] at h3
  rw [hw3]
  exact ⟨⟨CellT.upd ⟨_, h1, by simp⟩ (u2.trans u3) (fun h => h), CellT.upd ⟨_, h1, by simp⟩ (u2.trans u3) (fun h => h), CellT.upd ⟨_, h2, by simp⟩ u3 (fun h => h), CellT.upd ⟨_, h2, by simp⟩ u3 (fun h => h), ⟨_, h3, by simp⟩⟩, (u1.trans u2).trans u3, s3⟩
theorem enters_69 (cap : Array Value) (w : World) : (callFunc 69 cap).run Tryz.prog w = .ok (.enter 69 cap) w := by
  simp [callFunc, go_sem, Tryz.func69]
  rfl
set_option maxRecDepth 1000000 in
theorem implJacobi_any (T : Int) (v1 v2 : Value) (n m : Nat) (X : Int) (Y : Nat) (w : World) (hX : NumR w v1 n X) (hY : NumR w v2 m (Y : Int)) (ho : Y % 2 = 1) (hn : n ≤ 1000) (hm : m ≤ 1000)
    (hT : DThr w T) (hO : OneI w) (hZ : TzTab w) (hD : ∀ A B : Nat, B ≠ 0 → (digs B).length ≤ (digs Y).length → (digs A).length ≤ max (digs X.natAbs).length (digs Y).length → DivAtT T A B) :
    Calls Tryz.prog 38 #[v1, v2] w fun e w' => e = .returned (.tuple #[.int .i64 (Jac.jz X Y), .int .i64 0]) ∧ Upd NoF w w' := by
  have hmf : ∀ (fn : Fn) (first cap : Array Value) (w : World), (Instr.makeFunc fn first cap).run Tryz.prog w = .ok (.func fn first cap) w := fun _ _ _ _ => rfl
  obtain ⟨sx, xA, cx, xs, rfl, hX2⟩ := id hX
  obtain ⟨sy, yA, cy, ys, rfl, hY2⟩ := id hY
  have H := Lib.hid (fun w' xb yb ob (hB : JB w' xb yb ob sx xA n cx sy yA m cy) (u : Upd NoF w w') => jac1_any T xb yb ob sx sy xA yA n m cx cy X Y w' hB (hX.upd u) (hY.upd u) ho hn hm (hT.upd u (fun _ h => h)) (hO.upd u) (hZ.upd u) hD)
  clear hX hY hX2 hY2 ho hT hO hZ hD
  go_enter Tryz.func38, Tryz.ntmps38
  go_wp2_with fail
  obtain ⟨hB, uB, sB⟩ := JB.made w sx xA n cx sy yA m cy
  obtain ⟨g, hg⟩ : ∃ g, w.heap.size = g := ⟨_, rfl⟩
  obtain ⟨w3, hw3⟩ : ∃ w3, ((w.alloc (.cells #[.bool sx, .slice xA n cx] 33)).alloc (.cells #[.bool sy, .slice yA m cy] 33)).alloc (.cells #[.int .i64 0] 3) = w3 := ⟨_, rfl⟩
  rw [hg, hw3] at hB sB
  rw [hw3] at uB
  rw [hg, hw3]
  have uG : Upd NoF w3 (gW w3) := (Upd.refl NoF w3).alloc _
  have HG := Lib.hid (guarded_ret 69 #[.pointer (some ⟨g, 0, none⟩), .pointer (some ⟨g + 1, 0, none⟩), .pointer (some ⟨g + 1 + 1, 0, none⟩)] w3 (Blk (g + 1 + 1)) (fun w' => CellT 3 w' (g + 1 + 1) 0 (.int .i64 (Jac.jz X Y))) (fun h => by have : w3.heap.size = g + 1 + 1 := h; omega) (enters_69 _)
    (H.out _ _ _ _ (hB.upd uG) (uB.trans uG)))
  have HU := Lib.hid (And.intro (uB.trans uG) (And.intro sB hg))
  clear hB uB sB hg hw3 uG H
  refine HG.out.mono ?_
  rintro e w5 ⟨rfl, w4, hQ, hU, hGd, _⟩
  have k5 := hQ.upd hGd (fun h => by have : g + 1 + 1 = w3.heap.size := h; have := HU.out.2.1; omega)
  have c5 := k5.cell
  have hF : Upd NoF w w5 := (HU.out.1.then hU (fun _ _ _ h => h) (fun b i hb h => by have : b = g + 1 + 1 := h; have := HU.out.2.2; omega)).then hGd (fun _ _ _ h => h) (fun b i hb h => by have : b = w3.heap.size := h; have := HU.out.2.1; have := HU.out.2.2; omega)
  have HF := Lib.hid hF
  clear hQ hU hGd k5 hF HG HU
  go_wp2_with fail
  go_ret2
  exact ⟨rfl, HF.out⟩
end Go.Proofs.YtefeijofhocnpaaGreatDoor
namespace Go.Proofs.YtefeijofhocnpaaGreatDoor
open Go.RowKit
set_option maxRecDepth 1000000 in
set_option maxHeartbeats 1600000 in
theorem jac1_panic (xb yb ob : Nat) (sx sy : Bool) (xA yA : Option Addr) (n m cx cy : Nat) (X : Int) (Y : Nat) (w : World) (hB : JB w xb yb ob sx xA n cx sy yA m cy) (hX : NumR w (.agg #[.bool sx, .slice xA n cx]) n X) (hY : NumR w (.agg #[.bool sy, .slice yA m cy]) m (Y : Int)) (ho : Y % 2 = 0) (hn : n ≤ 1000) (hm : m ≤ 1000) :
    Calls Tryz.prog 69 #[.pointer (some ⟨xb, 0, none⟩), .pointer (some ⟨yb, 0, none⟩), .pointer (some ⟨ob, 0, none⟩)] w fun e w' => ∃ u pv, e = .panicked [{ v := .iface u pv, recovered := false }] ∧ Upd (Blk ob) w w' := by
  have HOX := Lib.hid (fun (w' : World) (u : Upd NoF w w') => of_num _ n X w' (hX.upd u) (by omega))
  have HOY := Lib.hid (fun (w' : World) (u : Upd NoF w w') => of_num _ m (Y : Int) w' (hY.upd u) (by omega))
  have HJ := Lib.hid (fun (ix iy : Nat) (ly : Loc) (w' : World) (ky : IntV w' iy ly (Y : Int)) => (show Calls Tryz.prog 70 #[.pointer (some ⟨ix, 0, none⟩), .pointer (some ⟨iy, 0, none⟩)] w' (fun e w2 => (∃ u pv, e = .panicked [{ v := .iface u pv, recovered := false }] ∧ w2 = w') ∨ (e = .returned (.int .i64 0) ∧ Hid (∃ p : Prop, p ∧ ¬p) ∧ Upd NoF w' w2)) from (Jacobi_panic ix iy ly Y w' ky ho).mono (fun e w2 h => Or.inl h)))
  have HB := Lib.hid hB
  have HS := Lib.hid (fun w' (u : Upd NoF w w') => (show w'.cell? ⟨xb, 0, none⟩ = some (.bool sx) ∧ w'.cell? ⟨xb, 1, none⟩ = some (.slice xA n cx) ∧ w'.cell? ⟨yb, 0, none⟩ = some (.bool sy) ∧ w'.cell? ⟨yb, 1, none⟩ = some (.slice yA m cy) from
    ⟨(hB.x0.upd u (fun h => h)).cell, (hB.x1.upd u (fun h => h)).cell, (hB.y0.upd u (fun h => h)).cell, (hB.y1.upd u (fun h => h)).cell⟩))
  have HST := Lib.hid (fun (wt : World) (u : Upd NoF w wt) => (show Upd (Blk ob) w wt from (u.weak (G := Blk ob) (fun _ _ h => h.elim))))
  clear hB hX hY ho hn hm
  go_enter Tryz.func69, Tryz.ntmps69
  go_wp2_with fail
  go_region_held2 (fun w' => w'.cell? ⟨xb, 0, none⟩ = some (.bool sx) ∧ w'.cell? ⟨xb, 1, none⟩ = some (.slice xA n cx) ∧ w'.cell? ⟨yb, 0, none⟩ = some (.bool sy) ∧ w'.cell? ⟨yb, 1, none⟩ = some (.slice yA m cy))
    (first | exact False.elim (hf.out.elim fun _ h => h.2 h.1) | exact HS.out _ (by (repeat (first | exact Upd.refl _ _ | assumption | refine Upd.alloc ?_ _ | refine Upd.drew ?_ | refine Upd.drewN ?_ _ | refine Upd.trans ?_ (by assumption)))))
    (first
      | ((go_at_call_of 59 (Value.agg #[.bool sx, .slice xA n cx]); refine (HOX.out _ (by (repeat (first | exact Upd.refl _ _ | assumption | refine Upd.alloc ?_ _ | refine Upd.drew ?_ | refine Upd.drewN ?_ _ | refine Upd.trans ?_ (by assumption))))).mono ?_; rintro e wx ⟨ibx, lx, rfl, hbx, hlx, hIx, hUx⟩))
      | ((go_at_call_of 59 (Value.agg #[.bool sy, .slice yA m cy]); refine (HOY.out _ (by (repeat (first | exact Upd.refl _ _ | assumption | refine Upd.alloc ?_ _ | refine Upd.drew ?_ | refine Upd.drewN ?_ _ | refine Upd.trans ?_ (by assumption))))).mono ?_; rintro e wy ⟨iby, ly, rfl, hby, hly, hIy, hUy⟩))
      | ((go_at_call 70; refine (HJ.out _ _ ly _ (IntV.upd0 hIy (by (repeat (first | exact Upd.refl _ _ | assumption | refine Upd.alloc ?_ _ | refine Upd.drew ?_ | refine Upd.drewN ?_ _ | refine Upd.trans ?_ (by assumption)))))).mono ?_; rintro e wj (⟨pu, pv, rfl, rfl⟩ | ⟨rfl, hf, um⟩); (exact ⟨rfl, _, _, rfl, HST.out _ (by (repeat (first | exact Upd.refl _ _ | assumption | refine Upd.alloc ?_ _ | refine Upd.drew ?_ | refine Upd.drewN ?_ _ | refine Upd.trans ?_ (by assumption))))⟩); (have hUt : Upd NoF w wj := (by (repeat (first | exact Upd.refl _ _ | assumption | refine Upd.alloc ?_ _ | refine Upd.drew ?_ | refine Upd.drewN ?_ _ | refine Upd.trans ?_ (by assumption)))); have d1 := (HB.out.upd hUt).o.cell; have f1 := (HB.out.upd hUt).o.frozen))))
  all_goals exact False.elim (hf.out.elim fun _ h => h.2 h.1)
set_option maxRecDepth 1000000 in
theorem implJacobi_panic (v1 v2 : Value) (n m : Nat) (X : Int) (Y : Nat) (w : World) (hX : NumR w v1 n X) (hY : NumR w v2 m (Y : Int)) (ho : Y % 2 = 0) (hn : n ≤ 1000) (hm : m ≤ 1000) :
    Calls Tryz.prog 38 #[v1, v2] w fun e w' => e = .returned (.tuple #[.int .i64 0, .int .i64 2]) ∧ Upd NoF w w' := by
  have hmf : ∀ (fn : Fn) (first cap : Array Value) (w : World), (Instr.makeFunc fn first cap).run Tryz.prog w = .ok (.func fn first cap) w := fun _ _ _ _ => rfl
  obtain ⟨sx, xA, cx, xs, rfl, hX2⟩ := id hX
  obtain ⟨sy, yA, cy, ys, rfl, hY2⟩ := id hY
  have H := Lib.hid (fun w' xb yb ob (hB : JB w' xb yb ob sx xA n cx sy yA m cy) (u : Upd NoF w w') => jac1_panic xb yb ob sx sy xA yA n m cx cy X Y w' hB (hX.upd u) (hY.upd u) ho hn hm)
  clear hX hY hX2 hY2 ho
  go_enter Tryz.func38, Tryz.ntmps38
  go_wp2_with fail
  obtain ⟨hB, uB, sB⟩ := JB.made w sx xA n cx sy yA m cy
  obtain ⟨g, hg⟩ : ∃ g, w.heap.size = g := ⟨_, rfl⟩
  obtain ⟨w3, hw3⟩ : ∃ w3, ((w.alloc (.cells #[.bool sx, .slice xA n cx] 33)).alloc (.cells #[.bool sy, .slice yA m cy] 33)).alloc (.cells #[.int .i64 0] 3) = w3 := ⟨_, rfl⟩
  rw [hg, hw3] at hB sB
  rw [hw3] at uB
  rw [hg, hw3]
  have uG : Upd NoF w3 (gW w3) := (Upd.refl NoF w3).alloc _
  have HG := Lib.hid (guarded_panic 69 #[.pointer (some ⟨g, 0, none⟩), .pointer (some ⟨g + 1, 0, none⟩), .pointer (some ⟨g + 1 + 1, 0, none⟩)] w3 (Blk (g + 1 + 1)) (fun h => by have : w3.heap.size = g + 1 + 1 := h; omega) (enters_69 _)
    (H.out _ _ _ _ (hB.upd uG) (uB.trans uG)))
  have HU := Lib.hid (And.intro (uB.trans uG) (And.intro sB (And.intro hg uB)))
  clear hB uB sB hg hw3 uG H
  refine HG.out.mono ?_
  rintro e w5 ⟨rfl, w4, hU, hGd, _⟩
  have hF : Upd NoF w w5 := (HU.out.1.then hU (fun _ _ _ h => h) (fun b i hb h => by have : b = g + 1 + 1 := h; have := HU.out.2.2.1; omega)).then hGd (fun _ _ _ h => h) (fun b i hb h => by have : b = w3.heap.size := h; have := HU.out.2.1; have := HU.out.2.2.1; omega)
  have HF := Lib.hid hF
  clear hU hGd hF HG
  go_wp2_with fail
  go_ret2
  exact ⟨rfl, HF.out⟩
end Go.Proofs.YtefeijofhocnpaaGreatDoor
