/- For the claim of laws.The program's symbol is Jacobi's (FnJacobi).: Times, Num, Sp. -/
import Derived.Test.YtefeijofhocnpaaGreatDoorKlB3
import Derived.Test.YtefeijofhocnpaaGreatDoorKlB2
import Derived.Deep.RegionHeld3
set_option linter.unusedVariables false
set_option linter.unusedSimpArgs false
namespace Go.Proofs.YtefeijofhocnpaaGreatDoor
open Go.RowKit Go.Proofs.YtefeijofhocnpaaGreatDoor.PSpec Go.Proofs.YtefeijofhocnpaaGreatDoorW.PrintWords Go.Proofs.YtefeijofhocnpaaGreatDoorW.PrintLast Go.Proofs.YtefeijofhocnpaaGreatDoorW.PrintMore
theorem C_upd {k : IntKind} {w w' : World} {A : Option Addr} {n : Nat} {xs : List Int} (h : Kd.C (Kd.int k) w A n xs) (u : Upd NoF w w') : Kd.C (Kd.int k) w' A n xs :=
  Kd.C_below h (u.below _ (Nat.le_refl _) (fun _ _ _ h => h))
end Go.Proofs.YtefeijofhocnpaaGreatDoor
namespace Go.Proofs.YtefeijofhocnpaaGreatDoor
open Go.RowKit
def NumI (w : World) (v : Value) (V : Int) : Prop :=
  ∃ (A : Option Addr) (c : Nat), v = .agg #[.bool (decide (V < 0)), .slice A (digs V.natAbs).length c] ∧ (digs V.natAbs).length ≤ c ∧ RdU w A (digs V.natAbs)
theorem NumI.upd {w w' : World} {v : Value} {V : Int} (h : NumI w v V) (u : Upd NoF w w') : NumI w' v V := let ⟨A, c, h1, h2, h4⟩ := h; ⟨A, c, h1, h2, h4.upd u⟩
def NumR (w : World) (v : Value) (n : Nat) (V : Int) : Prop :=
  ∃ (s : Bool) (A : Option Addr) (c : Nat) (xs : List Nat), v = .agg #[.bool s, .slice A n c] ∧ xs.length = n ∧ n ≤ c ∧ n ≤ 9223372036854775807 ∧ Digs B64 xs ∧ RdU w A xs ∧ V = sg s (val B64 xs)
theorem NumR.upd {w w' : World} {v : Value} {n : Nat} {V : Int} (h : NumR w v n V) (u : Upd NoF w w') : NumR w' v n V :=
  let ⟨s, A, c, xs, h1, h2, h3, h4, h5, h6, h7⟩ := h; ⟨s, A, c, xs, h1, h2, h3, h4, h5, h6.upd u, h7⟩
theorem natAbs_sg (s : Bool) (k : Nat) : (sg s k).natAbs = k := by unfold sg; split <;> omega
theorem sg_self (V : Int) : sg (decide (V < 0)) V.natAbs = V := by
  unfold sg
  by_cases h : V < 0
  · rw [decide_eq_true h, if_pos rfl]; omega
  · rw [decide_eq_false h, if_neg (by decide)]; omega
theorem NumR.len {w : World} {v : Value} {n : Nat} {V : Int} (h : NumR w v n V) : (digs V.natAbs).length ≤ n := by
  obtain ⟨s, A, c, xs, h1, h2, h3, h4, h5, h6, h7⟩ := h
  rw [h7, natAbs_sg, ← h2]
  exact digs_len_le h5
theorem NumI.raw {w : World} {v : Value} {V : Int} (h : NumI w v V) (hb : (digs V.natAbs).length ≤ 9223372036854775807) : NumR w v (digs V.natAbs).length V := by
  obtain ⟨A, c, h1, h2, h4⟩ := h
  exact ⟨_, A, c, digs V.natAbs, h1, rfl, h2, hb, digs_digs _, h4, by rw [val_digs, sg_self]⟩
theorem RdU.store {T : TypeId} {w : World} {g : Nat} {v1 v2 x1 x2 : Value} {A : Option Addr} {xs : List Nat} (h : RdU w A xs) (c0 : CellT T w g 0 v1) (c1 : CellT T w g 1 v2) (n1 : ∀ k i, v1 ≠ .int k i) (n2 : ∀ k i, v2 ≠ .int k i) :
    RdU ((w.setCell ⟨g, 0, none⟩ x1).setCell ⟨g, 1, none⟩ x2) A xs := fun h0 => by
  obtain ⟨ad, rfl, hcell⟩ := h h0
  refine ⟨ad, rfl, fun i hi => ?_⟩
  have h1 := hcell i hi
  have h8 : (⟨g, 0, none⟩ : Addr) ≠ ad.add i := fun e => by rw [← e, c0.cell] at h1; exact n1 _ _ (Option.some.inj h1)
  have h9 : (⟨g, 1, none⟩ : Addr) ≠ ad.add i := fun e => by rw [← e, c1.cell] at h1; exact n2 _ _ (Option.some.inj h1)
  rw [World.cell?_setCell_other _ _ _ _ h9, World.cell?_setCell_other _ _ _ _ h8]
  exact h1
theorem of_num (v : Value) (n : Nat) (V : Int) (w : World) (h : NumR w v n V) (hlen : n ≤ 1099511627776) :
    Calls Tryz.prog 59 #[v] w fun e w' => ∃ (ib : Nat) (l : Loc), e = .returned (.pointer (some ⟨ib, 0, none⟩)) ∧ w.heap.size ≤ ib ∧ (0 < l.c → w.heap.size ≤ l.b) ∧ IntV w' ib l V ∧ Upd NoF w w' := by
  obtain ⟨s, A, c, xs, rfl, h2, h3, h4, h5, h6, h7⟩ := h
  rw [h7]
  exact of_any s A n c xs w h2 h3 hlen h5 h6
theorem intBox (w w' : World) (u : Upd NoF (w.alloc (.cells #[.bool false, .slice none 0 0] 80)) w') : IntD w' w.heap.size ⟨none, 0, 0, 0⟩ false 0 := IntD.made u
end Go.Proofs.YtefeijofhocnpaaGreatDoor
namespace Go.Proofs.YtefeijofhocnpaaGreatDoor
open Go.RowKit Go.Proofs.YtefeijofhocnpaaGreatDoor.PSpec Go.Proofs.YtefeijofhocnpaaGreatDoorW.PrintWords Go.Proofs.YtefeijofhocnpaaGreatDoorW.PrintLast Go.Proofs.YtefeijofhocnpaaGreatDoorW.PrintMore
def SpN (w : World) (v : Value) (N : Nat) : Prop := ∃ (A : Option Addr) (c : Nat), v = .slice A (ds N).length c ∧ (ds N).length ≤ c ∧ Kd.C (Kd.int .i64) w A (ds N).length (ints (ds N))
def SpI (w : World) (v : Value) (V : Int) : Prop := ∃ (A : Option Addr) (c : Nat), v = .agg #[.bool (decide (V < 0)), .slice A (ds V.natAbs).length c] ∧ (ds V.natAbs).length ≤ c ∧ Kd.C (Kd.int .i64) w A (ds V.natAbs).length (ints (ds V.natAbs))
theorem SpN.upd {w w' : World} {v : Value} {N : Nat} (h : SpN w v N) (u : Upd NoF w w') : SpN w' v N := let ⟨A, c, h1, h2, h3⟩ := h; ⟨A, c, h1, h2, C_upd h3 u⟩
theorem SpI.upd {w w' : World} {v : Value} {V : Int} (h : SpI w v V) (u : Upd NoF w w') : SpI w' v V := let ⟨A, c, h1, h2, h3⟩ := h; ⟨A, c, h1, h2, C_upd h3 u⟩
theorem SpN.int {w : World} {v : Value} {N : Nat} (h : SpN w v N) : SpI w (.agg #[.bool false, v]) (N : Int) := by
  obtain ⟨A, c, rfl, h2, h3⟩ := h
  refine ⟨A, c, ?_, by rw [Int.natAbs_natCast]; exact h2, by rw [Int.natAbs_natCast]; exact h3⟩
  rw [Int.natAbs_natCast, decide_eq_false (by omega)]
theorem SpN.neg {w : World} {v : Value} {N : Nat} (h : SpN w v N) (h0 : 0 < N) : SpI w (.agg #[.bool true, v]) (-(N : Int)) := by
  obtain ⟨A, c, rfl, h2, h3⟩ := h
  have e : (-(N : Int)).natAbs = N := by omega
  refine ⟨A, c, ?_, by rw [e]; exact h2, by rw [e]; exact h3⟩
  rw [e, decide_eq_true (by omega)]
theorem SpN.ofV {w w' : World} {v : Value} {N t : Nat} {ok : Nat → Prop} (h : Kd.V (Kd.int .i64) t w' w.heap.size ok v (ints (ds N))) : SpN w' v N := by
  obtain ⟨A, c, rfl⟩ := Kd.V_slice h
  have h2 := Kd.V_reads' h
  rw [ints_length] at h2
  exact ⟨A, c, by rw [ints_length], h2.2.1, h2.2.2⟩
theorem SpN.ofR {w w' : World} {v : Value} {N t : Nat} {ok : Nat → Prop} (h : Kd.R (Kd.int .i64) t w' w.heap.size ok v (ints (ds N))) : SpN w' v N := by
  obtain ⟨A, c, rfl⟩ := Kd.R_slice h
  have h2 := Kd.R_reads' h
  rw [ints_length] at h2
  exact ⟨A, c, by rw [ints_length], h2.2.1, h2.2.2⟩
theorem ds_len4 (N : Nat) : (ds N).length ≤ 4 * (digs N).length := by
  refine ds_len_of_lt ?_
  rw [Nat.pow_mul, ← B64_pow]
  exact lt_of_digs_len N
theorem C_of_RdU {w : World} {A : Option Addr} {xs : List Nat} {n : Nat} (h : RdU w A xs) (hn : xs.length = n) (hb : n ≤ 9223372036854775807) : Kd.C (Kd.int .u64) w A n (ints xs) := by
  refine ⟨by rw [ints_length]; exact hn, hb, fun h0 => ?_⟩
  obtain ⟨ad, hA, hc⟩ := h (by omega)
  refine ⟨ad, hA, fun j p hj => ⟨[.int .u64 p], rfl, rfl, fun i u hi => ?_⟩⟩
  have hj2 : j < xs.length := by
    have h1 := (List.getElem?_eq_some_iff.1 hj).1
    rw [ints_length] at h1; exact h1
  have hp : ((xs[j] : Nat) : Int) = p := by
    have h1 := hj
    unfold ints at h1
    rw [List.getElem?_map, List.getElem?_eq_getElem hj2] at h1
    exact Option.some.inj h1
  have h2 := hc j hj2
  rw [hp] at h2
  match i, hi with
  | 0, hi =>
    have hu : Value.int .u64 p = u := Option.some.inj hi
    subst hu
    have e : j * (Kd.int .u64).sz + 0 = j := Nat.mul_one j
    rw [e]; exact h2
  | i + 1, hi => simp at hi
theorem spec_Small_l0 : ∀ (d n : Nat), n < 65536 ^ d → n < 9223372036854775808 → ∀ (k : Nat) (out : List Nat), d < k → out.length + d ≤ 100 →
    spec_Small.l0 k (n : Int) (ints out) = some (ints (out ++ ds n)) := by
  intro d
  induction d with
  | zero =>
    intro n h _ k out hk _
    obtain ⟨k, rfl⟩ : ∃ m, k = m + 1 := ⟨k - 1, by omega⟩
    have : n = 0 := by rw [Nat.pow_zero] at h; omega
    subst this
    simp only [spec_Small.l0]
    rw [if_neg (by omega), ds_zero, List.append_nil]
  | succ d ih =>
    intro n h hn k out hk ho
    obtain ⟨k, rfl⟩ : ∃ m, k = m + 1 := ⟨k - 1, by omega⟩
    simp only [spec_Small.l0]
    by_cases h0 : n = 0
    · subst h0
      rw [if_neg (by omega), ds_zero, List.append_nil]
    · have hl : (ints out).length < 17592186044416 := by rw [ints_length]; omega
      have e1 : Int.tdiv (n : Int) 65536 = ((n / 65536 : Nat) : Int) := rfl
      have e2 : Int.tmod (n : Int) 65536 = ((n % 65536 : Nat) : Int) := rfl
      have e3 : wrap64 ((n / 65536 : Nat) : Int) = ((n / 65536 : Nat) : Int) := by rw [wrap64_in] <;> omega
      have e4 : ints out ++ [((n % 65536 : Nat) : Int)] = ints (out ++ [n % 65536]) := by rw [ints_append]; rfl
      have h1 : n / 65536 < 65536 ^ d := by rw [Nat.div_lt_iff_lt_mul (by omega), ← Nat.pow_succ]; exact h
      rw [if_pos (by omega), if_pos hl, e1, e2, e3, e4, ih (n / 65536) h1 (by omega) k _ (by omega) (by simp; omega), ds_pos h0, List.append_assoc]
      rfl
theorem spec_Small_any (n : Nat) (hn : n < 9223372036854775808) : ∃ k, spec_Small.f k (n : Int) = some (ints (ds n)) :=
  ⟨5, spec_Small_l0 4 n (by have : (65536 : Nat) ^ 4 = 18446744073709551616 := (by decide); omega) hn 5 [] (by omega) (by simp)⟩
theorem small_sp (n : Nat) (w : World) (hn : n < 9223372036854775808) : Calls Tryz.prog 16 #[.int .i64 (n : Int)] w fun e w' => ∃ v, e = .returned v ∧ SpN w' v n ∧ Upd NoF w w' := by
  obtain ⟨k, hk⟩ := spec_Small_any n hn
  exact (spec_Small.calls k _ _ w hk).mono (fun e w' ⟨v, he, hV, hb⟩ => ⟨v, he, SpN.ofR hV, Upd.ofBelow hb⟩)
theorem in_sp (v : Value) (n : Nat) (V : Int) (w : World) (h : NumR w v n V) (hl : n ≤ 1099511627776) :
    Calls Tryz.prog 21 #[v] w fun e w' => ∃ v', e = .returned v' ∧ SpI w' v' V ∧ Upd NoF w w' := by
  obtain ⟨s, A, c, xs, rfl, h2, h3, h4, h5, h6, h7⟩ := h
  obtain ⟨k, hk⟩ := spec_In_any s xs h5 (by omega)
  have h := spec_In.calls k s A c (ints xs) _ _ w (by rw [ints_length, h2]; exact C_of_RdU h6 h2 (by omega)) (by rw [ints_length, h2]; exact h3) hk
  rw [ints_length, h2] at h
  refine h.mono ?_
  rintro e w' ⟨v, rfl, hV, hb⟩
  obtain ⟨A', c', rfl, k1, k2⟩ := SpN.ofV hV
  have e1 : V.natAbs = val B64 xs := by rw [h7, natAbs_sg]
  have e2 : (s && decide (val B64 xs ≠ 0)) = decide (V < 0) := by
    rw [h7]; unfold sg
    cases s
    · exact (decide_eq_false (by simp only [Bool.false_eq_true, if_false]; omega)).symm
    · by_cases h0 : val B64 xs = 0
      · rw [h0]; rfl
      · rw [if_pos rfl, decide_eq_true h0, decide_eq_true (by omega)]; rfl
  refine ⟨_, rfl, ⟨A', c', by rw [e1, e2], by rw [e1]; exact k1, by rw [e1]; exact k2⟩, Upd.ofBelow hb⟩
theorem zz_sp (v : Value) (n : Nat) (V : Int) (w : World) (h : NumR w v n V) : Calls Tryz.prog 27 #[v] w fun e w' => e = .returned (.bool (decide (n ≤ 2147483647))) ∧ Upd NoF w w' := by
  obtain ⟨s, A, c, xs, rfl, h2, h3, h4, h5, h6, h7⟩ := h
  have hk : laws_zzFits1.f s (ints xs) = some (decide (n ≤ 2147483647)) := by
    unfold laws_zzFits1.f
    rw [ints_length, h2]
    by_cases h : n ≤ 2147483647
    · rw [if_neg (by omega), decide_eq_true h]
    · rw [if_pos (by omega), decide_eq_false h]
  have h := laws_zzFits1.calls s A c (ints xs) _ w (by rw [ints_length, h2]; exact C_of_RdU h6 h2 h4) (by rw [ints_length, h2]; exact h3) hk
  rw [ints_length, h2] at h
  exact h.mono (fun e w' ⟨he, hb⟩ => ⟨he, Upd.ofBelow hb⟩)
theorem big_sp (v : Value) (n : Nat) (V : Int) (m : Nat) (w : World) (h : NumR w v n V) : Calls Tryz.prog 28 #[v, .int .i64 (m : Int)] w fun e w' => e = .returned (.bool (decide (m < n))) ∧ Upd NoF w w' := by
  obtain ⟨s, A, c, xs, rfl, h2, h3, h4, h5, h6, h7⟩ := h
  have hk : laws_big.f s (ints xs) (m : Int) = some (decide (m < n)) := by
    unfold laws_big.f
    rw [ints_length, h2]
    congr 1
    by_cases h : m < n
    · rw [decide_eq_true h]; exact decide_eq_true (by omega)
    · rw [decide_eq_false h]; exact decide_eq_false (by omega)
  have h := laws_big.calls s A c (ints xs) (m : Int) _ w (by rw [ints_length, h2]; exact C_of_RdU h6 h2 h4) (by rw [ints_length, h2]; exact h3) hk
  rw [ints_length, h2] at h
  exact h.mono (fun e w' ⟨he, hb⟩ => ⟨he, Upd.ofBelow hb⟩)
end Go.Proofs.YtefeijofhocnpaaGreatDoor
