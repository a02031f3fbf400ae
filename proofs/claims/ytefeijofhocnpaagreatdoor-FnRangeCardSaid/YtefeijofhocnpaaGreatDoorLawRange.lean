/- For the claim of laws.FnRange: LawRange. -/
import Derived.Test.YtefeijofhocnpaaGreatDoorB5
import Derived.Test.YtefeijofhocnpaaGreatDoorC1
set_option linter.unusedVariables false
set_option linter.unusedSimpArgs false
/- laws.FnRange. -/
namespace Go.Proofs.YtefeijofhocnpaaGreatDoor
open Go.RowKit Go.Proofs.YtefeijofhocnpaaGreatDoor.PSpec Go.Proofs.YtefeijofhocnpaaGreatDoorW.PrintWords Go.Proofs.YtefeijofhocnpaaGreatDoorW.PrintLast Go.Proofs.YtefeijofhocnpaaGreatDoorW.PrintMore

/-- a box at g holds the value P of the reference -/
def BoxI (wr : World) (g : Nat) (P : Int) : Prop :=
  ∃ (A : Option Addr) (c : Nat), CellT 27 wr g 0 (.bool (decide (P < 0))) ∧ CellT 27 wr g 1 (.slice A (ds P.natAbs).length c) ∧ (ds P.natAbs).length ≤ c ∧ Kd.C (Kd.int .i64) wr A (ds P.natAbs).length (ints (ds P.natAbs))
theorem BoxI.upd {w w' : World} {g : Nat} {P : Int} (h : BoxI w g P) (u : Upd NoF w w') : BoxI w' g P := let ⟨A, c, h1, h2, h3, h4⟩ := h; ⟨A, c, h1.upd u (fun h => h), h2.upd u (fun h => h), h3, C_upd h4 u⟩
theorem BoxI.spi {w : World} {g : Nat} {P : Int} (h : BoxI w g P) : ∃ x y, w.cell? ⟨g, 0, none⟩ = some x ∧ w.cell? ⟨g, 1, none⟩ = some y ∧ w.frozen? ⟨g, 0, none⟩ = false ∧ w.frozen? ⟨g, 1, none⟩ = false ∧ SpI w (.agg #[x, y]) P :=
  let ⟨A, c, h1, h2, h3, h4⟩ := h; ⟨_, _, h1.cell, h2.cell, h1.frozen, h2.frozen, A, c, rfl, h3, h4⟩
theorem SpI.form {w : World} {v : Value} {V : Int} (h : SpI w v V) : ∃ x y, v = .agg #[x, y] ∧ (∃ s, x = .bool s) ∧ ∃ A n c, y = .slice A n c := let ⟨A, c, h1, _⟩ := h; ⟨_, _, h1, ⟨_, rfl⟩, A, _, c, rfl⟩
theorem BoxI.new {w : World} {P : Int} {x y : Value} (k : SpI w (.agg #[x, y]) P) : BoxI (w.alloc (.cells #[x, y] 27)) w.heap.size P := by
  have hh := heap_alloc_new w (.cells #[x, y] 27)
  obtain ⟨A', c', e, k2, k3⟩ := k
  cases e
  exact ⟨A', c', ⟨_, hh, by simp⟩, ⟨_, hh, by simp⟩, k2, C_upd k3 ((Upd.refl NoF w).alloc _)⟩
theorem BoxI.c0 {w w' : World} {g : Nat} {P : Int} {x : Value} (h : BoxI w g P) (k : w.cell? ⟨g, 0, none⟩ = some x) (u : Upd NoF w w') : CellT 27 w' g 0 x := by
  obtain ⟨A, c, h1, h2, h3, h4⟩ := h
  have e := h1.cell
  rw [k] at e
  cases e
  exact h1.upd u (fun h => h)
theorem BoxI.c1 {w w' : World} {g : Nat} {P : Int} {y : Value} (h : BoxI w g P) (k : w.cell? ⟨g, 1, none⟩ = some y) (u : Upd NoF w w') : CellT 27 w' g 1 y := by
  obtain ⟨A, c, h1, h2, h3, h4⟩ := h
  have e := h2.cell
  rw [k] at e
  cases e
  exact h2.upd u (fun h => h)
/-- another value stored there -/
theorem BoxI.store {w : World} {g : Nat} {P Q : Int} {x y : Value} (h : BoxI w g P) (k : SpI w (.agg #[x, y]) Q) : BoxI ((w.setCell ⟨g, 0, none⟩ x).setCell ⟨g, 1, none⟩ y) g Q := by
  obtain ⟨A, c, h1, h2, h3, h4⟩ := h
  obtain ⟨A', c', e, k2, k3⟩ := k
  cases e
  exact ⟨A', c', (h1.set _).far (b' := g) (i' := 1) _ (by omega), (h2.far (b' := g) (i' := 0) _ (by omega)).set _, k2,
    C_set (C_set k3 h1.cell (fun _ h => by cases h) _) ((h2.far (b' := g) (i' := 0) _ (by omega)).cell) (fun _ h => by cases h) _⟩

/-- spec.Of of a new slice of one word -/
theorem of_one (x : Nat) (w : World) (hx : x < B64) :
    Calls Tryz.prog 17 #[.slice (some ⟨w.heap.size, 0, none⟩) 1 1] (w.alloc (.cells #[.int .u64 (x : Int)] 22)) fun e w' => ∃ v, e = .returned v ∧ SpN w' v x ∧ Upd NoF w w' := by
  have hh := heap_alloc_new w (.cells #[.int .u64 (x : Int)] 22)
  refine (of_sp (some ⟨w.heap.size, 0, none⟩) 1 1 [x] _ rfl (Nat.le_refl _) (by omega) (Digs.cons hx Digs.nil) (fun _ => ⟨_, rfl, fun i hi => ?_⟩)).mono (fun e w' ⟨v, he, h1, h2⟩ => ⟨v, he, by rw [val_cons, val_nil, Nat.mul_zero, Nat.add_zero] at h1; exact h1, ((Upd.refl NoF w).alloc _).trans h2⟩)
  have : i = 0 := by simpa using hi
  subst this
  rw [addr_add]
  exact (CellT.new (T := 22) (i := 0) (by simp) hh).cell

set_option maxRecDepth 1000000 in
set_option maxHeartbeats 3200000 in
theorem FnRange_any (T : Int) (a b : Int) (w : World) (hT : Thr w T) (ha : -9223372036854775808 ≤ a) (ha2 : a < 9223372036854775808) (hb0 : -9223372036854775808 ≤ b) (hb : b < 9223372036854775808) :
    Calls Tryz.prog 3 #[.int .i64 a, .int .i64 b] w fun e w' => e = .returned (.bool true) ∧ Upd NoF w w' := by
  obtain ⟨ca, hca⟩ : ∃ c, IntKind.u64.wrap a = c := ⟨_, rfl⟩
  obtain ⟨cb, hcb⟩ : ∃ c, IntKind.u64.wrap b = c := ⟨_, rfl⟩
  obtain ⟨k, hk⟩ : ∃ k, IntKind.u64.wrap (cb - ca) = k := ⟨_, rfl⟩
  have e0 : a ≤ b → k = b - a := fun h => by rw [← hk, ← hca, ← hcb, IntKind.wrap_u64, IntKind.wrap_u64, IntKind.wrap_u64]; omega
  by_cases hbig : a ≤ b ∧ 300 ≤ b - a
  · have q1 : decide (a ≤ b) = true := decide_eq_true hbig.1
    have q2 : 300 ≤ k := by have := e0 hbig.1; omega
    have q3 : decide (300 ≤ k) = true := decide_eq_true q2
    clear e0 hbig
    go_enter Tryz.func3, Tryz.ntmps3
    go_wp2_with fail
    go_ret
    exact ⟨rfl, Upd.refl _ _⟩
  obtain ⟨n, hn⟩ : ∃ n, n = (b - a + 1).toNat := ⟨_, rfl⟩
  have hn2 : n ≤ 300 := by omega
  have hlen : (digs (irng a n).natAbs).length ≤ 1048576 := by
    by_cases h : a ≤ b
    · have := irng_digs a n ha (by omega); omega
    · have : n = 0 := by omega
      subst this
      have := irng_digs a 0 ha (by omega); omega
  have HR := Lib.hid (fun (w' : World) (u : Upd NoF w w') => implRange_any T a b n w' (hT.upd u (fun _ h => h)) ha ha2 hb0 hb hn (by omega))
  have HI := Lib.hid (fun (v1 v2 : Value) (w' : World) (h1 : NumI w' v1 (irng a n)) (h2 : SpI w' v2 (irng a n)) => is_sp v1 v2 (irng a n) w' h1 h2 hlen)
  by_cases hab : a ≤ b
  · have q1 : decide (a ≤ b) = true := decide_eq_true hab
    have hn3 : n = (b - a).toNat + 1 := by omega
    have q2 : decide (300 ≤ k) = false := decide_eq_false (by have := e0 hab; omega)
    have q3 : ¬ 300 ≤ k := by simpa using q2
    have HS := Lib.hid (small_sp 1 w (by omega))
    have HN := Lib.hid (And.intro hn3 (And.intro hab (And.intro ha (And.intro hb (And.intro hn2 hlen)))))
    clear hn hn2 hlen e0 hbig ha ha2 hb0 hb hn3
    go_enter Tryz.func3, Tryz.ntmps3
    go_wp2_with fail
    refine HS.out.mono ?_
    rintro e w1 ⟨v, rfl, hv, u1⟩
    have hv2 := Lib.hid hv.int
    obtain ⟨A, c, rfl, _, _⟩ := hv
    go_wp2_with fail
    obtain ⟨g, hg⟩ : ∃ g, w1.heap.size = g := ⟨_, rfl⟩
    rw [hg]
    go_loopw [6] (fun iv wr => ∃ (m : Nat) (i : Int), iv = .int .i64 i ∧ Hid (i = a + m ∧ m < n ∧ Upd NoF w wr ∧ w.heap.size ≤ g ∧ BoxI wr g (irng a m))) (fun iv _ => (b - intOf iv).toNat)
    case atStart => exact ⟨0, a, rfl, by omega, by have := HN.out.1; omega, u1.alloc _, by have := u1.size; omega, by rw [← hg]; exact BoxI.new hv2.out⟩
    case round =>
      obtain ⟨m, i, rfl, HB⟩ := hrel
      have hi := HB.out.1
      have him : i ≤ b := by have := HN.out.1; have := HB.out.2.1; omega
      have hia : -9223372036854775808 ≤ i := by have := HN.out.2.2.1; omega
      have hib : i < 9223372036854775808 := by have := HN.out.2.2.2.1; omega
      obtain ⟨ui, hui⟩ : ∃ ui : Nat, IntKind.u64.wrap i = (ui : Int) := ⟨(IntKind.u64.wrap i).toNat, by rw [IntKind.wrap_u64]; omega⟩
      have huB : ui < B64 := by rw [IntKind.wrap_u64] at hui; rw [B64_eq]; omega
      have r1 : decide (i ≤ b) = true := decide_eq_true him
      by_cases hneg : i < 0
      · have r2 : decide (i < 0) = true := decide_eq_true hneg
        have HO := Lib.hid (of_one ui wr huB)
        obtain ⟨un, hun⟩ : ∃ un : Nat, un = i.natAbs := ⟨_, rfl⟩
        have r6 : IntKind.u64.wrap (-(ui : Int)) = (un : Int) := by rw [IntKind.wrap_u64] at hui ⊢; omega
        have HO2 := Lib.hid (fun w' => of_one un w' (by rw [B64_eq]; omega))
        have HU := Lib.hid (And.intro hun hneg)
        clear hi him hia hib huB hneg hun
        go_wp2_with fail
        refine HO.out.mono ?_
        rintro e w2 ⟨v, rfl, hv, u2⟩
        obtain ⟨A2, c2, rfl, _, _⟩ := hv
        have hB3 : BoxI (w2.alloc (.cells #[.bool true, .slice A2 (ds ui).length c2] 27)) g (irng a m) := (HB.out.2.2.2.2.upd u2).upd ((Upd.refl NoF w2).alloc _)
        have hh3 := heap_alloc_new w2 (.cells #[.bool true, .slice A2 (ds ui).length c2] 27)
        obtain ⟨h, hh⟩ : ∃ h, w2.heap.size = h := ⟨_, rfl⟩
        have hgh : w.heap.size ≤ h := by rw [← hh]; have := u2.size; have := HB.out.2.2.1.size; omega
        have hne : h ≠ g := by rw [← hh]; have := u2.size; obtain ⟨_, _, k, _⟩ := HB.out.2.2.2.2; have := k.lt; omega
        have hu3 : Upd NoF w (w2.alloc (.cells #[.bool true, .slice A2 (ds ui).length c2] 27)) := (HB.out.2.2.1.trans u2).alloc _
        rw [hh] at hh3
        clear u2
        go_wp2_with fail
        obtain ⟨w3, hw3⟩ : ∃ w3, w2.alloc (.cells #[.bool true, .slice A2 (ds ui).length c2] 27) = w3 := ⟨_, rfl⟩
        have hs3 : w3.heap.size = h + 1 := by rw [← hw3, World.size_alloc, hh]
        rw [hw3] at hB3 hh3 hu3 ⊢
        have ho := HO2.out w3
        rw [hs3] at ho
        have HT := Lib.hid (And.intro hB3 (And.intro hh3 (And.intro hu3 (And.intro hgh (And.intro hne ho)))))
        clear hw3 hh hB3 hh3 hu3 hgh hne hs3 ho HO2
        refine HT.out.2.2.2.2.2.mono ?_
        rintro e w4 ⟨v, rfl, hv, u4⟩
        have hv2 := Lib.hid (show SpI w4 (.agg #[.bool true, v]) i by have := hv.neg (by have := HU.out.1; have := HU.out.2; omega); rwa [show (-(un : Int)) = i by have := HU.out.1; have := HU.out.2; omega] at this)
        obtain ⟨A4, c4, rfl, _, _⟩ := hv
        have n0 : CellT 27 w4 h 0 (.bool true) := CellT.upd ⟨_, HT.out.2.1, by simp⟩ u4 (fun h => h)
        have n1 : CellT 27 w4 h 1 (.slice A2 (ds ui).length c2) := CellT.upd ⟨_, HT.out.2.1, by simp⟩ u4 (fun h => h)
        have hB4 : BoxI w4 g (irng a m) := HT.out.1.upd u4
        have hu4 : Upd NoF w (w4.setCell ⟨h, 1, none⟩ (.slice A4 (ds un).length c4)) := (HT.out.2.2.1.trans u4).setCell (fun hh => by have := HT.out.2.2.2.1; omega) _
        have hB5 : BoxI (w4.setCell ⟨h, 1, none⟩ (.slice A4 (ds un).length c4)) g (irng a m) := by
          obtain ⟨A, c, h1, h2, h3, h4⟩ := hB4
          exact ⟨A, c, h1.far (b' := h) (i' := 1) _ (Or.inl HT.out.2.2.2.2.1), h2.far (b' := h) (i' := 1) _ (Or.inl HT.out.2.2.2.2.1), h3, C_set h4 n1.cell (fun _ h => by cases h) _⟩
        have hV5 : SpI (w4.setCell ⟨h, 1, none⟩ (.slice A4 (ds un).length c4)) (.agg #[.bool true, .slice A4 (ds un).length c4]) i := by
          obtain ⟨A, c, e, h3, h4⟩ := hv2.out
          exact ⟨A, c, e, h3, C_set h4 n1.cell (fun _ h => by cases h) _⟩
        obtain ⟨x, y, _, _, _, _, hS⟩ := hB5.spi
        have k0 := (hB5.c0 (by assumption) (Upd.refl NoF _)).cell
        have k1 := (hB5.c1 (by assumption) (Upd.refl NoF _)).cell
        have k2 := (n0.far (b' := h) (i' := 1) (.slice A4 (ds un).length c4) (by omega)).cell
        have k3 := (n1.set (.slice A4 (ds un).length c4)).cell
        have k4 := n1.cell
        have k5 := n1.frozen
        have H5 := Lib.hid (And.intro hB5 (And.intro hS (And.intro hV5 hu4)))
        clear hB4 hB5 hS hV5 hu4 u4 n0 n1
        go_wp2_with fail
        clear HT
        obtain ⟨w5, hw5⟩ : ∃ w5, w4.setCell ⟨h, 1, none⟩ (.slice A4 (ds un).length c4) = w5 := ⟨_, rfl⟩
        rw [hw5] at H5 ⊢
        obtain ⟨w3, rfl⟩ : ∃ w3 : World, w3 = w5 := ⟨_, rfl⟩
        have H3 : Hid (BoxI w3 g (irng a m) ∧ SpI w3 (.agg #[x, y]) (irng a m) ∧ SpI w3 (.agg #[.bool true, .slice A4 (ds un).length c4]) i ∧ Upd NoF w w3) := H5
        clear hw5 H5 k0 k1 k2 k3 k4 k5
        have hlen3 : (ds (irng a m).natAbs).length + (ds i.natAbs).length ≤ 35184372088832 := by
          have a1 := irng_digs a m HN.out.2.2.1 (by have := HN.out.1; have := HB.out.2.1; have := HN.out.2.1; have := HN.out.2.2.2.1; omega)
          have a2 := ds_len4 (irng a m).natAbs
          have a3 := ds_len4 i.natAbs
          have a4 : (digs i.natAbs).length ≤ 1 := digs_len_of_lt (by rw [Nat.pow_one, B64_eq]; have := HB.out.1; have := HN.out.1; have := HB.out.2.1; have := HN.out.2.2.1; have := HN.out.2.2.2.1; omega)
          have a5 := HB.out.2.1
          have a6 := HN.out.2.2.2.2.1
          omega
        refine (times_sp (.agg #[x, y]) (.agg #[.bool true, .slice A4 (ds un).length c4]) (irng a m) i w3 H3.out.2.1 H3.out.2.2.1 hlen3).mono ?_
        clear hlen3
        rintro e w5 ⟨v5, rfl, hv5, u5⟩
        have hb5 : BoxI w5 g (irng a m) := H3.out.1.upd u5
        obtain ⟨_, _, _, _, f0, f1, _⟩ := hb5.spi
        have k0 := (hb5.c0 (by assumption) (Upd.refl NoF w5)).cell
        have k1 := (hb5.c1 (by assumption) (Upd.refl NoF w5)).cell
        have hP : irng a m * i = irng a (m + 1) := by rw [HB.out.1]; rfl
        rw [hP] at hv5
        obtain ⟨x5, y5, rfl, hx5, hy5⟩ := hv5.form
        obtain ⟨s5, rfl⟩ := hx5
        obtain ⟨A5, q5, c5, rfl⟩ := hy5
        have h6 := BoxI.store hb5 hv5
        have u6 : Upd NoF w ((w5.setCell ⟨g, 0, none⟩ (.bool s5)).setCell ⟨g, 1, none⟩ (.slice A5 q5 c5)) := ((H3.out.2.2.2.trans u5).setCell (fun h => by have := HB.out.2.2.2.1; omega) _).setCell (fun h => by have := HB.out.2.2.2.1; omega) _
        have H6 := Lib.hid (And.intro h6 u6)
        have hbi := And.intro HB.out.1 (And.intro HB.out.2.1 (And.intro HN.out.1 (And.intro HN.out.2.2.1 HN.out.2.2.2.1)))
        clear h6 u6 hP hv5 hb5 u5
        by_cases hend : i = b
        · have r4 : (i == b) = true := beq_iff_eq.2 hend
          have hm : m + 1 = n := by omega
          have HB := Lib.hid (And.intro H6.out.2 (show BoxI _ g (irng a n) from hm ▸ H6.out.1))
          clear hbi hend hm
          go_wp2_with fail
          obtain ⟨wr, hwr⟩ : ∃ wr, (w5.setCell ⟨g, 0, none⟩ (.bool s5)).setCell ⟨g, 1, none⟩ (.slice A5 q5 c5) = wr := ⟨_, rfl⟩
          rw [hwr] at HB ⊢
          clear hwr H6 H3
          obtain ⟨x, y, k0, k1, f0, f1, hS⟩ := HB.out.2.spi
          have HK := Lib.hid (fun (w' : World) (u : Upd NoF wr w') => (show w'.cell? ⟨g, 0, none⟩ = some x ∧ w'.cell? ⟨g, 1, none⟩ = some y from ⟨(show CellT _ w' g 0 x from HB.out.2.c0 k0 u).cell, (show CellT _ w' g 1 y from HB.out.2.c1 k1 u).cell⟩))
          have HSP := Lib.hid hS
          clear k0 k1 f0 f1 hS
          go_region_held3 (fun w' => w'.cell? ⟨g, 0, none⟩ = some x ∧ w'.cell? ⟨g, 1, none⟩ = some y) (exact HK.out _ (by (repeat (first | exact Upd.refl _ _ | assumption | refine Upd.alloc ?_ _ | refine Upd.drew ?_ | refine Upd.drewN ?_ _ | refine Upd.trans ?_ (by assumption)))))
            (first
              | ((go_at_call 20; refine (HR.out _ (HB.out.1.trans (by (repeat (first | exact Upd.refl _ _ | assumption | refine Upd.alloc ?_ _ | refine Upd.drew ?_ | refine Upd.drewN ?_ _ | refine Upd.trans ?_ (by assumption)))))).mono ?_; rintro e wn ⟨vn, rfl, hN, uN⟩))
              | ((go_at_call 19; refine (HI.out vn (.agg #[x, y]) _ (NumI.upd hN (by (repeat (first | exact Upd.refl _ _ | assumption | refine Upd.alloc ?_ _ | refine Upd.drew ?_ | refine Upd.drewN ?_ _ | refine Upd.trans ?_ (by assumption))))) (SpI.upd HSP.out (by (repeat (first | exact Upd.refl _ _ | assumption | refine Upd.alloc ?_ _ | refine Upd.drew ?_ | refine Upd.drewN ?_ _ | refine Upd.trans ?_ (by assumption)))))).mono ?_; rintro e we ⟨rfl, uE⟩)))
          all_goals
            go_wp2_with fail
            go_ret
            exact ⟨rfl, HB.out.1.trans (by (repeat (first | exact Upd.refl _ _ | assumption | refine Upd.alloc ?_ _ | refine Upd.drew ?_ | refine Upd.drewN ?_ _ | refine Upd.trans ?_ (by assumption))))⟩
        · have r4 : (i == b) = false := beq_eq_false_iff_ne.2 hend
          have r5 : IntKind.i64.wrap (i + 1) = i + 1 := by rw [IntKind.wrap_i64]; omega
          have hm : m + 1 < n := by omega
          have hi2 : i + 1 = a + ((m + 1 : Nat) : Int) := by omega
          have HE := Lib.hid (And.intro hi2 (And.intro hm (And.intro H6.out.2 (And.intro HB.out.2.2.2.1 H6.out.1))))
          have him : i < b := by omega
          clear hi2 hm hbi
          go_wp2_with fail
          go_roundw
          case rel => exact ⟨m + 1, i + 1, rfl, HE.out⟩
          case measure => simp [intOf]; omega
      · have r2 : decide (i < 0) = false := decide_eq_false hneg
        have HO := Lib.hid (of_one ui wr huB)
        have hu : ui = i.natAbs := by rw [IntKind.wrap_u64] at hui; omega
        have HU := Lib.hid (And.intro hu hneg)
        clear hi him hia hib huB hneg hu
        go_wp2_with fail
        refine HO.out.mono ?_
        rintro e w2 ⟨v, rfl, hv, u2⟩
        have hv2 := Lib.hid (show SpI w2 (.agg #[.bool false, v]) i by have := hv.int; rw [HU.out.1] at this; rwa [show ((i.natAbs : Nat) : Int) = i by have := HU.out.2; omega] at this)
        obtain ⟨A2, c2, rfl, _, _⟩ := hv
        have hB2 : BoxI w2 g (irng a m) := HB.out.2.2.2.2.upd u2
        obtain ⟨x, y, _, _, _, _, hS⟩ := hB2.spi
        have hN2 := BoxI.new hv2.out
        have hB3 := hB2.upd ((Upd.refl NoF w2).alloc (.cells #[.bool false, .slice A2 (ds ui).length c2] 27))
        have k0 := (hB2.c0 (by assumption) ((Upd.refl NoF w2).alloc (.cells #[.bool false, .slice A2 (ds ui).length c2] 27))).cell
        have k1 := (hB2.c1 (by assumption) ((Upd.refl NoF w2).alloc (.cells #[.bool false, .slice A2 (ds ui).length c2] 27))).cell
        have HT := Lib.hid (And.intro hB3 (And.intro hN2 (And.intro hS u2)))
        clear hB2 hB3 hS hN2
        go_wp2_with fail
        obtain ⟨w3, hw3⟩ : ∃ w3, w2.alloc (.cells #[.bool false, .slice A2 (ds ui).length c2] 27) = w3 := ⟨_, rfl⟩
        rw [hw3] at k0 k1 ⊢
        have h3 : BoxI w3 g (irng a m) ∧ SpI w3 (.agg #[x, y]) (irng a m) ∧ SpI w3 (.agg #[.bool false, .slice A2 (ds ui).length c2]) i ∧ Upd NoF w w3 := by
          have u : Upd NoF w2 w3 := by rw [← hw3]; exact (Upd.refl NoF w2).alloc _
          exact ⟨by rw [← hw3]; exact HT.out.1, HT.out.2.2.1.upd u, hv2.out.upd u, (HB.out.2.2.1.trans HT.out.2.2.2).trans u⟩
        have H3 := Lib.hid h3
        clear hw3 h3 u2 HT k0 k1
        have hlen3 : (ds (irng a m).natAbs).length + (ds i.natAbs).length ≤ 35184372088832 := by
          have a1 := irng_digs a m HN.out.2.2.1 (by have := HN.out.1; have := HB.out.2.1; have := HN.out.2.1; have := HN.out.2.2.2.1; omega)
          have a2 := ds_len4 (irng a m).natAbs
          have a3 := ds_len4 i.natAbs
          have a4 : (digs i.natAbs).length ≤ 1 := digs_len_of_lt (by rw [Nat.pow_one, B64_eq]; have := HB.out.1; have := HN.out.1; have := HB.out.2.1; have := HN.out.2.2.1; have := HN.out.2.2.2.1; omega)
          have a5 := HB.out.2.1
          have a6 := HN.out.2.2.2.2.1
          omega
        refine (times_sp (.agg #[x, y]) (.agg #[.bool false, .slice A2 (ds ui).length c2]) (irng a m) i w3 H3.out.2.1 H3.out.2.2.1 hlen3).mono ?_
        clear hlen3
        rintro e w5 ⟨v5, rfl, hv5, u5⟩
        have hb5 : BoxI w5 g (irng a m) := H3.out.1.upd u5
        obtain ⟨_, _, _, _, f0, f1, _⟩ := hb5.spi
        have k0 := (hb5.c0 (by assumption) (Upd.refl NoF w5)).cell
        have k1 := (hb5.c1 (by assumption) (Upd.refl NoF w5)).cell
        have hP : irng a m * i = irng a (m + 1) := by rw [HB.out.1]; rfl
        rw [hP] at hv5
        obtain ⟨x5, y5, rfl, hx5, hy5⟩ := hv5.form
        obtain ⟨s5, rfl⟩ := hx5
        obtain ⟨A5, q5, c5, rfl⟩ := hy5
        have h6 := BoxI.store hb5 hv5
        have u6 : Upd NoF w ((w5.setCell ⟨g, 0, none⟩ (.bool s5)).setCell ⟨g, 1, none⟩ (.slice A5 q5 c5)) := ((H3.out.2.2.2.trans u5).setCell (fun h => by have := HB.out.2.2.2.1; omega) _).setCell (fun h => by have := HB.out.2.2.2.1; omega) _
        have H6 := Lib.hid (And.intro h6 u6)
        have hbi := And.intro HB.out.1 (And.intro HB.out.2.1 (And.intro HN.out.1 (And.intro HN.out.2.2.1 HN.out.2.2.2.1)))
        clear h6 u6 hP hv5 hb5 u5
        by_cases hend : i = b
        · have r4 : (i == b) = true := beq_iff_eq.2 hend
          have hm : m + 1 = n := by omega
          have HB := Lib.hid (And.intro H6.out.2 (show BoxI _ g (irng a n) from hm ▸ H6.out.1))
          clear hbi hend hm
          go_wp2_with fail
          obtain ⟨wr, hwr⟩ : ∃ wr, (w5.setCell ⟨g, 0, none⟩ (.bool s5)).setCell ⟨g, 1, none⟩ (.slice A5 q5 c5) = wr := ⟨_, rfl⟩
          rw [hwr] at HB ⊢
          clear hwr H6 H3
          obtain ⟨x, y, k0, k1, f0, f1, hS⟩ := HB.out.2.spi
          have HK := Lib.hid (fun (w' : World) (u : Upd NoF wr w') => (show w'.cell? ⟨g, 0, none⟩ = some x ∧ w'.cell? ⟨g, 1, none⟩ = some y from ⟨(show CellT _ w' g 0 x from HB.out.2.c0 k0 u).cell, (show CellT _ w' g 1 y from HB.out.2.c1 k1 u).cell⟩))
          have HSP := Lib.hid hS
          clear k0 k1 f0 f1 hS
          go_region_held3 (fun w' => w'.cell? ⟨g, 0, none⟩ = some x ∧ w'.cell? ⟨g, 1, none⟩ = some y) (exact HK.out _ (by (repeat (first | exact Upd.refl _ _ | assumption | refine Upd.alloc ?_ _ | refine Upd.drew ?_ | refine Upd.drewN ?_ _ | refine Upd.trans ?_ (by assumption)))))
            (first
              | ((go_at_call 20; refine (HR.out _ (HB.out.1.trans (by (repeat (first | exact Upd.refl _ _ | assumption | refine Upd.alloc ?_ _ | refine Upd.drew ?_ | refine Upd.drewN ?_ _ | refine Upd.trans ?_ (by assumption)))))).mono ?_; rintro e wn ⟨vn, rfl, hN, uN⟩))
              | ((go_at_call 19; refine (HI.out vn (.agg #[x, y]) _ (NumI.upd hN (by (repeat (first | exact Upd.refl _ _ | assumption | refine Upd.alloc ?_ _ | refine Upd.drew ?_ | refine Upd.drewN ?_ _ | refine Upd.trans ?_ (by assumption))))) (SpI.upd HSP.out (by (repeat (first | exact Upd.refl _ _ | assumption | refine Upd.alloc ?_ _ | refine Upd.drew ?_ | refine Upd.drewN ?_ _ | refine Upd.trans ?_ (by assumption)))))).mono ?_; rintro e we ⟨rfl, uE⟩)))
          all_goals
            go_wp2_with fail
            go_ret
            exact ⟨rfl, HB.out.1.trans (by (repeat (first | exact Upd.refl _ _ | assumption | refine Upd.alloc ?_ _ | refine Upd.drew ?_ | refine Upd.drewN ?_ _ | refine Upd.trans ?_ (by assumption))))⟩
        · have r4 : (i == b) = false := beq_eq_false_iff_ne.2 hend
          have r5 : IntKind.i64.wrap (i + 1) = i + 1 := by rw [IntKind.wrap_i64]; omega
          have hm : m + 1 < n := by omega
          have hi2 : i + 1 = a + ((m + 1 : Nat) : Int) := by omega
          have HE := Lib.hid (And.intro hi2 (And.intro hm (And.intro H6.out.2 (And.intro HB.out.2.2.2.1 H6.out.1))))
          have him : i < b := by omega
          clear hi2 hm hbi
          go_wp2_with fail
          go_roundw
          case rel => exact ⟨m + 1, i + 1, rfl, HE.out⟩
          case measure => simp [intOf]; omega
  · have h0 : n = 0 := by omega
    subst h0
    have q1 : decide (a ≤ b) = false := decide_eq_false hab
    have HS := Lib.hid (small_sp 1 w (by omega))
    clear hn hn2 hlen e0 hbig hca hcb hk
    go_enter Tryz.func3, Tryz.ntmps3
    go_wp2_with fail
    refine HS.out.mono ?_
    rintro e w1 ⟨v, rfl, hv, u1⟩
    have hv2 := Lib.hid hv.int
    obtain ⟨A, c, rfl, _, _⟩ := hv
    go_wp2_with fail
    obtain ⟨g, hg⟩ : ∃ g, w1.heap.size = g := ⟨_, rfl⟩
    rw [hg]
    go_loopw [6] (fun i wr => i = .int .i64 a ∧ Hid (Upd NoF w wr ∧ BoxI wr g 1)) (fun _ _ => 0)
    case atStart => exact ⟨rfl, u1.alloc _, by rw [← hg]; exact BoxI.new hv2.out⟩
    case round =>
      obtain ⟨rfl, HB⟩ := hrel
      go_wp2_with fail
      obtain ⟨x, y, k0, k1, f0, f1, hS⟩ := HB.out.2.spi
      have HK := Lib.hid (fun (w' : World) (u : Upd NoF wr w') => (show w'.cell? ⟨g, 0, none⟩ = some x ∧ w'.cell? ⟨g, 1, none⟩ = some y from ⟨(show CellT _ w' g 0 x from HB.out.2.c0 k0 u).cell, (show CellT _ w' g 1 y from HB.out.2.c1 k1 u).cell⟩))
      have HSP := Lib.hid hS
      clear k0 k1 f0 f1 hS
      go_region_held3 (fun w' => w'.cell? ⟨g, 0, none⟩ = some x ∧ w'.cell? ⟨g, 1, none⟩ = some y) (exact HK.out _ (by (repeat (first | exact Upd.refl _ _ | assumption | refine Upd.alloc ?_ _ | refine Upd.drew ?_ | refine Upd.drewN ?_ _ | refine Upd.trans ?_ (by assumption)))))
        (first
          | ((go_at_call 20; refine (HR.out _ (HB.out.1.trans (by (repeat (first | exact Upd.refl _ _ | assumption | refine Upd.alloc ?_ _ | refine Upd.drew ?_ | refine Upd.drewN ?_ _ | refine Upd.trans ?_ (by assumption)))))).mono ?_; rintro e wn ⟨vn, rfl, hN, uN⟩))
          | ((go_at_call 19; refine (HI.out vn (.agg #[x, y]) _ (NumI.upd hN (by (repeat (first | exact Upd.refl _ _ | assumption | refine Upd.alloc ?_ _ | refine Upd.drew ?_ | refine Upd.drewN ?_ _ | refine Upd.trans ?_ (by assumption))))) (SpI.upd HSP.out (by (repeat (first | exact Upd.refl _ _ | assumption | refine Upd.alloc ?_ _ | refine Upd.drew ?_ | refine Upd.drewN ?_ _ | refine Upd.trans ?_ (by assumption)))))).mono ?_; rintro e we ⟨rfl, uE⟩)))
      all_goals
        go_wp2_with fail
        go_ret
        exact ⟨rfl, HB.out.1.trans (by (repeat (first | exact Upd.refl _ _ | assumption | refine Upd.alloc ?_ _ | refine Upd.drew ?_ | refine Upd.drewN ?_ _ | refine Upd.trans ?_ (by assumption))))⟩
end Go.Proofs.YtefeijofhocnpaaGreatDoor
