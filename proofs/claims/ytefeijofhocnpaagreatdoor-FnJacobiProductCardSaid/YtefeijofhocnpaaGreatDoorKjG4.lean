/- For the claim of laws.The symbol of a product is the product of the symbols, above and below (FnJacobiProduct).: RowJ, LawJacobiProduct. -/
import Derived.Test.YtefeijofhocnpaaGreatDoorKjE2
import Derived.Test.YtefeijofhocnpaaGreatDoorKjG3
import Derived.Test.YtefeijofhocnpaaGreatDoorKjL1
set_option linter.unusedVariables false
set_option linter.unusedSimpArgs false
namespace Go.Proofs.YtefeijofhocnpaaGreatDoor
open Go.ChangeShapes Go.WideShapes Go.ChangeAt Go.RowKit
theorem tab_data : (Rows.laid_math_bits_deBruijn64tab : DataW Unit) = .agg (Lib.deBruijn64tab.map (fun n : Nat => DataW.lit (.int .u8 (n : Int)))) := rfl
set_option maxRecDepth 100000 in
theorem tz_of {W : World} (hs : W.ShapedOpen Tryz.prog) {laid : List (String × DataW Unit)} (h : laidMetH Tryz.prog laid W.memory) (hn : laid.filter (fun x => x.2.handleName?.isSome) = [])
    (hm : ("math/bits.deBruijn64tab", (Rows.laid_math_bits_deBruijn64tab : DataW Unit)) ∈ laid) : TzTab W := by
  obtain ⟨ps, hL, _, _⟩ := laid_plain h hn
  obtain ⟨g, t, cs, fuel, p, e1, e2, e3, e4, e5⟩ := laid_at hL hm
  obtain rfl : 7 = g := Option.some.inj ((show Tryz.prog.globalNamed "math/bits.deBruijn64tab" = some 7 by kernel_rfl).symm.trans e1)
  obtain rfl : 176 = t := Option.some.inj ((show (Tryz.prog.globals[7]?).map (·.type) = some 176 by kernel_rfl).symm.trans e2)
  have hvar : W.var? Tryz.prog "math/bits.deBruijn64tab" = some cs := e3
  obtain ⟨xs, m, rfl, hx, hl, hn64, hel⟩ := DataW.trod_array Tryz.underlying176 e4
  rw [tab_data] at hx
  have hc1 : Tryz.prog.cellsOf 5 = 1 := by kernel_rfl
  have hc64 : Tryz.prog.cellsOf 176 = 64 := by kernel_rfl
  rw [hc64] at hl
  have hmap : xs.map (·.1) = Lib.deBruijn64tab.map (fun n : Nat => DataW.lit (.int .u8 (n : Int))) := by
    simp only [Prod.mk.injEq, DataW.agg.injEq] at hx
    exact hx.1.symm
  have hheap : ∃ e, W.heap[7]? = some (.cells cs e (0, 0)) := by
    unfold World.var? at hvar
    rw [e1] at hvar
    obtain ⟨cs', h1, _⟩ := hs.1 7 (Array.replicate 64 (.int .u8 0)) 176 (of_decide_eq_true (by kernel_rfl)) (by kernel_rfl)
    simp only [Option.bind_some, h1] at hvar
    exact ⟨_, (Option.some.inj hvar) ▸ h1⟩
  obtain ⟨e, hh⟩ := hheap
  intro j hj
  have hj64 : j < 64 := hj
  have h1 := hel j hj64
  rw [hc1, Nat.mul_one] at h1
  have h2 : (cs.toList.drop j).take 1 = [cs.toList[j]'(by omega)] := by
    rw [List.drop_eq_getElem_cons (by omega)]; rfl
  rw [h2] at h1
  have hxj : xs[j]? = some (xs[j]'(by omega)) := List.getElem?_eq_getElem (by omega)
  rw [hxj] at h1
  obtain ⟨z, k1, k2, _⟩ := DataW.trod_int Tryz.underlying5 h1
  have hd : (xs[j]'(by omega)).1 = DataW.lit (.int .u8 ((Lib.deBruijn64tab.getD j 0 : Nat) : Int)) := by
    have h3 := congrArg (fun l => l[j]?) hmap
    simp only [List.getElem?_map] at h3
    rw [hxj, List.getElem?_eq_getElem hj] at h3
    simp only [Option.map_some] at h3
    rw [List.getD_eq_getElem?_getD, List.getElem?_eq_getElem hj]
    exact Option.some.inj h3
  rw [k2] at hd
  simp only [DataW.lit.injEq, Lit.int.injEq] at hd
  have hz := hd.2
  subst hz
  have hcell : cs[j]? = some (.int .u8 ((Lib.deBruijn64tab.getD j 0 : Nat) : Int)) := by
    rw [← Array.getElem?_toList, List.getElem?_eq_getElem (by omega)]
    simpa using k1
  simp [World.cell?, hh, hcell]
structure WordsR (W : World) (A : Option Addr) (n c : Nat) (xs : List Nat) : Prop where
  len : xs.length = n
  le : n ≤ c
  max : n ≤ 9223372036854775807
  dig : Digs B64 xs
  rd : RdU W A xs
theorem WordsR.upd {w w' : World} {A : Option Addr} {n c : Nat} {xs : List Nat} (h : WordsR w A n c xs) (u : Upd NoF w w') : WordsR w' A n c xs := ⟨h.len, h.le, h.max, h.dig, h.rd.upd u⟩
set_option maxRecDepth 1000000 in
theorem open_words {H : Type} {enc : TypeId × Value → H} {W : World} {b0 : Nat} {v : Value} {d : DataW H} {p : List MemPlace} (hv : Value.okWide Tryz.prog W .any b0 29 v) (h : DataW.Trod enc Tryz.prog W 0 (fun _ => true) true 29 v d p) :
    ∃ (A : Option Addr) (n c : Nat) (xs : List Nat), v = .slice A n c ∧ WordsR W A n c xs := by
  obtain ⟨a0, len, cap, rfl⟩ := okWide_slice Tryz.underlying29 hv
  obtain ⟨fuel, hf⟩ := h
  rcases open_ints Tryz.underlying29 Tryz.underlying22 (by kernel_rfl) hf with ⟨hcs, _⟩ | ⟨x, l, c, zs, hcs, _, hl, hm, hz, _, hcell, hwz⟩
  · have e : Value.slice a0 len cap = .slice none 0 0 := by simpa [Value.cells] using hcs
    rw [e]
    exact ⟨none, 0, 0, [], rfl, rfl, Nat.le_refl _, by omega, Digs.nil, fun h => absurd h (by simp)⟩
  · have e : Value.slice a0 len cap = .slice (some x) l c := by simpa [Value.cells] using hcs
    rw [e]
    have hz' : zs.length = c := by simpa using hz
    obtain ⟨xs, x1, x2, x3⟩ := words_of (l := l) (by omega) hcell hwz
    have hmx : c ≤ 9223372036854775807 := hm
    exact ⟨some x, l, c, xs, rfl, x1, hl, by omega, x2, x3⟩
end Go.Proofs.YtefeijofhocnpaaGreatDoor
namespace Go.Proofs.YtefeijofhocnpaaGreatDoor
open Go.RowKit Go.Proofs.YtefeijofhocnpaaGreatDoor.PSpec Go.Proofs.YtefeijofhocnpaaGreatDoorW.PrintWords Go.Proofs.YtefeijofhocnpaaGreatDoorW.PrintLast Go.Proofs.YtefeijofhocnpaaGreatDoorW.PrintMore
set_option linter.unusedSimpArgs false
theorem words_sp (v : Value) (N : Nat) (w : World) (h : SpN w v N) (hl : (digs N).length ≤ 1048576) : Calls Tryz.prog 40 #[v] w fun e w' => ∃ (A : Option Addr) (c : Nat), e = .returned (.slice A (digs N).length c) ∧ WordsR w' A (digs N).length c (digs N) ∧ Upd NoF w w' := by
  obtain ⟨A2, c2, rfl, b1, b2⟩ := h
  have hl4 := ds_len4 N
  obtain ⟨k, hk⟩ := spec_Words_any N (by omega)
  have h := spec_Words.calls k A2 c2 (ints (ds N)) _ w (by rw [ints_length]; exact b2) (by rw [ints_length]; exact b1) hk
  rw [ints_length] at h
  refine h.mono ?_
  rintro e w' ⟨v, rfl, hV, hb⟩
  obtain ⟨A, c, rfl⟩ := Kd.R_slice hV
  have h2 := Kd.R_reads' hV
  rw [ints_length] at h2
  exact ⟨A, c, by rw [ints_length], ⟨rfl, h2.2.1, by omega, digs_digs N, RdU_of_C h2.2.2⟩, Upd.ofBelow hb⟩
theorem WordsR.num {w : World} {A : Option Addr} {c N : Nat} (h : WordsR w A (digs N).length c (digs N)) : NumR w (.agg #[.bool false, .slice A (digs N).length c]) (digs N).length (N : Int) :=
  ⟨false, A, c, digs N, rfl, rfl, h.le, h.max, digs_digs N, h.rd, by rw [val_digs]; rfl⟩
theorem words_cons {w' : World} {v : Value} {base n : Nat} {ok : Nat → Prop} {x : Nat} {xs : List Nat} (hx : x < B64) (hd : Digs B64 xs) (hn : xs.length = n) (hm : n + 1 ≤ 9223372036854775807) (h : Kd.R (Kd.int .u64) 22 w' base ok v ([(x : Int)] ++ ints xs)) :
    ∃ (A : Option Addr) (c : Nat), v = .slice A (n + 1) c ∧ WordsR w' A (n + 1) c (x :: xs) := by
  have e : [(x : Int)] ++ ints xs = ints (x :: xs) := rfl
  rw [e] at h
  obtain ⟨A, c, rfl⟩ := Kd.R_slice h
  have h2 := Kd.R_reads' h
  rw [ints_length] at h2 ⊢
  have hl : (x :: xs).length = n + 1 := by simp [hn]
  rw [hl] at h2 ⊢
  exact ⟨A, c, rfl, hl, h2.2.1, hm, Digs.cons hx hd, RdU_of_C h2.2.2⟩
theorem num_lit (w : World) (x : Nat) (hx : x < B64) : NumR (w.alloc (.cells #[.int .u64 (x : Int)] 22)) (.agg #[.bool false, .slice (some ⟨w.heap.size, 0, none⟩) 1 1]) 1 (x : Int) := by
  refine ⟨false, _, 1, [x], rfl, rfl, Nat.le_refl _, by omega, Digs.cons hx Digs.nil, fun _ => ⟨_, rfl, fun i hi => ?_⟩, by simp [sg, val]⟩
  have hi0 : i = 0 := by simpa using hi
  subst hi0
  have h := heap_alloc_new w (.cells #[.int .u64 (x : Int)] 22)
  exact (show CellT 22 (w.alloc (.cells #[.int .u64 (x : Int)] 22)) w.heap.size 0 (.int .u64 (x : Int)) from ⟨_, h, by simp⟩).cell
structure JP (w w' : World) (g ga gb : Nat) (s1 : Bool) (A1 : Option Addr) (n1 c1 : Nat) (s2 : Bool) (A2 : Option Addr) (n2 c2 : Nat) (A6 : Option Addr) (ma k6 : Nat) (A16 : Option Addr) (mb k16 : Nat) (Va Vb : Nat) : Prop where
  up : Upd NoF w w'
  bx : BoxN w' g s1 A1 n1 c1
  bw : BoxN w' (g + 1) s2 A2 n2 c2
  ba : BoxN w' ga false A6 ma k6
  bb : BoxN w' gb false A16 mb k16
  na : NumR w' (.agg #[.bool false, .slice A6 ma k6]) ma (Va : Int)
  nb : NumR w' (.agg #[.bool false, .slice A16 mb k16]) mb (Vb : Int)
theorem JP.upd {w w' w2 : World} {g ga gb : Nat} {s1 : Bool} {A1 : Option Addr} {n1 c1 : Nat} {s2 : Bool} {A2 : Option Addr} {n2 c2 : Nat} {A6 : Option Addr} {ma k6 : Nat} {A16 : Option Addr} {mb k16 : Nat} {Va Vb : Nat}
    (h : JP w w' g ga gb s1 A1 n1 c1 s2 A2 n2 c2 A6 ma k6 A16 mb k16 Va Vb) (u : Upd NoF w' w2) : JP w w2 g ga gb s1 A1 n1 c1 s2 A2 n2 c2 A6 ma k6 A16 mb k16 Va Vb :=
  ⟨h.up.trans u, h.bx.upd u, h.bw.upd u, h.ba.upd u, h.bb.upd u, h.na.upd u, h.nb.upd u⟩
theorem odd_val (x : Nat) (xs : List Nat) (hx : x % 2 = 1) : val B64 (x :: xs) % 2 = 1 := by
  rw [val_cons, B64_eq]; omega
set_option maxRecDepth 1000000 in
set_option maxHeartbeats 3200000 in
theorem FnJacobiProduct_any (v1 v2 : Value) (n1 n2 : Nat) (X1 X2 : Int) (A3 : Option Addr) (n3 c3 : Nat) (xs3 : List Nat) (A4 : Option Addr) (n4 c4 : Nat) (xs4 : List Nat) (w : World) (h1 : NumR w v1 n1 X1) (h2 : NumR w v2 n2 X2) (h3 : WordsR w A3 n3 c3 xs3) (h4 : WordsR w A4 n4 c4 xs4)
    (hT : Thr w 40) (hD : DThr w 40) (hO : OneI w) (hZ : TzTab w) :
    Calls Tryz.prog 12 #[v1, v2, .slice A3 n3 c3, .slice A4 n4 c4] w fun e w' => e = .returned (.bool true) ∧ Upd NoF w w' := by
  have HZ1 := Lib.hid (fun w' (u : Upd NoF w w') => zz_sp v1 n1 X1 w' (h1.upd u))
  have HZ2 := Lib.hid (fun w' (u : Upd NoF w w') => zz_sp v2 n2 X2 w' (h2.upd u))
  have HG1 := Lib.hid (fun w' (u : Upd NoF w w') => big_sp v1 n1 X1 8 w' (h1.upd u))
  have HG2 := Lib.hid (fun w' (u : Upd NoF w w') => big_sp v2 n2 X2 8 w' (h2.upd u))
  obtain ⟨s1, A1, c1, xs1, rfl, hN1⟩ := id h1
  obtain ⟨s2, A2, c2, xs2, rfl, hN2⟩ := id h2
  have HJ := Lib.hid (fun (w' : World) (u : Upd NoF w w') (v v' : Value) (n m : Nat) (X : Int) (Y : Nat) (kx : NumR w' v n X) (ky : NumR w' v' m (Y : Int)) (ho : Y % 2 = 1) (hn : n ≤ 20) (hm : m ≤ 20) =>
    implJacobi_any 40 v v' n m X Y w' kx ky ho (by omega) (by omega) (hD.upd u (fun _ h => h)) (hO.upd u) (hZ.upd u) (fun A B hB hB1 hA1 => by
      have l1 := kx.len
      have l2 := ky.len
      rw [Int.natAbs_natCast] at l2
      exact divAtT_any hB (fun _ h => by omega) (by have := G_mono (a := (digs B).length) (b := 20) (by omega); have : G 20 = 576 := (by decide); omega) (by omega)))
  have HM := Lib.hid (fun (w' : World) (u : Upd NoF w w') (v v' : Value) (n m : Nat) (X Y : Int) (kx : NumR w' v n X) (ky : NumR w' v' m Y) (hn : n ≤ 20) (hm : m ≤ 20) => implMul_num 40 v v' n m X Y w' (hT.upd u (fun _ h => h)) kx ky (by omega) (by omega))
  have HW := Lib.hid (And.intro h1 (And.intro h2 (And.intro h3 (And.intro h4 (And.intro hT (And.intro hD (And.intro hO hZ)))))))
  clear hN1 hN2 h1 h2 h3 h4 hT hD hO hZ
  go_enter Tryz.func12, Tryz.ntmps12
  go_wp2_with fail
  have hb1 := BoxN.new w s1 A1 n1 c1
  have u1 : Upd NoF w (w.alloc (.cells #[.bool s1, .slice A1 n1 c1] 33)) := (Upd.refl NoF w).alloc _
  obtain ⟨g, hg⟩ : ∃ g, w.heap.size = g := ⟨_, rfl⟩
  obtain ⟨w1, hw1⟩ : ∃ w1, w.alloc (.cells #[.bool s1, .slice A1 n1 c1] 33) = w1 := ⟨_, rfl⟩
  have s1' : w1.heap.size = g + 1 := by rw [← hw1, ← hg]; simp
  rw [hg, hw1] at hb1
  rw [hw1] at u1
  have hb2 := BoxN.new w1 s2 A2 n2 c2
  have u2 : Upd NoF w1 (w1.alloc (.cells #[.bool s2, .slice A2 n2 c2] 33)) := (Upd.refl NoF w1).alloc _
  obtain ⟨w2, hw2⟩ : ∃ w2, w1.alloc (.cells #[.bool s2, .slice A2 n2 c2] 33) = w2 := ⟨_, rfl⟩
  rw [s1', hw2] at hb2
  rw [hw2] at u2
  rw [hg, hw1, hw2]
  have H1 := Lib.hid (And.intro (u1.trans u2) (And.intro (hb1.upd u2) hb2))
  clear u1 u2 hb1 hb2 hg hw1 hw2 s1'
  refine (HZ1.out w2 H1.out.1).mono ?_
  rintro e w3 ⟨rfl, u3⟩
  by_cases hz1 : 2147483647 < n1
  · have q1 : decide (n1 ≤ 2147483647) = false := decide_eq_false (by omega)
    rw [q1]
    have HU := Lib.hid (H1.out.1.trans u3)
    clear u3
    go_wp2_with fail
    go_ret
    exact ⟨rfl, HU.out⟩
  have q1 : decide (n1 ≤ 2147483647) = true := decide_eq_true (by omega)
  rw [q1]
  have H2 := Lib.hid (And.intro (H1.out.1.trans u3) (And.intro (H1.out.2.1.upd u3) (H1.out.2.2.upd u3)))
  have c20 := H2.out.2.2.c0.cell
  have c21 := H2.out.2.2.c1.cell
  clear u3 q1 hz1 H1
  go_wp2_with fail
  refine (HZ2.out w3 H2.out.1).mono ?_
  rintro e w4 ⟨rfl, u4⟩
  by_cases hz2 : 2147483647 < n2
  · have q1 : decide (n2 ≤ 2147483647) = false := decide_eq_false (by omega)
    rw [q1]
    have HU := Lib.hid (H2.out.1.trans u4)
    clear u4
    go_wp2_with fail
    go_ret
    exact ⟨rfl, HU.out⟩
  have q1 : decide (n2 ≤ 2147483647) = true := decide_eq_true (by omega)
  rw [q1]
  have H3 := Lib.hid (And.intro (H2.out.1.trans u4) (And.intro (H2.out.2.1.upd u4) (H2.out.2.2.upd u4)))
  clear u4 q1 hz2 H2 c20 c21
  have c10 := H3.out.2.1.c0.cell
  have c11 := H3.out.2.1.c1.cell
  by_cases hz3 : 2147483647 < n3
  · have q1 : decide ((2147483647 : Int) < (n3 : Int)) = true := decide_eq_true (by omega)
    go_wp2_with fail
    go_ret
    exact ⟨rfl, H3.out.1⟩
  have q3 : decide ((2147483647 : Int) < (n3 : Int)) = false := decide_eq_false (by omega)
  by_cases hz4 : 2147483647 < n4
  · have q1 : decide ((2147483647 : Int) < (n4 : Int)) = true := decide_eq_true (by omega)
    go_wp2_with fail
    go_ret
    exact ⟨rfl, H3.out.1⟩
  have q4 : decide ((2147483647 : Int) < (n4 : Int)) = false := decide_eq_false (by omega)
  go_wp2_with fail
  refine (HG1.out w4 H3.out.1).mono ?_
  rintro e w5 ⟨rfl, u5⟩
  have H4 := Lib.hid (And.intro (H3.out.1.trans u5) (And.intro (H3.out.2.1.upd u5) (H3.out.2.2.upd u5)))
  clear u5 H3 c10 c11
  by_cases hy1 : 8 < n1
  · have q1 : decide (8 < n1) = true := decide_eq_true hy1
    rw [q1]
    go_wp2_with fail
    go_ret
    exact ⟨rfl, H4.out.1⟩
  have q1 : decide (8 < n1) = false := decide_eq_false hy1
  rw [q1]
  have c20 := H4.out.2.2.c0.cell
  have c21 := H4.out.2.2.c1.cell
  go_wp2_with fail
  refine (HG2.out w5 H4.out.1).mono ?_
  rintro e w6 ⟨rfl, u6⟩
  have H5 := Lib.hid (And.intro (H4.out.1.trans u6) (And.intro (H4.out.2.1.upd u6) (H4.out.2.2.upd u6)))
  clear u6 H4 c20 c21
  by_cases hy2 : 8 < n2
  · have q1 : decide (8 < n2) = true := decide_eq_true hy2
    rw [q1]
    go_wp2_with fail
    go_ret
    exact ⟨rfl, H5.out.1⟩
  have q2 : decide (8 < n2) = false := decide_eq_false hy2
  rw [q2]
  by_cases hy3 : 5 < n3
  · have q5 : decide ((5 : Int) < (n3 : Int)) = true := decide_eq_true (by omega)
    go_wp2_with fail
    go_ret
    exact ⟨rfl, H5.out.1⟩
  have q5 : decide ((5 : Int) < (n3 : Int)) = false := decide_eq_false (by omega)
  by_cases hy4 : 5 < n4
  · have q6 : decide ((5 : Int) < (n4 : Int)) = true := decide_eq_true (by omega)
    go_wp2_with fail
    go_ret
    exact ⟨rfl, H5.out.1⟩
  have q6 : decide ((5 : Int) < (n4 : Int)) = false := decide_eq_false (by omega)
  have HN := Lib.hid (And.intro hy1 (And.intro hy2 (And.intro hy3 hy4)))
  have R3 := HW.out.2.2.1.upd H5.out.1
  have HR3 := Lib.hid R3
  clear hz3 hz4 hy1 hy2 hy3 hy4 q3 q4 q1 R3
  go_wp2_with (first
    | ((with_reducible refine gate_dst (N := 57) rfl ?_); refine Kd.R_lit (Kd.int .u64) (w0 := w6) _ 22 ?hg (N := 57) ?hd (xs := ([(((1 : Nat) : Int))] : List Int)) (inner := [.int .u64 ((1 : Nat) : Int)]) (ok := fun _ => True) (okp := fun _ => True) ?hr ?hp (fun _ hk => hk) trivial (Below.refl _ _) (Nat.le_refl _) (by simp) ?_; (case hd => rfl); (case hg => rfl); (case hr => first | (go_simp; done) | (go_simp; rfl)); (case hp => exact (Reps.one (show Kd.M (Kd.int .u64) _ _ _ ((1 : Nat) : Int) [.int .u64 ((1 : Nat) : Int)] from rfl) (Reps.none _ _))); intro v57 w57 ho57 hb57 hg57 hn57; clear hg57 hn57)
    | ((with_reducible refine gate_builtin (b := .append) (xs := #[.tmp 57, .tmp 58]) rfl ?_); at_builtin; refine Kd.R_append_rows (Kd.int .u64) (w0 := w6) w6.heap.size rfl (.tmp 57) (.tmp 58) 29 22 (.int .u64 0) 8 rfl Tryz.underlying29 info22 rfl (by decide) (by omega) v57 [((1 : Nat) : Int)] (ints xs3) _ _ _ (fun _ => True) (fun _ => False) rfl rfl ho57 ?aR (fun _ _ h => h) (fun _ h => h.elim) (fun _ _ => trivial) hb57 hb57.size ?aL ?_; (case aR => exact Kd.C_below (C_of_RdU HR3.out.rd HR3.out.len HR3.out.max) hb57); (case aL => have := HN.out.2.2.1; simp only [List.length_singleton]; omega); intro v59 w59 ho59 hb59 hg59 hat59; clear hg59 hat59 ho57 hb57))
  obtain ⟨A5, k5, rfl, hW5⟩ := words_cons (x := 1) (by decide) HR3.out.dig HR3.out.len (by have := HN.out.2.2.1; omega) ho59
  have H6 := Lib.hid (And.intro (H5.out.1.trans (Upd.ofBelow hb59)) (And.intro (H5.out.2.1.upd (Upd.ofBelow hb59)) (H5.out.2.2.upd (Upd.ofBelow hb59))))
  clear ho59 hb59
  obtain ⟨Va, hVa⟩ : ∃ Va, val B64 (1 :: xs3) = Va := ⟨_, rfl⟩
  have hVo : Va % 2 = 1 := by rw [← hVa]; exact odd_val 1 _ rfl
  have hVl : (digs Va).length ≤ 6 := by
    have := digs_len_le hW5.dig
    rw [hVa, hW5.len] at this
    have := HN.out.2.2.1; omega
  have HVa := Lib.hid (And.intro hVo hVl)
  have HO := of_sp A5 (n3 + 1) k5 (1 :: xs3) w59 hW5.len hW5.le (by have := HN.out.2.2.1; omega) hW5.dig hW5.rd
  rw [hVa] at HO
  have HO := Lib.hid HO
  clear hVo hVl hW5 hVa H5
  refine HO.out.mono ?_
  rintro e w7 ⟨v7, rfl, hv7, u7⟩
  have H7 := Lib.hid (And.intro (H6.out.1.trans u7) (And.intro (H6.out.2.1.upd u7) (H6.out.2.2.upd u7)))
  have HWS := Lib.hid (words_sp v7 Va w7 hv7 (by have := HVa.out.2; omega))
  clear hv7 u7 H6 HO
  go_wp2_with fail
  refine HWS.out.mono ?_
  rintro e w8 ⟨A6, k6, rfl, hW6, u8⟩
  have hN6 := hW6.num
  obtain ⟨ma, hma⟩ : ∃ ma, (digs Va).length = ma := ⟨_, rfl⟩
  rw [hma] at hN6 ⊢
  have HMa := Lib.hid (show ma ≤ 6 by have := HVa.out.2; omega)
  have hbA := BoxN.new w8 false A6 ma k6
  have uA : Upd NoF w8 (w8.alloc (.cells #[.bool false, .slice A6 ma k6] 33)) := (Upd.refl NoF w8).alloc _
  have H8 := Lib.hid (And.intro (H7.out.1.trans (u8.trans uA)) (And.intro (H7.out.2.1.upd (u8.trans uA)) (And.intro (H7.out.2.2.upd (u8.trans uA)) (And.intro (hN6.upd uA) hbA))))
  have R4 := HW.out.2.2.2.1.upd H8.out.1
  have HR4 := Lib.hid R4
  clear hW6 u8 hN6 hma hbA uA R4 H7 HWS
  obtain ⟨ga, hga⟩ : ∃ ga, w8.heap.size = ga := ⟨_, rfl⟩
  obtain ⟨w9, hw9⟩ : ∃ w9, w8.alloc (.cells #[.bool false, .slice A6 ma k6] 33) = w9 := ⟨_, rfl⟩
  rw [hw9] at HR4
  rw [hga, hw9] at H8
  go_upto_region 6 with fail
  try rw [hga]
  try rw [hw9]
  clear hga hw9
  go_wp2_with (first
    | ((with_reducible refine gate_dst (N := 63) rfl ?_); refine Kd.R_lit (Kd.int .u64) (w0 := w9) _ 22 ?hg (N := 63) ?hd (xs := ([(((3 : Nat) : Int))] : List Int)) (inner := [.int .u64 ((3 : Nat) : Int)]) (ok := fun _ => True) (okp := fun _ => True) ?hr ?hp (fun _ hk => hk) trivial (Below.refl _ _) (Nat.le_refl _) (by simp) ?_; (case hd => rfl); (case hg => rfl); (case hr => first | (go_simp; done) | (go_simp; rfl)); (case hp => exact (Reps.one (show Kd.M (Kd.int .u64) _ _ _ ((3 : Nat) : Int) [.int .u64 ((3 : Nat) : Int)] from rfl) (Reps.none _ _))); intro v57 w57 ho57 hb57 hg57 hn57; clear hg57 hn57)
    | ((with_reducible refine gate_builtin (b := .append) (xs := #[.tmp 63, .tmp 64]) rfl ?_); at_builtin; refine Kd.R_append_rows (Kd.int .u64) (w0 := w9) w9.heap.size rfl (.tmp 63) (.tmp 64) 29 22 (.int .u64 0) 8 rfl Tryz.underlying29 info22 rfl (by decide) (by omega) v57 [((3 : Nat) : Int)] (ints xs4) _ _ _ (fun _ => True) (fun _ => False) rfl rfl ho57 ?aR (fun _ _ h => h) (fun _ h => h.elim) (fun _ _ => trivial) hb57 hb57.size ?aL ?_; (case aR => exact Kd.C_below (C_of_RdU HR4.out.rd HR4.out.len HR4.out.max) hb57); (case aL => have := HN.out.2.2.2; simp only [List.length_singleton]; omega); intro v65 w65 ho65 hb65 hg65 hat65; clear hg65 hat65 ho57 hb57))
  obtain ⟨A15, k15, rfl, hW15⟩ := words_cons (x := 3) (by decide) HR4.out.dig HR4.out.len (by have := HN.out.2.2.2; omega) ho65
  have H16 := Lib.hid (And.intro (H8.out.1.trans (Upd.ofBelow hb65)) (And.intro (H8.out.2.1.upd (Upd.ofBelow hb65)) (And.intro (H8.out.2.2.1.upd (Upd.ofBelow hb65)) (And.intro (H8.out.2.2.2.1.upd (Upd.ofBelow hb65)) (H8.out.2.2.2.2.upd (Upd.ofBelow hb65))))))
  clear ho65 hb65
  obtain ⟨Vb, hVb⟩ : ∃ Vb, val B64 (3 :: xs4) = Vb := ⟨_, rfl⟩
  have hVo : Vb % 2 = 1 := by rw [← hVb]; exact odd_val 3 _ rfl
  have hVl : (digs Vb).length ≤ 6 := by
    have := digs_len_le hW15.dig
    rw [hVb, hW15.len] at this
    have := HN.out.2.2.2; omega
  have HVb := Lib.hid (And.intro hVo hVl)
  have HO := of_sp A15 (n4 + 1) k15 (3 :: xs4) w65 hW15.len hW15.le (by have := HN.out.2.2.2; omega) hW15.dig hW15.rd
  rw [hVb] at HO
  have HO := Lib.hid HO
  clear hVo hVl hW15 hVb H8
  refine HO.out.mono ?_
  rintro e w17 ⟨v17, rfl, hv17, u17⟩
  have H17 := Lib.hid (And.intro (H16.out.1.trans u17) (And.intro (H16.out.2.1.upd u17) (And.intro (H16.out.2.2.1.upd u17) (And.intro (H16.out.2.2.2.1.upd u17) (H16.out.2.2.2.2.upd u17)))))
  have HWS := Lib.hid (words_sp v17 Vb w17 hv17 (by have := HVb.out.2; omega))
  clear hv17 u17 H16 HO
  go_wp2_with fail
  refine HWS.out.mono ?_
  rintro e w18 ⟨A16, k16, rfl, hW16, u18⟩
  have hN16 := hW16.num
  obtain ⟨mb, hmb⟩ : ∃ mb, (digs Vb).length = mb := ⟨_, rfl⟩
  rw [hmb] at hN16 ⊢
  have HMb := Lib.hid (show mb ≤ 6 by have := HVb.out.2; omega)
  have hbB := BoxN.new w18 false A16 mb k16
  have uB : Upd NoF w18 (w18.alloc (.cells #[.bool false, .slice A16 mb k16] 33)) := (Upd.refl NoF w18).alloc _
  have H18 := Lib.hid (And.intro (H17.out.1.trans (u18.trans uB)) (And.intro (H17.out.2.1.upd (u18.trans uB)) (And.intro (H17.out.2.2.1.upd (u18.trans uB)) (And.intro (And.intro (H17.out.2.2.2.1.upd (u18.trans uB)) (H17.out.2.2.2.2.upd (u18.trans uB))) (And.intro (hN16.upd uB) hbB)))))
  clear hW16 u18 hN16 hmb hbB uB H17 HWS
  obtain ⟨gb, hgb⟩ : ∃ gb, w18.heap.size = gb := ⟨_, rfl⟩
  obtain ⟨w19, hw19⟩ : ∃ w19, w18.alloc (.cells #[.bool false, .slice A16 mb k16] 33) = w19 := ⟨_, rfl⟩
  rw [hgb, hw19] at H18
  go_upto_region 7 with fail
  try rw [hgb]
  try rw [hw19]
  clear hgb hw19
  have H19 : Hid (JP w w19 g ga gb s1 A1 n1 c1 s2 A2 n2 c2 A6 ma k6 A16 mb k16 Va Vb) := ⟨H18.out.1, H18.out.2.1, H18.out.2.2.1, H18.out.2.2.2.1.2, H18.out.2.2.2.2.2, H18.out.2.2.2.1.1, H18.out.2.2.2.2.1⟩
  clear H18
  go_wp2_with fail
  have hA : NumR (w19.alloc (.cells #[.int .u64 2] 22)) (.agg #[.bool false, .slice (some ⟨w19.heap.size, 0, none⟩) 1 1]) 1 2 := num_lit w19 2 (by decide)
  have uA : Upd NoF w19 (w19.alloc (.cells #[.int .u64 2] 22)) := (Upd.refl NoF w19).alloc _
  have szA : (w19.alloc (.cells #[.int .u64 2] 22)).heap.size = w19.heap.size + 1 := by simp
  have hB : NumR ((w19.alloc (.cells #[.int .u64 2] 22)).alloc (.cells #[.int .u64 3] 22)) (.agg #[.bool false, .slice (some ⟨(w19.alloc (.cells #[.int .u64 2] 22)).heap.size, 0, none⟩) 1 1]) 1 ((3 : Nat) : Int) := num_lit _ 3 (by decide)
  rw [szA] at hB
  have uB : Upd NoF (w19.alloc (.cells #[.int .u64 2] 22)) ((w19.alloc (.cells #[.int .u64 2] 22)).alloc (.cells #[.int .u64 3] 22)) := (Upd.refl NoF _).alloc _
  have HJ0 := HJ.out _ (H19.out.up.trans (uA.trans uB)) _ _ 1 1 2 3 (hA.upd uB) hB (by decide) (by omega) (by omega)
  rw [Jac.jz_two_three] at HJ0
  have HJ0 := Lib.hid HJ0
  have HUU := Lib.hid (uA.trans uB)
  clear hA hB uA uB szA
  refine HJ0.out.mono ?_
  rintro e w22 ⟨rfl, u22⟩
  have H22 := Lib.hid (H19.out.upd (HUU.out.trans u22))
  clear u22 H19 HUU HJ0
  have a0 := H22.out.bx.c0.cell
  have a1 := H22.out.bx.c1.cell
  have b0 := H22.out.ba.c0.cell
  have b1 := H22.out.ba.c1.cell
  have HC := Lib.hid (HJ.out w22 H22.out.up _ _ n1 ma X1 Va (HW.out.1.upd H22.out.up) H22.out.na HVa.out.1 (by have := HN.out.1; omega) (by have := HMa.out; omega))
  go_wp2_with fail
  refine HC.out.mono ?_
  rintro e w23 ⟨rfl, u23⟩
  have H23 := Lib.hid (H22.out.upd u23)
  clear u23 H22 HC a0 a1 b0 b1
  have a0 := H23.out.bw.c0.cell
  have a1 := H23.out.bw.c1.cell
  have b0 := H23.out.ba.c0.cell
  have b1 := H23.out.ba.c1.cell
  have HC := Lib.hid (HJ.out w23 H23.out.up _ _ n2 ma X2 Va (HW.out.2.1.upd H23.out.up) H23.out.na HVa.out.1 (by have := HN.out.2.1; omega) (by have := HMa.out; omega))
  go_wp2_with fail
  refine HC.out.mono ?_
  rintro e w24 ⟨rfl, u24⟩
  have H24 := Lib.hid (H23.out.upd u24)
  clear u24 H23 HC a0 a1 b0 b1
  obtain ⟨p, hp⟩ : ∃ p, Jac.jz X1 Va = p := ⟨_, rfl⟩
  obtain ⟨q, hq⟩ : ∃ q, Jac.jz X2 Va = q := ⟨_, rfl⟩
  rw [hp, hq]
  have HPQ := Lib.hid (And.intro hp hq)
  clear hp hq
  go_upto_region 12 with fail
  have HS := Lib.hid (fun w' (u : Upd NoF w24 w') => (show w'.cell? ⟨g, 0, none⟩ = some (.bool s1) ∧ w'.cell? ⟨g, 1, none⟩ = some (.slice A1 n1 c1) ∧ w'.cell? ⟨g + 1, 0, none⟩ = some (.bool s2) ∧ w'.cell? ⟨g + 1, 1, none⟩ = some (.slice A2 n2 c2) ∧ w'.cell? ⟨ga, 0, none⟩ = some (.bool false) ∧ w'.cell? ⟨ga, 1, none⟩ = some (.slice A6 ma k6) from
    ⟨(H24.out.upd u).bx.c0.cell, (H24.out.upd u).bx.c1.cell, (H24.out.upd u).bw.c0.cell, (H24.out.upd u).bw.c1.cell, (H24.out.upd u).ba.c0.cell, (H24.out.upd u).ba.c1.cell⟩))
  have HMX := Lib.hid (fun w' (u : Upd NoF w24 w') => HM.out w' ((H24.out.upd u).up) (.agg #[.bool s1, .slice A1 n1 c1]) (.agg #[.bool s2, .slice A2 n2 c2]) n1 n2 X1 X2 (HW.out.1.upd (H24.out.upd u).up) (HW.out.2.1.upd (H24.out.upd u).up) (by have := HN.out.1; omega) (by have := HN.out.2.1; omega))
  have HJX := Lib.hid (fun (vm : Value) w' (u : Upd NoF w24 w') (hm : NumI w' vm (X1 * X2)) => HJ.out w' ((H24.out.upd u).up) vm (.agg #[.bool false, .slice A6 ma k6]) _ ma (X1 * X2) Va (hm.raw (by rw [Int.natAbs_mul]; have := digs_mul_len X1.natAbs X2.natAbs; have := HW.out.1.len; have := HW.out.2.1.len; have := HN.out.1; have := HN.out.2.1; omega)) (H24.out.upd u).na HVa.out.1
    (by rw [Int.natAbs_mul]; have := digs_mul_len X1.natAbs X2.natAbs; have := HW.out.1.len; have := HW.out.2.1.len; have := HN.out.1; have := HN.out.2.1; omega) (by have := HMa.out; omega))
  go_region_held3 (fun w' => w'.cell? ⟨g, 0, none⟩ = some (.bool s1) ∧ w'.cell? ⟨g, 1, none⟩ = some (.slice A1 n1 c1) ∧ w'.cell? ⟨g + 1, 0, none⟩ = some (.bool s2) ∧ w'.cell? ⟨g + 1, 1, none⟩ = some (.slice A2 n2 c2) ∧ w'.cell? ⟨ga, 0, none⟩ = some (.bool false) ∧ w'.cell? ⟨ga, 1, none⟩ = some (.slice A6 ma k6))
    (exact HS.out _ (by (repeat (first | exact Upd.refl _ _ | assumption | refine Upd.alloc ?_ _ | refine Upd.drew ?_ | refine Upd.drewN ?_ _ | refine Upd.trans ?_ (by assumption)))))
    (first
      | ((go_at_call 35; refine (HMX.out _ (by (repeat (first | exact Upd.refl _ _ | assumption | refine Upd.alloc ?_ _ | refine Upd.drew ?_ | refine Upd.drewN ?_ _ | refine Upd.trans ?_ (by assumption))))).mono ?_; rintro e wm ⟨vm, rfl, hm, um⟩))
      | ((go_at_call 38; refine (HJX.out vm _ (by (repeat (first | exact Upd.refl _ _ | assumption | refine Upd.alloc ?_ _ | refine Upd.drew ?_ | refine Upd.drewN ?_ _ | refine Upd.trans ?_ (by assumption)))) (NumI.upd hm (by (repeat (first | exact Upd.refl _ _ | assumption | refine Upd.alloc ?_ _ | refine Upd.drew ?_ | refine Upd.drewN ?_ _ | refine Upd.trans ?_ (by assumption)))))).mono ?_; rintro e w25 ⟨rfl, u25⟩)))
  all_goals
    have U25 : Upd NoF w24 w25 := (by (repeat (first | exact Upd.refl _ _ | assumption | refine Upd.alloc ?_ _ | refine Upd.drew ?_ | refine Upd.drewN ?_ _ | refine Upd.trans ?_ (by assumption))))
    have H25 := Lib.hid (H24.out.upd U25)
    clear U25 u25 hm HS HMX HJX
    obtain ⟨r, hr⟩ : ∃ r, Jac.jz (X1 * X2) Va = r := ⟨_, rfl⟩
    rw [hr]
    have HRR := Lib.hid hr
    clear hr
    have a0 := H25.out.bx.c0.cell
    have a1 := H25.out.bx.c1.cell
    have b0 := H25.out.bb.c0.cell
    have b1 := H25.out.bb.c1.cell
    have HC := Lib.hid (HJ.out w25 H25.out.up _ _ n1 mb X1 Vb (HW.out.1.upd H25.out.up) H25.out.nb HVb.out.1 (by have := HN.out.1; omega) (by have := HMb.out; omega))
    go_wp2_with fail
    refine HC.out.mono ?_
    rintro e w26 ⟨rfl, u26⟩
    have H26 := Lib.hid (H25.out.upd u26)
    clear u26 H25 HC a0 a1 b0 b1
    obtain ⟨s, hs⟩ : ∃ s, Jac.jz X1 Vb = s := ⟨_, rfl⟩
    rw [hs]
    have HSS := Lib.hid hs
    clear hs
    go_upto_region 14 with fail
    have HS := Lib.hid (fun w' (u : Upd NoF w26 w') => (show w'.cell? ⟨g, 0, none⟩ = some (.bool s1) ∧ w'.cell? ⟨g, 1, none⟩ = some (.slice A1 n1 c1) ∧ w'.cell? ⟨ga, 0, none⟩ = some (.bool false) ∧ w'.cell? ⟨ga, 1, none⟩ = some (.slice A6 ma k6) ∧ w'.cell? ⟨gb, 0, none⟩ = some (.bool false) ∧ w'.cell? ⟨gb, 1, none⟩ = some (.slice A16 mb k16) from
      ⟨(H26.out.upd u).bx.c0.cell, (H26.out.upd u).bx.c1.cell, (H26.out.upd u).ba.c0.cell, (H26.out.upd u).ba.c1.cell, (H26.out.upd u).bb.c0.cell, (H26.out.upd u).bb.c1.cell⟩))
    have HMX := Lib.hid (fun w' (u : Upd NoF w26 w') => HM.out w' ((H26.out.upd u).up) (.agg #[.bool false, .slice A6 ma k6]) (.agg #[.bool false, .slice A16 mb k16]) ma mb Va Vb (H26.out.upd u).na (H26.out.upd u).nb (by have := HMa.out; omega) (by have := HMb.out; omega))
    have HJX := Lib.hid (fun (vm : Value) w' (u : Upd NoF w26 w') (hm : NumI w' vm ((Va : Int) * (Vb : Int))) => HJ.out w' ((H26.out.upd u).up) (.agg #[.bool s1, .slice A1 n1 c1]) vm n1 _ X1 (Va * Vb) (HW.out.1.upd (H26.out.upd u).up) (by
        have h := hm.raw (by rw [Int.natAbs_mul, Int.natAbs_natCast, Int.natAbs_natCast]; have := digs_mul_len Va Vb; have := HVa.out.2; have := HVb.out.2; omega)
        rw [← Int.natCast_mul] at h
        exact h) (Jac.odd_mul HVa.out.1 HVb.out.1) (by have := HN.out.1; omega)
      (by rw [Int.natAbs_natCast]; have := digs_mul_len Va Vb; have := HVa.out.2; have := HVb.out.2; omega))
    go_region_held3 (fun w' => w'.cell? ⟨g, 0, none⟩ = some (.bool s1) ∧ w'.cell? ⟨g, 1, none⟩ = some (.slice A1 n1 c1) ∧ w'.cell? ⟨ga, 0, none⟩ = some (.bool false) ∧ w'.cell? ⟨ga, 1, none⟩ = some (.slice A6 ma k6) ∧ w'.cell? ⟨gb, 0, none⟩ = some (.bool false) ∧ w'.cell? ⟨gb, 1, none⟩ = some (.slice A16 mb k16))
      (exact HS.out _ (by (repeat (first | exact Upd.refl _ _ | assumption | refine Upd.alloc ?_ _ | refine Upd.drew ?_ | refine Upd.drewN ?_ _ | refine Upd.trans ?_ (by assumption)))))
      (first
        | ((go_at_call 35; refine (HMX.out _ (by (repeat (first | exact Upd.refl _ _ | assumption | refine Upd.alloc ?_ _ | refine Upd.drew ?_ | refine Upd.drewN ?_ _ | refine Upd.trans ?_ (by assumption))))).mono ?_; rintro e wm2 ⟨vm2, rfl, hm2, um2⟩))
        | ((go_at_call 38; refine (HJX.out vm2 _ (by (repeat (first | exact Upd.refl _ _ | assumption | refine Upd.alloc ?_ _ | refine Upd.drew ?_ | refine Upd.drewN ?_ _ | refine Upd.trans ?_ (by assumption)))) (NumI.upd hm2 (by (repeat (first | exact Upd.refl _ _ | assumption | refine Upd.alloc ?_ _ | refine Upd.drew ?_ | refine Upd.drewN ?_ _ | refine Upd.trans ?_ (by assumption)))))).mono ?_; rintro e w27 ⟨rfl, u27⟩)))
    all_goals
      have U27 : Upd NoF w26 w27 := (by (repeat (first | exact Upd.refl _ _ | assumption | refine Upd.alloc ?_ _ | refine Upd.drew ?_ | refine Upd.drewN ?_ _ | refine Upd.trans ?_ (by assumption))))
      have H27 := Lib.hid (H26.out.upd U27).up
      clear U27 u27 hm2 HS HMX HJX
      have hp := HPQ.out.1
      have hq := HPQ.out.2
      have hr := HRR.out
      have hs := HSS.out
      obtain ⟨t, ht⟩ : ∃ t, Jac.jz X1 (Va * Vb) = t := ⟨_, rfl⟩
      rw [ht]
      have m1 : p * q = r := by rw [← hp, ← hq, ← hr, Jac.jz_mul _ _ HVa.out.1]
      have m2 : p * s = t := by rw [← hp, ← hs, ← ht, Jac.jz_below _ HVa.out.1 HVb.out.1]
      have b1 : p = 0 ∨ p = 1 ∨ p = -1 := hp ▸ Jac.jz_sq_le X1 Va
      have b2 : r = 0 ∨ r = 1 ∨ r = -1 := hr ▸ Jac.jz_sq_le (X1 * X2) Va
      have b3 : t = 0 ∨ t = 1 ∨ t = -1 := ht ▸ Jac.jz_sq_le X1 (Va * Vb)
      have e1 : IntKind.i64.wrap (p * q) = r := by rw [m1, IntKind.wrap_i64]; omega
      have e2 : IntKind.i64.wrap (p * s) = t := by rw [m2, IntKind.wrap_i64]; omega
      have e3 : IntKind.i64.wrap (p * p) ≤ 1 := by rcases b1 with h | h | h <;> rw [h] <;> decide
      obtain ⟨pp, hpp⟩ : ∃ pp, IntKind.i64.wrap (p * p) = pp := ⟨_, rfl⟩
      rw [hpp] at e3
      have e4 : decide (pp ≤ 1) = true := decide_eq_true e3
      clear hp hq hr hs ht m1 m2 b1 b2 b3 HPQ HRR HSS
      go_wp2_with fail
      go_ret
      exact ⟨rfl, H27.out⟩
end Go.Proofs.YtefeijofhocnpaaGreatDoor
