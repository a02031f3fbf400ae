/- Contracts over the program, for the claim of laws.FnMul: Row. -/
import Derived.Test.YtojfpehnclnbgaaGreatDoorRows
import Derived.Test.YtojfpehnclnbgaaGreatDoorB4
import Derived.ProofKit
import Derived.LaidMore
import Derived.OpenShut
import Derived.OpenVars
import Derived.Lib.SmallJoins
import Derived.Stop.Joined
set_option linter.unusedVariables false
set_option linter.unusedSimpArgs false
/- The row of laws.FnMul. -/
namespace Go.Proofs.YtojfpehnclnbgaaGreatDoor
open Go.ChangeShapes Go.WideShapes Go.ChangeAt Go.RowKit

theorem fnMul_own : ownKnob Tryz.prog.godebug = none := by kernel_rfl
theorem fnMul_laidOut : laidOutB Tryz.prog = true := by kernel_rfl

/-- The door of a law whose walk wants the blocks of the package's variables as the program lays them. -/
theorem handed_shaped {H : Type} {enc : TypeId × Value → H} {a : Assume} {C : Checked} {os : Os} {f : FuncId} {fn : Func} {s : ChangeSpec} {conds : List PathCond} {apart fresh handsOn again : Bool} {X : World → Array Value → Prop}
    (own : ownKnob C.prog.godebug = none) (started : os.Started) (noInit : C.prog.inits.idxOf? f = none) (hfn : C.prog.funcs[f]? = some fn)
    (witness : ∃ (w : World) (tape : Tape) (i : Input), w.os = os ∧ (w.forCall tape i).Shaped C.prog ∧ i.vars = [] ∧ Input.okWide C.prog (w.forCall tape i) .any w.heap.size f i ∧
      ((s.pre enc C.prog fn conds apart (w.forCall tape i).memory i.args ∧ X (w.forCall tape i).memory i.args) ∧ sizedMet enc C.prog fn (OpenSpec.ofChange s) apart (w.forCall tape i).memory i.args) ∧ a.holds C.prog (lone (Frame.enter C.prog f i.args .normal) [] (w.forCall tape i)))
    (contract : ∀ (W : World) (base : Nat) (args : Array Value) (ds gs : List (DataW H)) (before : List MemPlace),
      (∀ (j : Nat) t v, fn.params[j]? = some t → args[j]? = some v → Value.okWide C.prog W .any base t v) →
      DataW.Whole enc C.prog fn.params.toList s.vars apart W args.toList ds gs before →
      W.ShapedOpen C.prog →
      Calls C.prog f args W fun e W' => ∃ v, e = .returned v ∧ s.post enc C.prog fn apart fresh handsOn again W args v W') :
    ReturnsInHanded a C os f .any (fun w args => (s.pre enc C.prog fn conds apart w args ∧ X w args) ∧ sizedMet enc C.prog fn (OpenSpec.ofChange s) apart w args) (s.post enc C.prog fn apart fresh handsOn again) := by
  refine returnsInHanded_of_calls own started noInit witness ?_
  intro w tape i _ hsh _ hok hpre _
  obtain ⟨_, _, _, fn', hfn', _, _, _, _, hval⟩ := hok
  have e : fn' = fn := Option.some.inj (hfn'.symm.trans hfn)
  subst e
  obtain ⟨⟨⟨ds, gs, before, hw, hc⟩, hx⟩, hz⟩ := hpre
  have hw' := DataW.Whole.of_heap (w' := w.forCall tape i) (by rfl) hw
  refine (contract (w.forCall tape i) w.heap.size i.args ds gs before hval hw' hsh).mono fun e W' ⟨v, he, hp⟩ => ?_
  subst he
  exact ChangeSpec.post_blind hp

/-- the words of an argument -/
theorem words_of {W : World} {x : Addr} {l : Nat} {zs : List Int} (hl : l ≤ zs.length) (hc : ∀ i, i < zs.length → W.cell? (x.add i) = some (.int .u64 (zs.getD i 0))) (hw : ∀ n ∈ zs, (Lit.int .u64 n).wf = true) :
    ∃ xs : List Nat, xs.length = l ∧ Digs B64 xs ∧ RdU W (some x) xs := by
  refine ⟨(zs.take l).map Int.toNat, by simp [hl], ?_, ?_⟩
  · intro d hd
    obtain ⟨z, hz, rfl⟩ := List.mem_map.1 hd
    have := bounds_u64 (hw z (List.mem_of_mem_take hz))
    show z.toNat < 18446744073709551616
    omega
  · intro _
    refine ⟨x, rfl, fun i hi => ?_⟩
    have hi2 : i < zs.length := by simp at hi; omega
    have hb := bounds_u64 (hw zs[i] (List.getElem_mem hi2))
    have h1 := hc i hi2
    rw [h1]
    have e1 : zs.getD i 0 = zs[i] := by rw [List.getD_eq_getElem?_getD, List.getElem?_eq_getElem hi2]; rfl
    rw [e1, List.getElem_map, List.getElem_take, Int.toNat_of_nonneg hb.1]

set_option maxRecDepth 1000000 in
/-- an argument opened -/
theorem open_number {H : Type} {enc : TypeId × Value → H} {W : World} {b0 : Nat} {v : Value} {d : DataW H} {p : List MemPlace} (hv : Value.okWide Tryz.prog W .any b0 24 v) (h : DataW.Trod enc Tryz.prog W 0 (fun _ => true) true 24 v d p) :
    ∃ (s : Bool) (A : Option Addr) (n c : Nat) (xs : List Nat), v = .agg #[.bool s, .slice A n c] ∧ xs.length = n ∧ n ≤ c ∧ n ≤ 9223372036854775807 ∧ Digs B64 xs ∧ RdU W A xs := by
  obtain ⟨v0, v1, y0, y1, n, rfl, rfl, rfl, k0, k1⟩ := Go.Joins.open_agg2 Tryz.underlying24 (by kernel_rfl) (by kernel_rfl) hv h
  obtain ⟨s, e0, _⟩ := DataW.trod_bool Tryz.underlying4 k0
  obtain rfl : v0 = .bool s := by simpa using e0
  rcases open_ints Tryz.underlying22 Tryz.underlying41 (by kernel_rfl) k1 with ⟨hcs, _⟩ | ⟨x, l, c, zs, hcs, _, hl, hm, hz, _, hcell, hwz⟩
  · obtain rfl : v1 = .slice none 0 0 := by simpa using hcs
    exact ⟨s, none, 0, 0, [], rfl, rfl, Nat.le_refl _, by omega, Digs.nil, fun h => absurd h (by simp)⟩
  · obtain rfl : v1 = .slice (some x) l c := by simpa using hcs
    have hz' : zs.length = c := by simpa using hz
    obtain ⟨xs, x1, x2, x3⟩ := words_of (l := l) (by omega) hcell hwz
    have hmx : c ≤ 9223372036854775807 := hm
    exact ⟨s, some x, l, c, xs, rfl, x1, hl, by omega, x2, x3⟩

/-- the threshold, whatever it is -/
theorem thr_of {W : World} (hs : W.ShapedOpen Tryz.prog) {H : Type} {enc : TypeId × Value → H} {gs : List (DataW H)} {q : List MemPlace} (hV : DataW.TrodVars enc Tryz.prog W (fun _ => true) Rows.fnMulSpec.vars gs q) : ∃ T, Thr W T := by
  obtain ⟨cs, h1, h2, h3⟩ := hs.1 2 #[.int .i64 0] 3 (of_decide_eq_true (by kernel_rfl)) (by kernel_rfl)
  rcases gs with _ | ⟨g1, gs⟩
  · exact hV.elim
  obtain ⟨_, _, _, _, _, _, _, _, _, _, hV, _⟩ := hV
  rcases gs with _ | ⟨g1, gs⟩
  · exact hV.elim
  obtain ⟨_, _, _, _, _, _, _, _, _, _, hV, _⟩ := hV
  rcases gs with _ | ⟨g1, gs⟩
  · exact hV.elim
  obtain ⟨_, _, _, _, _, _, _, _, _, _, hV, _⟩ := hV
  rcases gs with _ | ⟨g1, gs⟩
  · exact hV.elim
  obtain ⟨_, _, _, _, _, _, _, _, _, _, hV, _⟩ := hV
  rcases gs with _ | ⟨g1, gs⟩
  · exact hV.elim
  obtain ⟨g, t, cs', fuel, p, q', e1, e2, e3, e4, _, _⟩ := hV
  obtain rfl : g = 2 := Option.some.inj (e1.symm.trans (by kernel_rfl))
  obtain rfl : t = 3 := Option.some.inj (e2.symm.trans (by kernel_rfl))
  have e5 : cs' = cs := by
    unfold World.var? at e3
    rw [e1] at e3
    simp only [Option.bind_some, h1] at e3
    exact (Option.some.inj e3).symm
  subst e5
  obtain ⟨T, k1, _⟩ := DataW.trod_int Tryz.underlying3 e4
  refine ⟨T, cs', h1, ?_⟩
  rw [← Array.getElem?_toList, k1]; rfl

theorem seven_of {W : World} {H : Type} {enc : TypeId × Value → H} {gs : List (DataW H)} {q : List MemPlace} (hV : DataW.TrodVars enc Tryz.prog W (fun _ => true) Rows.fnMulSpec.vars gs q) : ∃ g1 g2 g3 g4 g5 g6 g7, gs = [g1, g2, g3, g4, g5, g6, g7] := by
  rcases gs with _ | ⟨g1, gs⟩
  · exact hV.elim
  obtain ⟨_, _, _, _, _, _, _, _, _, _, hV, _⟩ := hV
  rcases gs with _ | ⟨g2, gs⟩
  · exact hV.elim
  obtain ⟨_, _, _, _, _, _, _, _, _, _, hV, _⟩ := hV
  rcases gs with _ | ⟨g3, gs⟩
  · exact hV.elim
  obtain ⟨_, _, _, _, _, _, _, _, _, _, hV, _⟩ := hV
  rcases gs with _ | ⟨g4, gs⟩
  · exact hV.elim
  obtain ⟨_, _, _, _, _, _, _, _, _, _, hV, _⟩ := hV
  rcases gs with _ | ⟨g5, gs⟩
  · exact hV.elim
  obtain ⟨_, _, _, _, _, _, _, _, _, _, hV, _⟩ := hV
  rcases gs with _ | ⟨g6, gs⟩
  · exact hV.elim
  obtain ⟨_, _, _, _, _, _, _, _, _, _, hV, _⟩ := hV
  rcases gs with _ | ⟨g7, gs⟩
  · exact hV.elim
  obtain ⟨_, _, _, _, _, _, _, _, _, _, hV, _⟩ := hV
  rcases gs with _ | ⟨g8, gs⟩
  · exact ⟨g1, g2, g3, g4, g5, g6, g7, rfl⟩
  · exact hV.elim

theorem fnMul_door (os : Os) (args : Array Value) : laidMetH Tryz.prog Rows.fnMulRow.laid ((World.doorLaid Tryz.prog 4000 os).forCall (fun _ _ => 0) ⟨#[], args, []⟩).memory :=
  laidMetH_of_parts3 (fuel := 8) (laidMet_of_run' 8 (by kernel_rfl) (by kernel_rfl)) (by kernel_rfl) (by kernel_rfl)

set_option maxRecDepth 100000 in
theorem fnMul_lifted (os : Os) (started : os.Started) (H : Type) (enc : TypeId × Value → H) :
    ReturnsInHanded {} Tryz.checked os 3 .any (fun w args => (Rows.fnMulSpec.pre enc Tryz.prog Tryz.f3 Rows.fnMulRow.domain false w args ∧ laidMetH Tryz.prog Rows.fnMulRow.laid w) ∧ sizedMet enc Tryz.prog Tryz.f3 (OpenSpec.ofChange Rows.fnMulSpec) false w args)
      (Rows.fnMulSpec.post enc Tryz.prog Tryz.f3 false true false false) := by
  refine handed_shaped (C := Tryz.checked) (X := fun w _ => laidMetH Tryz.prog Rows.fnMulRow.laid w) fnMul_own started (by kernel_rfl) Tryz.func3
    (ChangeSpec.witness_shaped (enc := enc) (C := Tryz.checked) (os := os) (X := fun w _ => laidMetH Tryz.prog Rows.fnMulRow.laid w) false (World.doorLaid Tryz.prog 4000 os) #[.agg #[.bool false, .slice none 0 0], .agg #[.bool false, .slice none 0 0]] 8 rfl (World.shaped_of_RefB (by kernel_rfl) (by kernel_rfl)) (by kernel_rfl) (by kernel_rfl) (by kernel_rfl) (fnMul_door os _)) ?_
  intro W base args ds gs before hval0 hW hsh0
  have hsh : W.ShapedOpen Tryz.prog := hsh0
  have hval : ∀ (j : Nat) t v, Tryz.f3.params[j]? = some t → args[j]? = some v → Value.okWide Tryz.prog W .any base t v := hval0
  have hW' := hW
  obtain ⟨p, q, hA0, hV0, rfl, hfz, hnd⟩ := hW
  have hA : DataW.TrodAll enc Tryz.prog W 0 (fun _ => true) true Tryz.f3.params.toList args.toList ds p := hA0
  have hV : DataW.TrodVars enc Tryz.prog W (fun _ => true) Rows.fnMulSpec.vars gs q := hV0
  rw [Tryz.params3] at hA hval
  obtain ⟨v0, v1, d0, d1, p0, p1, rfl, rfl, rfl, h0, h1⟩ := trodAll_two hA
  have lt0 : ∀ x ∈ p0, x.block < W.heap.size := by obtain ⟨m, hm⟩ := h0; exact DataW.trod_lt m _ _ _ hm
  have lt1 : ∀ x ∈ p1, x.block < W.heap.size := by obtain ⟨m, hm⟩ := h1; exact DataW.trod_lt m _ _ _ hm
  obtain ⟨T, hT⟩ := thr_of hsh hV
  obtain ⟨s0, A0, n0, c0, xs, e0, x1, x2, x3, x4, x5⟩ := open_number (hval 0 24 v0 rfl rfl) h0
  obtain ⟨s1, A1, n1, c1, ys, e1, y1, y2, y3, y4, y5⟩ := open_number (hval 1 24 v1 rfl rfl) h1
  subst e0
  subst e1
  clear hA0 hval0 hV0 hsh0
  refine (FnMul_any T s0 s1 A0 A1 n0 n1 c0 c1 xs ys W hT x1 y1 x2 y2 x3 y3 x4 y4 x5 y5).mono fun e W' ⟨he, u⟩ => ?_
  subst he
  have bel : Below W.heap.size W W' := u.below _ (Nat.le_refl _) (fun _ _ _ h => h)
  obtain ⟨g1, g2, g3, g4, g5, g6, g7, rfl⟩ := seven_of hV
  have TV := Below.trodVars fnMul_laidOut bel (by kernel_rfl) hV
  exact ⟨_, rfl, _, _, _, [], _, _, hW', trodAll_mk1 (shut_bool Tryz.underlying4 _), trodAll_cons_mk (Below.trod fnMul_laidOut (by kernel_rfl) (of_decide_eq_true (by kernel_rfl)) h0 bel lt0) (trodAll_cons_mk (Below.trod fnMul_laidOut (by kernel_rfl) (of_decide_eq_true (by kernel_rfl)) h1 bel lt1) trodAll_mk0), TV, bel.frame _, fun h => by cases h⟩

theorem fnMul_holds : Rows.FnMulSaid :=
  OpenClaim.holds_of_wide 3 Tryz.f3 rfl rfl rfl rfl rfl rfl rfl ⟨rfl, rfl, rfl, rfl, rfl⟩ rfl rfl rfl rfl rfl (by kernel_rfl) Tryz.func3 (by kernel_rfl)
    (of_decide_eq_true (by kernel_rfl)) (by unfold Func.isWrapper; first | (rw [if_pos (by decide +kernel)]; kernel_rfl) | (rw [if_neg (by decide +kernel)]; exact ⟨rfl, rfl⟩))
    (fun os started H enc _ => fnMul_lifted os started H enc)
#print axioms fnMul_holds
end Go.Proofs.YtojfpehnclnbgaaGreatDoor
