/- For the claim of laws.FnInverse: RowB. -/
import Derived.Test.YthkklkjldpcbkaaGreatDoorRows
import Derived.Test.YthkklkjldpcbkaaGreatDoorLiB4
import Derived.ProofKit
import Derived.LaidMore
import Derived.OpenShut
import Derived.OpenVars
import Derived.Lib.SmallJoins
import Derived.Stop.Joined
set_option linter.unusedVariables false
set_option linter.unusedSimpArgs false
namespace Go.Proofs.YthkklkjldpcbkaaGreatDoor
open Go.ChangeShapes Go.WideShapes Go.ChangeAt Go.RowKit
theorem prog_own : ownKnob Tryz.prog.godebug = none := by kernel_rfl
theorem prog_laidOut : laidOutB Tryz.prog = true := by kernel_rfl
theorem and_t {a b : Bool} (h : a = true) (k : b = true) : (a && b) = true := by rw [h, k]; rfl
theorem handed_shaped {H : Type} {enc : TypeId × Value -> H} {a : Assume} {C : Checked} {os : Os} {f : FuncId} {fn : Func} {s : ChangeSpec} {conds : List PathCond} {apart fresh handsOn again : Bool} {X : World -> Array Value -> Prop}
  (own : ownKnob C.prog.godebug = none) (started : os.Started) (noInit : C.prog.inits.idxOf? f = none) (hfn : C.prog.funcs[f]? = some fn)
  (witness : ∃ (w : World) (tape : Tape) (i : Input), w.os = os /\ (w.forCall tape i).Shaped C.prog /\ i.vars = [] /\ Input.okWide C.prog (w.forCall tape i) .any w.heap.size f i ∧
   ((s.pre enc C.prog fn conds apart (w.forCall tape i).memory i.args /\ X (w.forCall tape i).memory i.args) /\ sizedMet enc C.prog fn (OpenSpec.ofChange s) apart (w.forCall tape i).memory i.args) /\ a.holds C.prog (lone (Frame.enter C.prog f i.args .normal) [] (w.forCall tape i)))
  (contract : ∀ (W : World) (base : Nat) (args : Array Value) (ds gs : List (DataW H)) (before : List MemPlace),
   (∀ (j : Nat) t v, fn.params[j]? = some t -> args[j]? = some v -> Value.okWide C.prog W .any base t v) →
   DataW.Whole enc C.prog fn.params.toList s.vars apart W args.toList ds gs before →
   W.ShapedOpen C.prog -> X W.memory args →
   Calls C.prog f args W fun e W' => ∃ v, e = .returned v /\ s.post enc C.prog fn apart fresh handsOn again W args v W') :
  ReturnsInHanded a C os f .any (fun w args => (s.pre enc C.prog fn conds apart w args /\ X w args) /\ sizedMet enc C.prog fn (OpenSpec.ofChange s) apart w args) (s.post enc C.prog fn apart fresh handsOn again) := by
 refine returnsInHanded_of_calls own started noInit witness ?_
 intro w tape i _ hsh _ hok hpre _
 obtain ⟨_, _, _, fn', hfn', _, _, _, _, hval⟩ := hok
 have e : fn' = fn := Option.some.inj (hfn'.symm.trans hfn)
 subst e
 obtain ⟨⟨⟨ds, gs, before, hw, hc⟩, hx⟩, hz⟩ := hpre
 have hw' := DataW.Whole.of_heap (w' := w.forCall tape i) (by rfl) hw
 refine (contract (w.forCall tape i) w.heap.size i.args ds gs before hval hw' hsh hx).mono fun e W' ⟨v, he, hp⟩ => ?_
 subst he
 exact ChangeSpec.post_blind hp
theorem words_of {W : World} {x : Addr} {l : Nat} {zs : List Int} (hl : l <= zs.length) (hc : ∀ i, i < zs.length -> W.cell? (x.add i) = some (.int .u64 (zs.getD i 0))) (hw : ∀ n ∈ zs, (Lit.int .u64 n).wf = true) :
  ∃ xs : List Nat, xs.length = l /\ Digs B64 xs /\ RdU W (some x) xs := by
 refine ⟨(zs.take l).map Int.toNat, by simp [hl], ?_, ?_⟩
 .
  intro d hd
  obtain ⟨z, hz, rfl⟩ := List.mem_map.1 hd
  have := bounds_u64 (hw z (List.mem_of_mem_take hz))
  show z.toNat < 18446744073709551616
  omega
 .
  intro _
  refine ⟨x, rfl, fun i hi => ?_⟩
  have hi2 : i < zs.length := by simp at hi; omega
  have hb := bounds_u64 (hw zs[i] (List.getElem_mem hi2))
  have h1 := hc i hi2
  rw [h1]
  have e1 : zs.getD i 0 = zs[i] := by rw [List.getD_eq_getElem?_getD, List.getElem?_eq_getElem hi2]; rfl
  rw [e1, List.getElem_map, List.getElem_take, Int.toNat_of_nonneg hb.1]
set_option maxRecDepth 1000000 in
theorem open_number {H : Type} {enc : TypeId × Value -> H} {W : World} {b0 : Nat} {v : Value} {d : DataW H} {p : List MemPlace} (hv : Value.okWide Tryz.prog W .any b0 24 v) (h : DataW.Trod enc Tryz.prog W 0 (fun _ => true) true 24 v d p) :
  ∃ (n : Nat) (V : Int), NumR W v n V := by
 obtain ⟨v0, v1, y0, y1, n, rfl, rfl, rfl, k0, k1⟩ := Go.Joins.open_agg2 Tryz.underlying24 (by kernel_rfl) (by kernel_rfl) hv h
 obtain ⟨s, e0, _⟩ := DataW.trod_bool Tryz.underlying4 k0
 obtain rfl : v0 = .bool s := by simpa using e0
 rcases open_ints Tryz.underlying22 Tryz.underlying65 (by kernel_rfl) k1 with ⟨hcs, _⟩ | ⟨x, l, c, zs, hcs, _, hl, hm, hz, _, hcell, hwz⟩
 .
  obtain rfl : v1 = .slice none 0 0 := by simpa using hcs
  exact ⟨0, _, s, none, 0, [], rfl, rfl, Nat.le_refl _, by omega, Digs.nil, fun h => absurd h (by simp), rfl⟩
 .
  obtain rfl : v1 = .slice (some x) l c := by simpa using hcs
  have hz' : zs.length = c := by simpa using hz
  obtain ⟨xs, x1, x2, x3⟩ := words_of (l := l) (by omega) hcell hwz
  have hmx : c <= 9223372036854775807 := hm
  exact ⟨l, _, s, some x, c, xs, rfl, x1, hl, by omega, x2, x3, rfl⟩
theorem trodVars_len {W : World} {H : Type} {enc : TypeId × Value -> H} : ∀ {vars : List String} {gs : List (DataW H)} {q : List MemPlace}, DataW.TrodVars enc Tryz.prog W (fun _ => true) vars gs q -> gs.length = vars.length
 | [], [], _, _ => rfl
 | [], _ :: _, _, hV => hV.elim
 | _ :: _, [], _, hV => hV.elim
 | n :: ns, d :: ds, q, hV => by
  obtain ⟨_, _, _, _, _, q', _, _, _, _, hV', _⟩ := hV
  simp [trodVars_len hV']
theorem seven_of {α : Type} {gs : List α} (h : gs.length = 7) : ∃ g1 g2 g3 g4 g5 g6 g7, gs = [g1, g2, g3, g4, g5, g6, g7] := by
 match gs, h with
 | [g1, g2, g3, g4, g5, g6, g7], _ => exact ⟨g1, g2, g3, g4, g5, g6, g7, rfl⟩
end Go.Proofs.YthkklkjldpcbkaaGreatDoor
