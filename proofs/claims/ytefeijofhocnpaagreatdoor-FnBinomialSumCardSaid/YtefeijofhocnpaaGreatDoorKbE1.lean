/- For the claim of laws.FnBinomial and FnBinomialSum: RowB, RowD. -/
import Derived.Test.YtefeijofhocnpaaGreatDoorRows
import Derived.Test.YtefeijofhocnpaaGreatDoorKbB5
import Derived.ProofKit
import Derived.LaidMore
import Derived.OpenShut
import Derived.OpenVars
import Derived.Lib.SmallJoins
import Derived.Stop.Joined
import Derived.Test.YtefeijofhocnpaaGreatDoorKbD4
import Derived.ChangeArms
import Derived.ChangeSame
set_option linter.unusedVariables false
set_option linter.unusedSimpArgs false
namespace Go.Proofs.YtefeijofhocnpaaGreatDoor
open Go.ChangeShapes Go.WideShapes Go.ChangeAt Go.RowKit
theorem prog_own : ownKnob Tryz.prog.godebug = none := by kernel_rfl
theorem prog_laidOut : laidOutB Tryz.prog = true := by kernel_rfl
theorem and_t {a b : Bool} (h : a = true) (k : b = true) : (a && b) = true := by rw [h, k]; rfl
theorem handed_shaped {H : Type} {enc : TypeId × Value → H} {a : Assume} {C : Checked} {os : Os} {f : FuncId} {fn : Func} {s : ChangeSpec} {conds : List PathCond} {apart fresh handsOn again : Bool} {X : World → Array Value → Prop}
    (own : ownKnob C.prog.godebug = none) (started : os.Started) (noInit : C.prog.inits.idxOf? f = none) (hfn : C.prog.funcs[f]? = some fn)
    (witness : ∃ (w : World) (tape : Tape) (i : Input), w.os = os ∧ (w.forCall tape i).Shaped C.prog ∧ i.vars = [] ∧ Input.okWide C.prog (w.forCall tape i) .any w.heap.size f i ∧
      ((s.pre enc C.prog fn conds apart (w.forCall tape i).memory i.args ∧ X (w.forCall tape i).memory i.args) ∧ sizedMet enc C.prog fn (OpenSpec.ofChange s) apart (w.forCall tape i).memory i.args) ∧ a.holds C.prog (lone (Frame.enter C.prog f i.args .normal) [] (w.forCall tape i)))
    (contract : ∀ (W : World) (base : Nat) (args : Array Value) (ds gs : List (DataW H)) (before : List MemPlace),
      (∀ (j : Nat) t v, fn.params[j]? = some t → args[j]? = some v → Value.okWide C.prog W .any base t v) →
      DataW.Whole enc C.prog fn.params.toList s.vars apart W args.toList ds gs before →
      W.ShapedOpen C.prog → X W.memory args →
      Calls C.prog f args W fun e W' => ∃ v, e = .returned v ∧ s.post enc C.prog fn apart fresh handsOn again W args v W') :
    ReturnsInHanded a C os f .any (fun w args => (s.pre enc C.prog fn conds apart w args ∧ X w args) ∧ sizedMet enc C.prog fn (OpenSpec.ofChange s) apart w args) (s.post enc C.prog fn apart fresh handsOn again) := by
  refine returnsInHanded_of_calls own started noInit witness ?_
  intro w tape i _ hsh _ hok hpre _
  obtain ⟨_, _, _, fn', hfn', _, _, _, _, hval⟩ := hok
  have e : fn' = fn := Option.some.inj (hfn'.symm.trans hfn)
  subst e
  obtain ⟨⟨⟨ds, gs, before, hw, hc⟩, hx⟩, hz⟩ := hpre
  have hw' := DataW.Whole.of_heap (w' := w.forCall tape i) (by rfl) hw
  refine (contract (w.forCall tape i) w.heap.size i.args ds gs before hval hw' hsh hx).mono fun e W' ⟨v, he, hp⟩ => ?_
  subst he
  exact ChangeSpec.post_blind hp
theorem trodVars_at {W : World} {H : Type} {enc : TypeId × Value → H} {nm : String} : ∀ {vars : List String} {gs : List (DataW H)} {q : List MemPlace} {i : Nat}, DataW.TrodVars enc Tryz.prog W (fun _ => true) vars gs q → vars[i]? = some nm →
    ∃ g t cs fuel d p, Tryz.prog.globalNamed nm = some g ∧ (Tryz.prog.globals[g]?).map (·.type) = some t ∧ W.var? Tryz.prog nm = some cs ∧ DataW.trod enc Tryz.prog W 0 (fun _ => true) true fuel t cs.toList = some (d, p) ∧ gs[i]? = some d
  | [], _, _, _, _, h => by simp at h
  | n :: ns, [], _, _, hV, _ => hV.elim
  | n :: ns, d :: ds, q, 0, hV, h => by
    obtain ⟨g, t, cs, fuel, p, q', e1, e2, e3, e4, _, _⟩ := hV
    obtain rfl : n = nm := by simpa using h
    exact ⟨g, t, cs, fuel, d, p, e1, e2, e3, e4, rfl⟩
  | n :: ns, d :: ds, q, i + 1, hV, h => by
    obtain ⟨_, _, _, _, _, q', _, _, _, _, hV', _⟩ := hV
    obtain ⟨g, t, cs, fuel, d', p, h1, h2, h3, h4, h5⟩ := trodVars_at (i := i) hV' (by simpa using h)
    exact ⟨g, t, cs, fuel, d', p, h1, h2, h3, h4, by simpa using h5⟩
theorem trodVars_len {W : World} {H : Type} {enc : TypeId × Value → H} : ∀ {vars : List String} {gs : List (DataW H)} {q : List MemPlace}, DataW.TrodVars enc Tryz.prog W (fun _ => true) vars gs q → gs.length = vars.length
  | [], [], _, _ => rfl
  | [], _ :: _, _, hV => hV.elim
  | _ :: _, [], _, hV => hV.elim
  | n :: ns, d :: ds, q, hV => by
    obtain ⟨_, _, _, _, _, q', _, _, _, _, hV', _⟩ := hV
    simp [trodVars_len hV']
theorem seven_of {α : Type} {gs : List α} (h : gs.length = 7) : ∃ g1 g2 g3 g4 g5 g6 g7, gs = [g1, g2, g3, g4, g5, g6, g7] := by
  match gs, h with
  | [g1, g2, g3, g4, g5, g6, g7], _ => exact ⟨g1, g2, g3, g4, g5, g6, g7, rfl⟩
theorem int_var {W : World} {H : Type} {enc : TypeId × Value → H} {vars : List String} {gs : List (DataW H)} {q : List MemPlace} {nm : String} {v i : Nat} (hV : DataW.TrodVars enc Tryz.prog W (fun _ => true) vars gs q) (h : vars[i]? = some nm)
    (hn : Tryz.prog.globalNamed nm = some v) (ht : (Tryz.prog.globals[v]?).map (·.type) = some 3)
    (hsh : ∃ cs, W.heap[v]? = some (.cells cs 3 (0, 0)) ∧ cs.size = 1) : ∃ T, CellT 3 W v 0 (.int .i64 T) := by
  obtain ⟨g, t, cs', fuel, d, p, e1, e2, e3, e4, _⟩ := trodVars_at hV h
  obtain rfl : g = v := Option.some.inj (e1.symm.trans hn)
  obtain rfl : t = 3 := Option.some.inj (e2.symm.trans ht)
  obtain ⟨cs, h1, h2⟩ := hsh
  have e5 : cs' = cs := by
    unfold World.var? at e3
    rw [e1] at e3
    simp only [Option.bind_some, h1] at e3
    exact (Option.some.inj e3).symm
  subst e5
  obtain ⟨T, k1, _⟩ := DataW.trod_int Tryz.underlying3 e4
  refine ⟨T, cs', h1, ?_⟩
  rw [← Array.getElem?_toList, k1]; rfl
theorem thr_of {W : World} (hs : W.ShapedOpen Tryz.prog) {H : Type} {enc : TypeId × Value → H} {vars : List String} {gs : List (DataW H)} {q : List MemPlace} {i : Nat} (hV : DataW.TrodVars enc Tryz.prog W (fun _ => true) vars gs q) (h : vars[i]? = some "loop.example/pub-g03125/pub/big.karatsubaThreshold") : ∃ T, Thr W T := by
  obtain ⟨cs, h1, h2, _⟩ := hs.1 2 #[.int .i64 0] 3 (of_decide_eq_true (by kernel_rfl)) (by kernel_rfl)
  exact int_var hV h (by kernel_rfl) (by kernel_rfl) ⟨cs, h1, by simpa using h2⟩
end Go.Proofs.YtefeijofhocnpaaGreatDoor
namespace Go.Proofs.YtefeijofhocnpaaGreatDoor
open Go.ChangeShapes Go.WideShapes Go.ChangeAt Go.RowKit
theorem laid_at {W : World} {n : String} {d : DataW Unit} : ∀ {laid : List (String × DataW Unit)} {ps : List MemPlace}, DataW.LaidVars Tryz.prog W laid ps → (n, d) ∈ laid →
    ∃ g t cs fuel p, Tryz.prog.globalNamed n = some g ∧ (Tryz.prog.globals[g]?).map (·.type) = some t ∧ W.var? Tryz.prog n = some cs ∧ DataW.trod (fun _ => ()) Tryz.prog W 0 (fun _ => true) false fuel t cs.toList = some (d, p) ∧ ∀ x ∈ p, x ∈ ps
  | [], _, _, h => by cases h
  | (m, e) :: r, ps, hL, h => by
    obtain ⟨g, t, cs, fuel, p, q, e1, e2, e3, e4, e5, rfl⟩ := hL
    rcases List.mem_cons.1 h with h | h
    · cases h
      exact ⟨g, t, cs, fuel, p, e1, e2, e3, e4, fun x hx => by simp [hx]⟩
    · obtain ⟨g', t', cs', fuel', p', f1, f2, f3, f4, f5⟩ := laid_at e5 h
      exact ⟨g', t', cs', fuel', p', f1, f2, f3, f4, fun x hx => by simp [f5 x hx]⟩
theorem cells_one {W : World} {a : Addr} {cs : List Value} (h : W.cells? 0 a 1 = some cs) : ∃ v, cs = [v] ∧ W.cell? a = some v := by
  unfold World.cells? at h
  rw [if_pos (Nat.zero_le _)] at h
  have e0 : a.add 0 = a := by simp [Addr.add]
  simp only [List.range_succ, List.range_zero, List.nil_append, List.mapM_cons, List.mapM_nil, e0] at h
  cases hc : W.cell? a with
  | none => simp [hc] at h
  | some v => simp [hc] at h; exact ⟨v, h.symm, rfl⟩
theorem cells_two {W : World} {a : Addr} {cs : List Value} (h : W.cells? 0 a 2 = some cs) : ∃ v u, cs = [v, u] ∧ W.cell? a = some v ∧ W.cell? (a.add 1) = some u := by
  unfold World.cells? at h
  rw [if_pos (Nat.zero_le _)] at h
  have e0 : a.add 0 = a := by simp [Addr.add]
  simp only [List.range_succ, List.range_zero, List.nil_append, List.cons_append, List.mapM_cons, List.mapM_nil, e0] at h
  cases hc : W.cell? a with
  | none => simp [hc] at h
  | some v =>
    cases hc2 : W.cell? (a.add 1) with
    | none => simp [hc, hc2] at h
    | some u => simp [hc, hc2] at h; exact ⟨v, u, h.symm, rfl, rfl⟩
theorem cell_spot {W : World} {a : Addr} {v : Value} (h : W.cell? a = some v) : a = ⟨a.block, a.off, none⟩ := by
  obtain ⟨b, o, s⟩ := a
  cases s with
  | none => rfl
  | some k =>
    exfalso
    unfold World.cell? at h
    simp only [Option.isSome_some, if_true] at h
    split at h <;> cases h
theorem cellR_of {W : World} {b o : Nat} {v : Value} (hf : Free W b) (h : W.cell? ⟨b, o, none⟩ = some v) : CellR W b o v := by
  obtain ⟨c, e, hc⟩ := hf
  refine ⟨e, c, hc, ?_⟩
  unfold World.cell? at h
  rw [hc] at h
  simpa using h
set_option maxRecDepth 100000 in
theorem one_word {W : World} {fuel : Nat} {c : Value} {p ps : List MemPlace} (h : DataW.trod (fun _ => ()) Tryz.prog W 0 (fun _ => true) false fuel 78 [c] = some (.slice [.lit (.int .u64 1)] [], p)) (hp : ∀ x ∈ p, x ∈ ps)
    (hfz : ∀ b off, MemPlace.cell b off ∈ ps → ∃ c t, W.heap[b]? = some (.cells c t (0, 0))) : ∃ l : Loc, c = .slice l.A 1 l.c ∧ NatR W l 1 := by
  rcases DataW.trod_slice Tryz.underlying78 h with ⟨_, hx⟩ | ⟨x, len, cap, elems, rest, n, _, hcs, hx, _, hl, hmx, hlen, hel, hsp, _⟩
  · simp at hx
  have hc1 : Tryz.prog.cellsOf 102 = 1 := by kernel_rfl
  simp only [Prod.mk.injEq, DataW.slice.injEq] at hx
  obtain ⟨⟨e1, e2⟩, e3⟩ := hx
  have hr : rest = [] := by simpa using e2.symm
  obtain ⟨hr1, _⟩ := hsp rfl
  subst hr
  have hcap : cap = len := by simp at hr1; omega
  have hl1 : elems.length = 1 := by have := congrArg List.length e1; simpa using this.symm
  obtain ⟨y, rfl⟩ := List.length_eq_one_iff.1 hl1
  simp only [List.map_cons, List.map_nil, List.cons.injEq, and_true] at e1
  simp only [List.length_cons, List.length_nil] at hlen
  subst hlen
  have h0 := hel 0 (by omega)
  rw [hc1] at h0
  simp only [Nat.zero_mul, List.getElem?_cons_zero, Option.bind_eq_some_iff] at h0
  have ex0 : x.add 0 = x := by simp [Addr.add]
  rw [ex0] at h0
  obtain ⟨cs1, h1, h2⟩ := h0
  obtain ⟨v, rfl, hv⟩ := cells_one h1
  obtain ⟨m, h3, h4, _⟩ := DataW.trod_int Tryz.underlying102 h2
  have hy : y = (.lit (.int .u64 1), y.2) := by rw [e1]
  rw [h4] at hy
  have hm : m = 1 := by simpa using hy
  subst hm
  obtain rfl : v = .int .u64 1 := by simpa using h3
  have es := cell_spot hv
  have hfree : Free W x.block := by
    refine hfz x.block x.off (hp _ ?_)
    rw [e3, hc1]
    simp [MemPlace.row]
  have ed : digs 1 = [1] := digs_small (by decide) (by decide)
  refine ⟨⟨some x, 1, x.block, x.off⟩, by simpa [hcap] using hcs, ?_⟩
  show VecR W _ (digs 1)
  rw [ed]
  refine ⟨fun _ => by simp only; rw [← es], Nat.le_refl _, fun i hi => ?_, Digs.cons (by decide) Digs.nil⟩
  have : i = 0 := by simpa using hi
  subst this
  simp only [Nat.add_zero, List.getElem_cons_zero]
  exact cellR_of hfree (es ▸ hv)
theorem laid_plain {W : World} {laid : List (String × DataW Unit)} (h : laidMetH Tryz.prog laid W) (hn : laid.filter (fun x => x.2.handleName?.isSome) = []) : laidMet Tryz.prog laid W := by
  unfold laidMetH at h
  rw [hn] at h
  exact h
theorem var_cell {W : World} (hs : W.ShapedOpen Tryz.prog) {n : String} {g : Nat} {t : TypeId} {z cs : Array Value} {c : Value} (hg : Tryz.prog.globalNamed n = some g) (hlt : g < Tryz.prog.globals.size) (hz : (((begin Tryz.prog (fun _ _ => 0) default).world).heap[g]?).bind Obj.row? = some (z, t))
    (hv : W.var? Tryz.prog n = some cs) (hc : cs.toList = [c]) : CellT t W g 0 c := by
  obtain ⟨cs', h1, h2, _⟩ := hs.1 g z t hlt hz
  have e5 : cs = cs' := by
    unfold World.var? at hv
    rw [hg] at hv
    simp only [Option.bind_some, h1] at hv
    exact (Option.some.inj hv).symm
  subst e5
  refine ⟨cs, h1, ?_⟩
  rw [← Array.getElem?_toList, hc]; rfl
set_option maxRecDepth 100000 in
theorem oneI_of {W : World} (hs : W.ShapedOpen Tryz.prog) {laid : List (String × DataW Unit)} (h : laidMetH Tryz.prog laid W.memory) (hn : laid.filter (fun x => x.2.handleName?.isSome) = [])
    (hm : ("loop.example/pub-g03125/pub/big.intOne", DataW.ptr (.agg [.lit (.bool false), .slice [.lit (.int .u64 1)] []])) ∈ laid) : OneI W := by
  obtain ⟨ps, hL, _, hfz0⟩ := laid_plain h hn
  have hfz : ∀ b off, MemPlace.cell b off ∈ ps → ∃ c t, W.heap[b]? = some (.cells c t (0, 0)) := fun b off hb => (hfz0 b off hb).1
  obtain ⟨g, t, cs, fuel, p, e1, e2, e3, e4, e5⟩ := laid_at hL hm
  obtain rfl : 0 = g := Option.some.inj ((show Tryz.prog.globalNamed "loop.example/pub-g03125/pub/big.intOne" = some 0 by kernel_rfl).symm.trans e1)
  obtain rfl : 76 = t := Option.some.inj ((show (Tryz.prog.globals[0]?).map (·.type) = some 76 by kernel_rfl).symm.trans e2)
  rcases DataW.trod_pointer Tryz.underlying76 e4 with ⟨_, hx⟩ | ⟨a, cs', y, n, _, hcs, hx, hc2, hy⟩
  · simp at hx
  have hsz : Tryz.prog.cellsOf 80 = 2 := by kernel_rfl
  rw [hsz] at hc2
  obtain ⟨c0, c1, rfl, k0, k1⟩ := cells_two hc2
  simp only [Prod.mk.injEq, DataW.ptr.injEq] at hx
  obtain ⟨hy1, hpl⟩ := hx
  obtain ⟨y0, y1, m, hya, _, f0, f1⟩ := trod_struct2 Tryz.underlying80 hy
  have s0 : Tryz.prog.cellsOf 4 = 1 := by kernel_rfl
  have s1 : Tryz.prog.cellsOf 78 = 1 := by kernel_rfl
  simp only [s0, s1, List.drop_zero, List.take_succ_cons, List.take_zero, List.drop_succ_cons] at f0 f1
  obtain ⟨bv, g0, g1⟩ := DataW.trod_bool Tryz.underlying4 f0
  rw [hya] at hy1
  simp only [DataW.agg.injEq, List.cons.injEq, and_true] at hy1
  obtain ⟨hy0, hy1⟩ := hy1
  rw [g1] at hy0
  have hb : bv = false := by simpa using hy0.symm
  subst hb
  obtain rfl : c0 = .bool false := by simpa using g0
  have hy1' : y1 = (.slice [.lit (.int .u64 1)] [], y1.2) := by rw [hy1]
  rw [hy1'] at f1
  obtain ⟨l, rfl, hN⟩ := one_word (W := W.memory) (ps := ps) f1 (fun x hx => e5 _ (by rw [hpl, hya]; simp [hx])) hfz
  have hN : NatR W l 1 := ⟨hN.addr, hN.le, hN.at_, hN.dig⟩
  have es := cell_spot k0
  have hfree : Free W a.block := hfz a.block a.off (e5 _ (by rw [hpl, hsz]; simp [MemPlace.row]))
  have hvar : W.var? Tryz.prog "loop.example/pub-g03125/pub/big.intOne" = some cs := e3
  have hcell := var_cell hs e1 (of_decide_eq_true (by kernel_rfl)) (z := #[.pointer none]) (t := 76) (by kernel_rfl) hvar hcs
  have ed : digs (1 : Int).natAbs = [1] := digs_small (by decide) (by decide)
  refine ⟨a.block, a.off, l, es ▸ hcell, ⟨hfree, es ▸ k0, ?_, hN⟩⟩
  rw [ed]
  have k1' : W.cell? (a.add 1) = some (.slice l.A 1 l.c) := k1
  rw [es, addr_add] at k1'
  exact k1'
end Go.Proofs.YtefeijofhocnpaaGreatDoor
