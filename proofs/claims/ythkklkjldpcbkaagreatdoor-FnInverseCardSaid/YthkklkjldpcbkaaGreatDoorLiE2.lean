/- For the claim of laws.FnInverse: RowD, RowE. -/
import Derived.Test.YthkklkjldpcbkaaGreatDoorLiE1
import Derived.Test.YthkklkjldpcbkaaGreatDoorLiD3
import Derived.ChangeArms
import Derived.ChangeSame
import Derived.Test.YthkklkjldpcbkaaGreatDoorLiF1
set_option linter.unusedVariables false
set_option linter.unusedSimpArgs false
set_option maxRecDepth 1000000
namespace Go.Proofs.YthkklkjldpcbkaaGreatDoor
open Go.ChangeShapes Go.WideShapes Go.ChangeAt Go.RowKit
theorem laid_at {W : World} {n : String} {d : DataW Unit} : ∀ {laid : List (String × DataW Unit)} {ps : List MemPlace}, DataW.LaidVars Tryz.prog W laid ps -> (n, d) ∈ laid →
  ∃ g t cs fuel p, Tryz.prog.globalNamed n = some g /\ (Tryz.prog.globals[g]?).map (·.type) = some t /\ W.var? Tryz.prog n = some cs /\ DataW.trod (fun _ => ()) Tryz.prog W 0 (fun _ => true) false fuel t cs.toList = some (d, p) /\ ∀ x ∈ p, x ∈ ps
 | [], _, _, h => by cases h
 | (m, e) :: r, ps, hL, h => by
  obtain ⟨g, t, cs, fuel, p, q, e1, e2, e3, e4, e5, rfl⟩ := hL
  rcases List.mem_cons.1 h with h | h
  .
   cases h
   exact ⟨g, t, cs, fuel, p, e1, e2, e3, e4, fun x hx => by simp [hx]⟩
  .
   obtain ⟨g', t', cs', fuel', p', f1, f2, f3, f4, f5⟩ := laid_at e5 h
   exact ⟨g', t', cs', fuel', p', f1, f2, f3, f4, fun x hx => by simp [f5 x hx]⟩
theorem cells_one {W : World} {a : Addr} {cs : List Value} (h : W.cells? 0 a 1 = some cs) : ∃ v, cs = [v] /\ W.cell? a = some v := by
 unfold World.cells? at h
 rw [if_pos (Nat.zero_le _)] at h
 have e0 : a.add 0 = a := by simp [Addr.add]
 simp only [List.range_succ, List.range_zero, List.nil_append, List.mapM_cons, List.mapM_nil, e0] at h
 cases hc : W.cell? a with
 | none => simp [hc] at h
 | some v => simp [hc] at h; exact ⟨v, h.symm, rfl⟩
theorem cells_two {W : World} {a : Addr} {cs : List Value} (h : W.cells? 0 a 2 = some cs) : ∃ v u, cs = [v, u] /\ W.cell? a = some v /\ W.cell? (a.add 1) = some u := by
 unfold World.cells? at h
 rw [if_pos (Nat.zero_le _)] at h
 have e0 : a.add 0 = a := by simp [Addr.add]
 simp only [List.range_succ, List.range_zero, List.nil_append, List.cons_append, List.mapM_cons, List.mapM_nil, e0] at h
 cases hc : W.cell? a with
 | none => simp [hc] at h
 | some v =>
  cases hc2 : W.cell? (a.add 1) with
  | none => simp [hc, hc2] at h
  | some u => simp [hc, hc2] at h; exact ⟨v, u, h.symm, rfl, rfl⟩
theorem cell_spot {W : World} {a : Addr} {v : Value} (h : W.cell? a = some v) : a = ⟨a.block, a.off, none⟩ := by
 obtain ⟨b, o, s⟩ := a
 cases s with
 | none => rfl
 | some k =>
  exfalso
  unfold World.cell? at h
  simp only [Option.isSome_some, if_true] at h
  split at h <;> cases h
theorem cellR_of {W : World} {b o : Nat} {v : Value} (hf : Free W b) (h : W.cell? ⟨b, o, none⟩ = some v) : CellR W b o v := by
 obtain ⟨c, e, hc⟩ := hf
 refine ⟨e, c, hc, ?_⟩
 unfold World.cell? at h
 rw [hc] at h
 simpa using h
theorem one_word {W : World} {fuel : Nat} {c : Value} {p ps : List MemPlace} (h : DataW.trod (fun _ => ()) Tryz.prog W 0 (fun _ => true) false fuel 56 [c] = some (.slice [.lit (.int .u64 1)] [], p)) (hp : ∀ x ∈ p, x ∈ ps)
  (hfz : ∀ b off, MemPlace.cell b off ∈ ps -> ∃ c t, W.heap[b]? = some (.cells c t (0, 0))) : ∃ l : Loc, c = .slice l.A 1 l.c /\ NatR W l 1 := by
 rcases DataW.trod_slice Tryz.underlying56 h with ⟨_, hx⟩ | ⟨x, len, cap, elems, rest, n, _, hcs, hx, _, hl, hmx, hlen, hel, hsp, _⟩
 . simp at hx
 have hc1 : Tryz.prog.cellsOf 81 = 1 := by kernel_rfl
 simp only [Prod.mk.injEq, DataW.slice.injEq] at hx
 obtain ⟨⟨e1, e2⟩, e3⟩ := hx
 have hr : rest = [] := by simpa using e2.symm
 obtain ⟨hr1, _⟩ := hsp rfl
 subst hr
 have hcap : cap = len := by simp at hr1; omega
 have hl1 : elems.length = 1 := by have := congrArg List.length e1; simpa using this.symm
 obtain ⟨y, rfl⟩ := List.length_eq_one_iff.1 hl1
 simp only [List.map_cons, List.map_nil, List.cons.injEq, and_true] at e1
 simp only [List.length_cons, List.length_nil] at hlen
 subst hlen
 have h0 := hel 0 (by omega)
 rw [hc1] at h0
 simp only [Nat.zero_mul, List.getElem?_cons_zero, Option.bind_eq_some_iff] at h0
 have ex0 : x.add 0 = x := by simp [Addr.add]
 rw [ex0] at h0
 obtain ⟨cs1, h1, h2⟩ := h0
 obtain ⟨v, rfl, hv⟩ := cells_one h1
 obtain ⟨m, h3, h4, _⟩ := DataW.trod_int Tryz.underlying81 h2
 have hy : y = (.lit (.int .u64 1), y.2) := by rw [e1]
 rw [h4] at hy
 have hm : m = 1 := by simpa using hy
 subst hm
 obtain rfl : v = .int .u64 1 := by simpa using h3
 have es := cell_spot hv
 have hfree : Free W x.block := by
  refine hfz x.block x.off (hp _ ?_)
  rw [e3, hc1]
  simp [MemPlace.row]
 have ed : digs 1 = [1] := digs_small (by decide) (by decide)
 refine ⟨⟨some x, 1, x.block, x.off⟩, by simpa [hcap] using hcs, ?_⟩
 show VecR W _ (digs 1)
 rw [ed]
 refine ⟨fun _ => by simp only; rw [<- es], Nat.le_refl _, fun i hi => ?_, Digs.cons (by decide) Digs.nil⟩
 have : i = 0 := by simpa using hi
 subst this
 simp only [Nat.add_zero, List.getElem_cons_zero]
 exact cellR_of hfree (es ▸ hv)
theorem laid_plain {W : World} {laid : List (String × DataW Unit)} (h : laidMetH Tryz.prog laid W) (hn : laid.filter (fun x => x.2.handleName?.isSome) = []) : laidMet Tryz.prog laid W := by
 unfold laidMetH at h
 rw [hn] at h
 exact h
theorem var_cell {W : World} (hs : W.ShapedOpen Tryz.prog) {n : String} {g : Nat} {t : TypeId} {z cs : Array Value} {c : Value} (hg : Tryz.prog.globalNamed n = some g) (hlt : g < Tryz.prog.globals.size) (hz : (((begin Tryz.prog (fun _ _ => 0) default).world).heap[g]?).bind Obj.row? = some (z, t))
  (hv : W.var? Tryz.prog n = some cs) (hc : cs.toList = [c]) : Zh t W g 0 c := by
 obtain ⟨cs', h1, h2, _⟩ := hs.1 g z t hlt hz
 have e5 : cs = cs' := by
  unfold World.var? at hv
  rw [hg] at hv
  simp only [Option.bind_some, h1] at hv
  exact (Option.some.inj hv).symm
 subst e5
 refine ⟨cs, h1, ?_⟩
 rw [<- Array.getElem?_toList, hc]; rfl
theorem oneI_of {W : World} (hs : W.ShapedOpen Tryz.prog) {laid : List (String × DataW Unit)} (h : laidMetH Tryz.prog laid W.memory) (hn : laid.filter (fun x => x.2.handleName?.isSome) = [])
  (hm : ("loop.example/pub-g03125/pub/big.intOne", DataW.ptr (.agg [.lit (.bool false), .slice [.lit (.int .u64 1)] []])) ∈ laid) : OneI W := by
 obtain ⟨ps, hL, _, hfz0⟩ := laid_plain h hn
 have hfz : ∀ b off, MemPlace.cell b off ∈ ps -> ∃ c t, W.heap[b]? = some (.cells c t (0, 0)) := fun b off hb => (hfz0 b off hb).1
 obtain ⟨g, t, cs, fuel, p, e1, e2, e3, e4, e5⟩ := laid_at hL hm
 obtain rfl : 0 = g := Option.some.inj ((show Tryz.prog.globalNamed "loop.example/pub-g03125/pub/big.intOne" = some 0 by kernel_rfl).symm.trans e1)
 obtain rfl : 54 = t := Option.some.inj ((show (Tryz.prog.globals[0]?).map (·.type) = some 54 by kernel_rfl).symm.trans e2)
 rcases DataW.trod_pointer Tryz.underlying54 e4 with ⟨_, hx⟩ | ⟨a, cs', y, n, _, hcs, hx, hc2, hy⟩
 . simp at hx
 have hsz : Tryz.prog.cellsOf 58 = 2 := by kernel_rfl
 rw [hsz] at hc2
 obtain ⟨c0, c1, rfl, k0, k1⟩ := cells_two hc2
 simp only [Prod.mk.injEq, DataW.ptr.injEq] at hx
 obtain ⟨hy1, hpl⟩ := hx
 obtain ⟨y0, y1, m, hya, _, f0, f1⟩ := trod_struct2 Tryz.underlying58 hy
 have s0 : Tryz.prog.cellsOf 4 = 1 := by kernel_rfl
 have s1 : Tryz.prog.cellsOf 56 = 1 := by kernel_rfl
 simp only [s0, s1, List.drop_zero, List.take_succ_cons, List.take_zero, List.drop_succ_cons] at f0 f1
 obtain ⟨bv, g0, g1⟩ := DataW.trod_bool Tryz.underlying4 f0
 rw [hya] at hy1
 simp only [DataW.agg.injEq, List.cons.injEq, and_true] at hy1
 obtain ⟨hy0, hy1⟩ := hy1
 rw [g1] at hy0
 have hb : bv = false := by simpa using hy0.symm
 subst hb
 obtain rfl : c0 = .bool false := by simpa using g0
 have hy1' : y1 = (.slice [.lit (.int .u64 1)] [], y1.2) := by rw [hy1]
 rw [hy1'] at f1
 obtain ⟨l, rfl, hN⟩ := one_word (W := W.memory) (ps := ps) f1 (fun x hx => e5 _ (by rw [hpl, hya]; simp [hx])) hfz
 have hN : NatR W l 1 := ⟨hN.addr, hN.le, hN.at_, hN.dig⟩
 have es := cell_spot k0
 have hfree : Free W a.block := hfz a.block a.off (e5 _ (by rw [hpl, hsz]; simp [MemPlace.row]))
 have hvar : W.var? Tryz.prog "loop.example/pub-g03125/pub/big.intOne" = some cs := e3
 have hcell := var_cell hs e1 (of_decide_eq_true (by kernel_rfl)) (z := #[.pointer none]) (t := 54) (by kernel_rfl) hvar hcs
 have ed : digs (1 : Int).natAbs = [1] := digs_small (by decide) (by decide)
 refine ⟨a.block, a.off, l, es ▸ hcell, ⟨hfree, es ▸ k0, ?_, hN⟩⟩
 rw [ed]
 have k1' : W.cell? (a.add 1) = some (.slice l.A 1 l.c) := k1
 rw [es, addr_add] at k1'
 exact k1'
theorem int_laid {W : World} (hs : W.ShapedOpen Tryz.prog) {laid : List (String × DataW Unit)} (h : laidMetH Tryz.prog laid W.memory) (hn : laid.filter (fun x => x.2.handleName?.isSome) = []) {nm : String} {v : Nat} {T : Int}
  (hm : (nm, DataW.lit (.int .i64 T)) ∈ laid) (hg : Tryz.prog.globalNamed nm = some v) (ht : (Tryz.prog.globals[v]?).map (·.type) = some 3) (hlt : v < Tryz.prog.globals.size)
  (hz : (((begin Tryz.prog (fun _ _ => 0) default).world).heap[v]?).bind Obj.row? = some (#[.int .i64 0], 3)) : Zh 3 W v 0 (.int .i64 T) := by
 obtain ⟨ps, hL, _, _⟩ := laid_plain h hn
 obtain ⟨g, t, cs, fuel, p, e1, e2, e3, e4, e5⟩ := laid_at hL hm
 obtain rfl : g = v := Option.some.inj (e1.symm.trans hg)
 obtain rfl : t = 3 := Option.some.inj (e2.symm.trans ht)
 obtain ⟨T', k1, k2, _⟩ := DataW.trod_int Tryz.underlying3 e4
 have : T = T' := by simp at k2; exact k2.1
 subst this
 have hvar : W.var? Tryz.prog nm = some cs := e3
 exact var_cell hs hg hlt hz hvar k1
theorem dthr_of {W : World} (hs : W.ShapedOpen Tryz.prog) {laid : List (String × DataW Unit)} (h : laidMetH Tryz.prog laid W.memory) (hn : laid.filter (fun x => x.2.handleName?.isSome) = []) {T : Int}
  (hm : ("loop.example/pub-g03125/pub/big.divRecursiveThreshold", DataW.lit (.int .i64 T)) ∈ laid) : DThr W T :=
 int_laid hs h hn hm (by kernel_rfl) (by kernel_rfl) (of_decide_eq_true (by kernel_rfl)) (by kernel_rfl)
theorem thr_laid {W : World} (hs : W.ShapedOpen Tryz.prog) {laid : List (String × DataW Unit)} (h : laidMetH Tryz.prog laid W.memory) (hn : laid.filter (fun x => x.2.handleName?.isSome) = []) {T : Int}
  (hm : ("loop.example/pub-g03125/pub/big.karatsubaThreshold", DataW.lit (.int .i64 T)) ∈ laid) : Thr W T :=
 int_laid hs h hn hm (by kernel_rfl) (by kernel_rfl) (of_decide_eq_true (by kernel_rfl)) (by kernel_rfl)
end Go.Proofs.YthkklkjldpcbkaaGreatDoor
