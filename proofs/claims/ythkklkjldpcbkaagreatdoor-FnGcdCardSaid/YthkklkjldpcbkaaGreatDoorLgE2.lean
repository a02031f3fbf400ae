/- For the claim of laws.FnGcd: RowD, RowE. -/
import Derived.Test.YthkklkjldpcbkaaGreatDoorLgE1
import Derived.Test.YthkklkjldpcbkaaGreatDoorLgD3
import Derived.ChangeArms
import Derived.ChangeSame
import Derived.Test.YthkklkjldpcbkaaGreatDoorLgF1
set_option linter.unusedVariables false
set_option linter.unusedSimpArgs false
namespace Go.Proofs.YthkklkjldpcbkaaGreatDoor
open Go.ChangeShapes Go.WideShapes Go.ChangeAt Go.RowKit
theorem laid_at {W : World} {n : String} {d : DataW Unit} : ∀ {laid : List (String × DataW Unit)} {ps : List MemPlace}, DataW.LaidVars Tryz.prog W laid ps -> (n, d) ∈ laid →
  ∃ g t cs fuel p, Tryz.prog.globalNamed n = some g /\ (Tryz.prog.globals[g]?).map (·.type) = some t /\ W.var? Tryz.prog n = some cs /\ DataW.trod (fun _ => ()) Tryz.prog W 0 (fun _ => true) false fuel t cs.toList = some (d, p) /\ ∀ x ∈ p, x ∈ ps
 | [], _, _, h => by cases h
 | (m, e) :: r, ps, hL, h => by
  obtain ⟨g, t, cs, fuel, p, q, e1, e2, e3, e4, e5, rfl⟩ := hL
  rcases List.mem_cons.1 h with h | h
  .
   cases h
   exact ⟨g, t, cs, fuel, p, e1, e2, e3, e4, fun x hx => by simp [hx]⟩
  .
   obtain ⟨g', t', cs', fuel', p', f1, f2, f3, f4, f5⟩ := laid_at e5 h
   exact ⟨g', t', cs', fuel', p', f1, f2, f3, f4, fun x hx => by simp [f5 x hx]⟩
theorem laid_plain {W : World} {laid : List (String × DataW Unit)} (h : laidMetH Tryz.prog laid W) (hn : laid.filter (fun x => x.2.handleName?.isSome) = []) : laidMet Tryz.prog laid W := by
 unfold laidMetH at h
 rw [hn] at h
 exact h
theorem var_cell {W : World} (hs : W.ShapedOpen Tryz.prog) {n : String} {g : Nat} {t : TypeId} {z cs : Array Value} {c : Value} (hg : Tryz.prog.globalNamed n = some g) (hlt : g < Tryz.prog.globals.size) (hz : (((begin Tryz.prog (fun _ _ => 0) default).world).heap[g]?).bind Obj.row? = some (z, t))
  (hv : W.var? Tryz.prog n = some cs) (hc : cs.toList = [c]) : Zi t W g 0 c := by
 obtain ⟨cs', h1, h2, _⟩ := hs.1 g z t hlt hz
 have e5 : cs = cs' := by
  unfold World.var? at hv
  rw [hg] at hv
  simp only [Option.bind_some, h1] at hv
  exact (Option.some.inj hv).symm
 subst e5
 refine ⟨cs, h1, ?_⟩
 rw [<- Array.getElem?_toList, hc]; rfl
set_option maxRecDepth 100000 in
theorem int_laid {W : World} (hs : W.ShapedOpen Tryz.prog) {laid : List (String × DataW Unit)} (h : laidMetH Tryz.prog laid W.memory) (hn : laid.filter (fun x => x.2.handleName?.isSome) = []) {nm : String} {v : Nat} {T : Int}
  (hm : (nm, DataW.lit (.int .i64 T)) ∈ laid) (hg : Tryz.prog.globalNamed nm = some v) (ht : (Tryz.prog.globals[v]?).map (·.type) = some 3) (hlt : v < Tryz.prog.globals.size)
  (hz : (((begin Tryz.prog (fun _ _ => 0) default).world).heap[v]?).bind Obj.row? = some (#[.int .i64 0], 3)) : Zi 3 W v 0 (.int .i64 T) := by
 obtain ⟨ps, hL, _, _⟩ := laid_plain h hn
 obtain ⟨g, t, cs, fuel, p, e1, e2, e3, e4, e5⟩ := laid_at hL hm
 obtain rfl : g = v := Option.some.inj (e1.symm.trans hg)
 obtain rfl : t = 3 := Option.some.inj (e2.symm.trans ht)
 obtain ⟨T', k1, k2, _⟩ := DataW.trod_int Tryz.underlying3 e4
 have : T = T' := by simp at k2; exact k2.1
 subst this
 have hvar : W.var? Tryz.prog nm = some cs := e3
 exact var_cell hs hg hlt hz hvar k1
theorem dthr_of {W : World} (hs : W.ShapedOpen Tryz.prog) {laid : List (String × DataW Unit)} (h : laidMetH Tryz.prog laid W.memory) (hn : laid.filter (fun x => x.2.handleName?.isSome) = []) {T : Int}
  (hm : ("loop.example/pub-g03125/pub/big.divRecursiveThreshold", DataW.lit (.int .i64 T)) ∈ laid) : DThr W T :=
 int_laid hs h hn hm (by kernel_rfl) (by kernel_rfl) (of_decide_eq_true (by kernel_rfl)) (by kernel_rfl)
theorem thr_laid {W : World} (hs : W.ShapedOpen Tryz.prog) {laid : List (String × DataW Unit)} (h : laidMetH Tryz.prog laid W.memory) (hn : laid.filter (fun x => x.2.handleName?.isSome) = []) {T : Int}
  (hm : ("loop.example/pub-g03125/pub/big.karatsubaThreshold", DataW.lit (.int .i64 T)) ∈ laid) : Thr W T :=
 int_laid hs h hn hm (by kernel_rfl) (by kernel_rfl) (of_decide_eq_true (by kernel_rfl)) (by kernel_rfl)
end Go.Proofs.YthkklkjldpcbkaaGreatDoor
