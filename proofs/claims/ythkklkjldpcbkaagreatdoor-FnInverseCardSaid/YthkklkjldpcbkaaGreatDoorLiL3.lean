/- For the claim of laws.FnInverse: LawGcd. -/
import Derived.Test.YthkklkjldpcbkaaGreatDoorLiL2
import Derived.Test.YthkklkjldpcbkaaGreatDoorLiS1
set_option linter.unusedVariables false
set_option linter.unusedSimpArgs false
namespace Go.Proofs.YthkklkjldpcbkaaGreatDoor
open Go.RowKit
set_option linter.unusedSimpArgs false
structure BB (w wr : World) (g : Nat) (s1 s2 : Bool) (A1 A2 : Option Addr) (n1 n2 c1 c2 : Nat) : Prop where
 up : Upd NoF w wr
 b1 : BoxN wr g s1 A1 n1 c1
 b2 : BoxN wr (g + 1) s2 A2 n2 c2
theorem BB.upd {w wr w' : World} {g : Nat} {s1 s2 : Bool} {A1 A2 : Option Addr} {n1 n2 c1 c2 : Nat} (h : BB w wr g s1 s2 A1 A2 n1 n2 c1 c2) (u : Upd NoF wr w') : BB w w' g s1 s2 A1 A2 n1 n2 c1 c2 := ⟨h.up.trans u, h.b1.upd u, h.b2.upd u⟩
structure BoxI (w : World) (g : Nat) (s : Bool) (A : Option Addr) (n c : Nat) : Prop where
 c0 : Zh 32 w g 0 (.bool s)
 c1 : Zh 32 w g 1 (.slice A n c)
theorem BoxI.upd {w w' : World} {g : Nat} {s : Bool} {A : Option Addr} {n c : Nat} (h : BoxI w g s A n c) (u : Upd NoF w w') : BoxI w' g s A n c := ⟨h.c0.upd u (fun h => h), h.c1.upd u (fun h => h)⟩
theorem BoxI.new (w : World) (s : Bool) (A : Option Addr) (n c : Nat) : BoxI (w.alloc (.cells #[.bool s, .slice A n c] 32)) w.heap.size s A n c :=
 ⟨⟨_, heap_alloc_new w _, by simp⟩, ⟨_, heap_alloc_new w _, by simp⟩⟩
theorem BoxI.put {w : World} {g : Nat} {s : Bool} {A : Option Addr} {n c : Nat} (h : BoxI w g s A n c) (s' : Bool) (A' : Option Addr) (n' c' : Nat) :
  BoxI ((w.setCell ⟨g, 0, none⟩ (.bool s')).setCell ⟨g, 1, none⟩ (.slice A' n' c')) g s' A' n' c' :=
 ⟨(h.c0.set (.bool s')).far (b' := g) (i' := 1) (.slice A' n' c') (by omega), (h.c1.far (b' := g) (i' := 0) (.bool s') (by omega)).set (.slice A' n' c')⟩
theorem BoxI.far {w : World} {g k : Nat} {s : Bool} {A : Option Addr} {n c : Nat} (h : BoxI w g s A n c) (hk : k ≠ g) (x y : Value) :
  BoxI ((w.setCell ⟨k, 0, none⟩ x).setCell ⟨k, 1, none⟩ y) g s A n c :=
 ⟨(h.c0.far (b' := k) (i' := 0) x (by omega)).far (b' := k) (i' := 1) y (by omega), (h.c1.far (b' := k) (i' := 0) x (by omega)).far (b' := k) (i' := 1) y (by omega)⟩
theorem SpI.store {w : World} {g : Nat} {s : Bool} {A : Option Addr} {n c : Nat} {v x y : Value} {V : Int} (h : SpI w v V) (b : BoxI w g s A n c) : SpI ((w.setCell ⟨g, 0, none⟩ x).setCell ⟨g, 1, none⟩ y) v V := by
 obtain ⟨A', c', h1, h2, h3⟩ := h
 exact ⟨A', c', h1, h2, C_set (C_set h3 b.c0.cell (fun _ h => by cases h) x) (b.c1.far (b' := g) (i' := 0) x (by omega)).cell (fun _ h => by cases h) y⟩
theorem istores {w wt : World} {g1 g2 : Nat} {A B : Int} {sa sb : Bool} {Aa Ab : Option Addr} {ma mb ca cb : Nat} (hu : Upd NoF w wt) (l1 : w.heap.size <= g1) (l2 : w.heap.size <= g2) (b1 : BoxI wt g1 false none 0 0) (b2 : BoxI wt g2 false none 0 0) (h12 : g1 ≠ g2)
  (na : SpI wt (.agg #[.bool sa, .slice Aa ma ca]) A) (nb : SpI wt (.agg #[.bool sb, .slice Ab mb cb]) B) :
  ∃ w', w' = (((wt.setCell ⟨g1, 0, none⟩ (.bool sa)).setCell ⟨g1, 1, none⟩ (.slice Aa ma ca)).setCell ⟨g2, 0, none⟩ (.bool sb)).setCell ⟨g2, 1, none⟩ (.slice Ab mb cb) /\ Upd NoF w w' /\ BoxI w' g1 sa Aa ma ca /\ BoxI w' g2 sb Ab mb cb /\ SpI w' (.agg #[.bool sa, .slice Aa ma ca]) A /\ SpI w' (.agg #[.bool sb, .slice Ab mb cb]) B := by
 have b2' := b2.far h12 (.bool sa) (.slice Aa ma ca)
 refine ⟨_, rfl, ?_, (b1.put sa Aa ma ca).far (Ne.symm h12) _ _, b2'.put sb Ab mb cb, (na.store b1).store b2', (nb.store b1).store b2'⟩
 exact (((hu.setCell (fun h => by omega) _).setCell (fun h => by omega) _).setCell (fun h => by omega) _).setCell (fun h => by omega) _
theorem SpI.nat {w : World} {s : Bool} {v : Value} {V : Int} (h : SpI w (.agg #[.bool s, v]) V) : s = decide (V < 0) /\ SpN w v V.natAbs := by
 obtain ⟨A, c, e, h1, h2⟩ := h
 simp only [Value.agg.injEq, Array.mk.injEq, List.cons.injEq, Value.bool.injEq, and_true] at e
 exact ⟨e.1, A, c, e.2, h1, h2⟩
theorem SpN.len {w : World} {A : Option Addr} {m c N : Nat} (h : SpN w (.slice A m c) N) : m = (ds N).length := by
 obtain ⟨_, _, e, _⟩ := h
 injection e
end Go.Proofs.YthkklkjldpcbkaaGreatDoor
