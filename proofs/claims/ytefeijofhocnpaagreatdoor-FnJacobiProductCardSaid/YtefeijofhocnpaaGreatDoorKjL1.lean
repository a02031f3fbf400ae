/- For the claim of laws.The symbol of a product is the product of the symbols, above and below (FnJacobiProduct).: LawSqrt. -/
import Derived.Test.YtefeijofhocnpaaGreatDoorKjF1
import Derived.Test.YtefeijofhocnpaaGreatDoorKjD5
set_option linter.unusedVariables false
set_option linter.unusedSimpArgs false
namespace Go.Proofs.YtefeijofhocnpaaGreatDoor
open Go.RowKit
set_option linter.unusedSimpArgs false
theorem implMul_num (T : Int) (v1 v2 : Value) (n m : Nat) (X Y : Int) (w : World) (hT : Thr w T) (h1 : NumR w v1 n X) (h2 : NumR w v2 m Y) (hn : n ≤ 262144) (hm : m ≤ 262144) :
    Calls Tryz.prog 35 #[v1, v2] w fun e w' => ∃ v, e = .returned v ∧ NumI w' v (X * Y) ∧ Upd NoF w w' := by
  obtain ⟨s, A, c, xs, rfl, a2, a3, a4, a5, a6, a7⟩ := h1
  obtain ⟨s2, A2, c2, ys, rfl, b2, b3, b4, b5, b6, b7⟩ := h2
  rw [a7, b7]
  exact (implMul_any T s s2 A A2 n m c c2 xs ys w hT a2 b2 a3 b3 hn hm a5 b5 a6 b6).mono (fun _ _ ⟨A, c, he, h1, _, h3, h4⟩ => ⟨_, he, ⟨A, c, rfl, h1, h3⟩, h4⟩)
structure BoxN (w : World) (g : Nat) (s : Bool) (A : Option Addr) (n c : Nat) : Prop where
  c0 : CellT 33 w g 0 (.bool s)
  c1 : CellT 33 w g 1 (.slice A n c)
theorem BoxN.upd {w w' : World} {g : Nat} {s : Bool} {A : Option Addr} {n c : Nat} (h : BoxN w g s A n c) (u : Upd NoF w w') : BoxN w' g s A n c := ⟨h.c0.upd u (fun h => h), h.c1.upd u (fun h => h)⟩
theorem BoxN.new (w : World) (s : Bool) (A : Option Addr) (n c : Nat) : BoxN (w.alloc (.cells #[.bool s, .slice A n c] 33)) w.heap.size s A n c :=
  ⟨⟨_, heap_alloc_new w _, by simp⟩, ⟨_, heap_alloc_new w _, by simp⟩⟩
end Go.Proofs.YtefeijofhocnpaaGreatDoor
