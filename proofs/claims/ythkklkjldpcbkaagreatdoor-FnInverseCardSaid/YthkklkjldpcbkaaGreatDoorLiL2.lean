/- For the claim of laws.FnInverse: Lazy, LawGcdDivides. -/
import Derived.Deep.RegionHeld3
import Derived.Test.YthkklkjldpcbkaaGreatDoorLiG7
import Derived.Test.YthkklkjldpcbkaaGreatDoorLiB4
import Derived.Test.YthkklkjldpcbkaaGreatDoorLiD6
set_option linter.unusedVariables false
set_option linter.unusedSimpArgs false
namespace Go.Proofs.YthkklkjldpcbkaaGreatDoor
open Go
theorem wpAnyH_abs {P : Program} {md : Region.Mode} {ops : Array Oper} {Q : Exit -> Act -> World -> Prop} {S : World -> Prop} {n : Nat} {l : Array Bool} {a : Act} {w : World}
  (h : ∀ (F : Nat -> Array Bool -> Act -> World -> Prop) (a0 : Act), wpAnyH P md ops Q S = F -> a = a0 -> F n l a0 w) : wpAnyH P md ops Q S n l a w := h _ _ rfl rfl
open Go.RowKit
set_option linter.unusedSimpArgs false
theorem B2.made (w : World) (s1 s2 : Bool) (A1 A2 : Option Addr) (n1 n2 c1 c2 : Nat) : Upd NoF w ((w.alloc (.cells #[.bool s1, .slice A1 n1 c1] 24)).alloc (.cells #[.bool s2, .slice A2 n2 c2] 24)) ∧
  BoxN ((w.alloc (.cells #[.bool s1, .slice A1 n1 c1] 24)).alloc (.cells #[.bool s2, .slice A2 n2 c2] 24)) w.heap.size s1 A1 n1 c1 /\ BoxN ((w.alloc (.cells #[.bool s1, .slice A1 n1 c1] 24)).alloc (.cells #[.bool s2, .slice A2 n2 c2] 24)) (w.heap.size + 1) s2 A2 n2 c2 := by
 have b2 := BoxN.new (w.alloc (.cells #[.bool s1, .slice A1 n1 c1] 24)) s2 A2 n2 c2
 rw [size_alloc] at b2
 exact ⟨((Upd.refl NoF w).alloc _).alloc _, (BoxN.new w s1 A1 n1 c1).upd ((Upd.refl NoF _).alloc _), b2⟩
theorem div40 (X Y : Nat) (h0 : Y ≠ 0) (h1 : (digs Y).length <= 39) (h2 : (digs X).length <= 100000) : DivAtT 40 X Y := by
 have h3 := G_mono (show (digs Y).length <= 39 from h1)
 have h4 : G 39 = 1849 := by decide
 exact divAtT_any h0 (fun _ h => by omega) (by omega) (by omega)
end Go.Proofs.YthkklkjldpcbkaaGreatDoor
