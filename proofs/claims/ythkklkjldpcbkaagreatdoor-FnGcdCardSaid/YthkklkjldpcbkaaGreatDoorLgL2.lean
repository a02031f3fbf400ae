/- For the claim of laws.FnGcd: Lazy, LawGcdDivides. -/
import Derived.Deep.RegionHeld3
import Derived.Test.YthkklkjldpcbkaaGreatDoorLgG7
import Derived.Test.YthkklkjldpcbkaaGreatDoorLgB4
import Derived.Test.YthkklkjldpcbkaaGreatDoorLgD6
set_option linter.unusedVariables false
set_option linter.unusedSimpArgs false
namespace Go.Proofs.YthkklkjldpcbkaaGreatDoor
open Go
theorem wpAnyH_abs {P : Program} {md : Region.Mode} {ops : Array Oper} {Q : Exit -> Act -> World -> Prop} {S : World -> Prop} {n : Nat} {l : Array Bool} {a : Act} {w : World}
  (h : ∀ (F : Nat -> Array Bool -> Act -> World -> Prop) (a0 : Act), wpAnyH P md ops Q S = F -> a = a0 -> F n l a0 w) : wpAnyH P md ops Q S n l a w := h _ _ rfl rfl
open Go.RowKit
set_option linter.unusedSimpArgs false
structure B3 (w wr : World) (g : Nat) (s1 s2 s3 : Bool) (A1 A2 A3 : Option Addr) (n1 n2 n3 c1 c2 c3 : Nat) : Prop where
 up : Upd NoF w wr
 b1 : BoxN wr g s1 A1 n1 c1
 b2 : BoxN wr (g + 1) s2 A2 n2 c2
 b3 : BoxN wr (g + 1 + 1) s3 A3 n3 c3
theorem B3.upd {w wr w' : World} {g : Nat} {s1 s2 s3 : Bool} {A1 A2 A3 : Option Addr} {n1 n2 n3 c1 c2 c3 : Nat} (h : B3 w wr g s1 s2 s3 A1 A2 A3 n1 n2 n3 c1 c2 c3) (u : Upd NoF wr w') : B3 w w' g s1 s2 s3 A1 A2 A3 n1 n2 n3 c1 c2 c3 := ⟨h.up.trans u, h.b1.upd u, h.b2.upd u, h.b3.upd u⟩
theorem B3.made (w : World) (s1 s2 s3 : Bool) (A1 A2 A3 : Option Addr) (n1 n2 n3 c1 c2 c3 : Nat) :
  B3 w (((w.alloc (.cells #[.bool s1, .slice A1 n1 c1] 24)).alloc (.cells #[.bool s2, .slice A2 n2 c2] 24)).alloc (.cells #[.bool s3, .slice A3 n3 c3] 24)) w.heap.size s1 s2 s3 A1 A2 A3 n1 n2 n3 c1 c2 c3 := by
 have b1 := BoxN.new w s1 A1 n1 c1
 obtain ⟨w1, hw1⟩ : ∃ w1, w.alloc (.cells #[.bool s1, .slice A1 n1 c1] 24) = w1 := ⟨_, rfl⟩
 have s1' : w1.heap.size = w.heap.size + 1 := by rw [<- hw1]; simp
 have u1 : Upd NoF w w1 := by rw [<- hw1]; exact (Upd.refl NoF w).alloc _
 rw [hw1] at b1 ⊢
 have b2 := BoxN.new w1 s2 A2 n2 c2
 obtain ⟨w2, hw2⟩ : ∃ w2, w1.alloc (.cells #[.bool s2, .slice A2 n2 c2] 24) = w2 := ⟨_, rfl⟩
 have s2' : w2.heap.size = w.heap.size + 1 + 1 := by rw [<- hw2]; simp [s1']
 have u2 : Upd NoF w1 w2 := by rw [<- hw2]; exact (Upd.refl NoF w1).alloc _
 rw [hw2, s1'] at b2
 rw [hw2]
 have b3 := BoxN.new w2 s3 A3 n3 c3
 rw [s2'] at b3
 have u3 : Upd NoF w2 (w2.alloc (.cells #[.bool s3, .slice A3 n3 c3] 24)) := (Upd.refl NoF w2).alloc _
 exact ⟨(u1.trans u2).trans u3, b1.upd (u2.trans u3), b2.upd u3, b3⟩
theorem B2.made (w : World) (s1 s2 : Bool) (A1 A2 : Option Addr) (n1 n2 c1 c2 : Nat) : Upd NoF w ((w.alloc (.cells #[.bool s1, .slice A1 n1 c1] 24)).alloc (.cells #[.bool s2, .slice A2 n2 c2] 24)) ∧
  BoxN ((w.alloc (.cells #[.bool s1, .slice A1 n1 c1] 24)).alloc (.cells #[.bool s2, .slice A2 n2 c2] 24)) w.heap.size s1 A1 n1 c1 /\ BoxN ((w.alloc (.cells #[.bool s1, .slice A1 n1 c1] 24)).alloc (.cells #[.bool s2, .slice A2 n2 c2] 24)) (w.heap.size + 1) s2 A2 n2 c2 := by
 have b2 := BoxN.new (w.alloc (.cells #[.bool s1, .slice A1 n1 c1] 24)) s2 A2 n2 c2
 rw [size_alloc] at b2
 exact ⟨((Upd.refl NoF w).alloc _).alloc _, (BoxN.new w s1 A1 n1 c1).upd ((Upd.refl NoF _).alloc _), b2⟩
theorem div40 (X Y : Nat) (h0 : Y ≠ 0) (h1 : (digs Y).length <= 39) (h2 : (digs X).length <= 100000) : DivAtT 40 X Y := by
 have h3 := G_mono (show (digs Y).length <= 39 from h1)
 have h4 : G 39 = 1849 := by decide
 exact divAtT_any h0 (fun _ h => by omega) (by omega) (by omega)
end Go.Proofs.YthkklkjldpcbkaaGreatDoor
