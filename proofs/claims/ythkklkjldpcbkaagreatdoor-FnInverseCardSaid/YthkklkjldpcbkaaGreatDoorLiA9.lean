/- For the claim of laws.FnInverse: KaraM, KaraS, KaraT. -/
import Derived.Test.YthkklkjldpcbkaaGreatDoorLiA6
set_option linter.unusedVariables false
set_option linter.unusedSimpArgs false
namespace Go.Proofs.YthkklkjldpcbkaaGreatDoor
open Go.RowKit
@[reducible] def hi (x : Loc) (k : Nat) : Loc := ⟨some ⟨x.b, x.o + k, none⟩, x.c - k, x.b, x.o + k⟩
theorem IntD.boxed {w w' : World} {l : Loc} {n : Nat} (h : l.Ok w) (u : Upd NoF (w.alloc (.cells #[.bool false, .slice l.A n l.c] 58)) w') : IntD w' w.heap.size l false n := by
 have hh := heap_alloc_new w (.cells #[.bool false, .slice l.A n l.c] 58)
 exact ⟨Zh.upd (Zh.new (by simp) hh) u (fun h => h), Zh.upd (Zh.new (by simp) hh) u (fun h => h), (h.upd ((Upd.refl NoF w).alloc _)).upd u⟩
theorem IntV.upd0 {w w' : World} {b : Nat} {l : Loc} {v : Int} (h : IntV w b l v) (u : Upd NoF w w') : IntV w' b l v := h.upd u (fun _ h => h) (fun _ _ h => h)
section
variable {T : Int} {w0 w : World} {x y z t : Loc} {xs ys : List Nat} {n n2 sb ns n' : Nat} {J J' : SI} {b0 b1 c0 c1 e0 e2 e1 ex ey : Nat}
theorem digs_mul_len (a b : Nat) : (digs (a * b)).length <= (digs a).length + (digs b).length := by
 refine digs_len_of_lt ?_
 rw [Nat.pow_add]
 exact Nat.mul_lt_mul_of_lt_of_le (Yf a) (Nat.le_of_lt (Yf b)) (Nat.pow_pos Zy)
end
end Go.Proofs.YthkklkjldpcbkaaGreatDoor
