/- For the claim of laws.FnInverse: LawU, ImplGcd, ImplQuo. -/
import Derived.Test.YthkklkjldpcbkaaGreatDoorLiB2
import Derived.Test.YthkklkjldpcbkaaGreatDoorLiB4
import Derived.Test.YthkklkjldpcbkaaGreatDoorLiG6
import Derived.Deep.RegionHeld3
import Derived.Test.YthkklkjldpcbkaaGreatDoorLiF1
set_option linter.unusedVariables false
set_option linter.unusedSimpArgs false
namespace Go.Proofs.YthkklkjldpcbkaaGreatDoor
open Go.RowKit
structure BoxN (w : World) (g : Nat) (s : Bool) (A : Option Addr) (n c : Nat) : Prop where
 c0 : Zh 24 w g 0 (.bool s)
 c1 : Zh 24 w g 1 (.slice A n c)
theorem BoxN.upd {w w' : World} {g : Nat} {s : Bool} {A : Option Addr} {n c : Nat} (h : BoxN w g s A n c) (u : Upd NoF w w') : BoxN w' g s A n c := ⟨h.c0.upd u (fun h => h), h.c1.upd u (fun h => h)⟩
theorem BoxN.new (w : World) (s : Bool) (A : Option Addr) (n c : Nat) : BoxN (w.alloc (.cells #[.bool s, .slice A n c] 24)) w.heap.size s A n c :=
 ⟨⟨_, heap_alloc_new w _, by simp⟩, ⟨_, heap_alloc_new w _, by simp⟩⟩
set_option maxRecDepth 100000 in
theorem field_nat (b : Bool) (x : Value) (w : World) : (Instr.field 32 (.agg #[.bool b, x]) 1).run Tryz.prog w = .ok x w := by
 first
 | exact rfl
 | (simp [Instr.field, go_sem]; done)
theorem Zl.add {w0 w : World} {L : List (Nat × Loc × SV)} (h : Zl w0 w L) {b : Nat} {l : Loc} {v : SV} (hv : IntP w b l v) (hb : w0.heap.size <= b) (hl : l.c = 0 \/ w0.heap.size <= l.b) (hne : ∀ p ∈ L, b ≠ p.1 /\ Zj l p.2.1) : Zl w0 w ((b, l, v) :: L) := by
 have key : ∀ (i b' : Nat) (l' : Loc) (v' : SV), L[i]? = some (b', l', v') -> b ≠ b' /\ Zj l l' := fun i b' l' v' hi => hne _ (List.mem_of_getElem? hi)
 refine ⟨?_, ?_, ?_, h.up⟩
 .
  intro i b' l' v' hi
  cases i with
  | zero => simp at hi; obtain ⟨rfl, rfl, rfl⟩ := hi; exact hv
  | succ i => exact h.at_ i b' l' v' (by simpa using hi)
 .
  intro i j b1 l1 v1 b2 l2 v2 hij h1 h2
  cases i with
  | zero =>
   cases j with
   | zero => exact absurd rfl hij
   | succ j =>
    simp at h1; obtain ⟨rfl, rfl, rfl⟩ := h1
    exact key j b2 l2 v2 (by simpa using h2)
  | succ i =>
   cases j with
   | zero =>
    simp at h2; obtain ⟨rfl, rfl, rfl⟩ := h2
    obtain ⟨k1, k2⟩ := key i b1 l1 v1 (by simpa using h1)
    exact ⟨Ne.symm k1, k2.symm⟩
   | succ j => exact h.ap i j _ _ _ _ _ _ (by omega) (by simpa using h1) (by simpa using h2)
 .
  intro i b' l' v' hi
  cases i with
  | zero => simp at hi; obtain ⟨rfl, rfl, rfl⟩ := hi; exact ⟨hb, hl⟩
  | succ i => exact h.nw i b' l' v' (by simpa using hi)
theorem IntD.zero {w : World} {b : Nat} (h : IntD w b nilL false 0) : IntP w b nilL (sv 0) := by
 refine ⟨h.neg, ?_, NatV.zero (nilL_ok _), sgnOk_self 0⟩
 have := h.abs
 show Zh _ _ _ _ (.slice nilL.A (digs 0).length nilL.c)
 rw [Yg]; exact this
theorem heap_drew' (w : World) : w.drew.heap = w.heap := rfl
theorem digs_succ_len (n : Nat) : (digs (n + 1)).length <= (digs n).length + 1 := by
 refine digs_len_of_lt ?_
 have h1 := Yf n
 have h2 : B64 ^ (digs n).length * 2 <= B64 ^ (digs n).length * B64 := Nat.mul_le_mul_left _ (by decide)
 have h3 : 0 < B64 ^ (digs n).length := Nat.pow_pos Zy
 rw [Nat.pow_succ]
 omega
theorem gcd_le_max {a b M : Nat} (h1 : a <= M) (h2 : b <= M) : Nat.gcd a b <= M := by
 rcases Nat.eq_zero_or_pos a with h | h
 . subst h; rw [Nat.gcd_zero_left]; exact h2
 . exact Nat.le_trans (Nat.gcd_le_left _ h) h1
end Go.Proofs.YthkklkjldpcbkaaGreatDoor
