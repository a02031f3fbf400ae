/- For the claim of laws.The program's symbol is Jacobi's (FnJacobi).: Range, RangeI. -/
import Derived.Test.YtefeijofhocnpaaGreatDoorKlB2
set_option linter.unusedVariables false
set_option linter.unusedSimpArgs false
namespace Go.Proofs.YtefeijofhocnpaaGreatDoor
open Go.RowKit
@[reducible] def nilL : Loc := ⟨none, 0, 0, 0⟩
theorem nilL_ok (w : World) : nilL.Ok w := Loc.Ok.nil w 0 0
theorem nilL_rel (x : Loc) : Rel nilL x := Or.inr (Or.inl rfl)
theorem ZF.nil {k b i : Nat} (h : ZF nilL k b i) : NoF b i := by obtain ⟨_, h2, _, h4⟩ := h; simp only at h2 h4; omega
def RngPost (w : World) (N sb ns : Nat) (J : SI) (e : Ending) (w' : World) : Prop :=
  ∃ (r : Loc) (J' : SI), e = .returned (.slice r.A (digs N).length r.c) ∧ (0 < r.c → w.heap.size ≤ r.b) ∧ NatV w' r N ∧ StkV w' sb ns J' ∧ SI.Le w sb J J' ∧ Off J' sb ns r ∧ Upd (J.K sb ns) w w'
def RngPost0 (w : World) (N : Nat) (e : Ending) (w' : World) : Prop :=
  ∃ r : Loc, e = .returned (.slice r.A (digs N).length r.c) ∧ (0 < r.c → w.heap.size ≤ r.b) ∧ NatV w' r N ∧ Upd NoF w w'
theorem RngPost0.stk {w w' : World} {N sb ns : Nat} {J : SI} {e : Ending} (h : RngPost0 w N e w') (hs : StkV w sb ns J) : RngPost w N sb ns J e w' := by
  obtain ⟨r, h1, h2, h3, h4⟩ := h
  exact ⟨r, J, h1, h2, h3, hs.upd0 h4, SI.Le.refl _ _ _, fun i hi => Off.new hs (h2 (by omega)) i hi, h4.mono (fun _ _ _ h => h.elim)⟩
end Go.Proofs.YtefeijofhocnpaaGreatDoor
namespace Go.Proofs.YtefeijofhocnpaaGreatDoor
open Go.RowKit
def NewInt (w : World) (zb : Nat) (v : Int) (w' : World) : Prop := ∃ l : Loc, IntV w' zb l v ∧ (0 < l.c → w.heap.size ≤ l.b) ∧ Upd (Blk zb) w w'
theorem IntRes.new {w w' : World} {zb k : Nat} {v : Int} (h : IntRes w zb nilL k v w') : NewInt w zb v w' := by
  obtain ⟨r, h1, _, h3, h4⟩ := h
  exact ⟨r, h4, fun h0 => h1.elim (fun h => by subst h; exact absurd h0 (Nat.lt_irrefl 0)) id, h3.mono (fun b i _ h => h.elim id (fun h => (ZF.nil h).elim))⟩
theorem RngPost0.made {w w1 : World} {zb N : Nat} {r : Loc} {v : Int} (hz : IntD w zb nilL false 0) (h : 0 < r.c → w.heap.size ≤ r.b) (hN : NatV w1 r N) (u : Upd NoF w w1) (hv : v.natAbs = N) :
    NewInt w zb v ((w1.setCell ⟨zb, 1, none⟩ (.slice r.A (digs N).length r.c)).setCell ⟨zb, 0, none⟩ (.bool (decide (v < 0)))) := by
  subst hv
  have hs := IntV.stored (v := v) (hz.upd u (fun _ h => h)) hN
  exact ⟨r, hs.1, h, u.then hs.2 (fun _ _ _ h => h.elim) (fun _ _ _ h => h)⟩
end Go.Proofs.YtefeijofhocnpaaGreatDoor
