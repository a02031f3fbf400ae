/- For the claim of laws.FnInverse: Kara, MulAll. -/
import Derived.Test.YthkklkjldpcbkaaGreatDoorLiA9
import Derived.StillTailTactics
import Derived.Deep.RegionHeld3
set_option linter.unusedVariables false
set_option linter.unusedSimpArgs false
set_option maxRecDepth 1000000
namespace Go.Proofs.YthkklkjldpcbkaaGreatDoor
open Go.RowKit
theorem MulPost.swap {w w' : World} {z : Loc} {p q : Prop} {m n a b sb ns : Nat} {J : SI} {e : Ending} (h : MulPost w z (p /\ q /\ n + m <= z.c) (n + m) (b * a) sb ns J e w') : MulPost w z (q /\ p /\ m + n <= z.c) (m + n) (a * b) sb ns J e w' := by
 obtain ⟨r, rs, J', h1, h2, h3, h4, h5, h6, h7, h8, h9⟩ := h
 rw [Nat.mul_comm b a] at h1 h8
 exact ⟨r, rs, J', h1, h2, fun h => h3 ⟨h.2.1, h.1, by omega⟩, by omega, h5, h6, h7, h8, h9⟩
theorem MulRes.swap {w w' : World} {z : Loc} {p q : Prop} {m n a b : Nat} {F : Nat -> Nat -> Prop} {e : Ending} (h : MulRes w z (p /\ q /\ n + m <= z.c) (n + m) (b * a) F e w') : MulRes w z (q /\ p /\ m + n <= z.c) (m + n) (a * b) F e w' := by
 obtain ⟨r, rs, h1, h2, h3, h4, h5, h6, h7, h8, h9⟩ := h
 rw [Nat.mul_comm b a] at h1 h8
 exact ⟨r, rs, h1, h2, fun h => h3 ⟨h.2.1, h.1, by omega⟩, by omega, h5, h6, h7, h8, h9⟩
set_option maxHeartbeats 1600000 in
theorem mul_turn (z x y : Loc) (S : Value) (nz m n : Nat) (w : World) (hmn : m < n) (R : Ending -> World -> Prop) (hR : ∀ e w', R e w' -> ∃ v, e = .returned v)
  (h : Calls Tryz.prog 70 #[.slice z.A nz z.c, S, .slice y.A n y.c, .slice x.A m x.c] w R) : Calls Tryz.prog 70 #[.slice z.A nz z.c, S, .slice x.A m x.c, .slice y.A n y.c] w R := by
 have q2 : decide (m < n) = true := decide_eq_true hmn
 have H := Qq h
 have HR := Qq hR
 clear h hR
 go_enter Tryz.func70, Tryz.ntmps70
 go_wp2_with fail
 refine H.out.mono ?_
 intro e w' hr
 obtain ⟨v, rfl⟩ := HR.out e w' hr
 have HH := Qq hr
 clear hr H HR
 go_wp2
 exact HH.out
theorem mul_small0 (T : Int) (m n : Nat) (hs : ((min m n : Nat) : Int) < T) : MulSpec0 T m n := by
 have key : ∀ m n : Nat, n <= m -> (n : Int) < T -> MulSpec0 T m n := by
  intro m n hnm hT
  by_cases h0 : n = 0
  .
   intro z x y nz xs ys w hz hx hy lx ly rx ry hTT hG
   refine (mul_nil z x y _ nz m n w h0 hnm).mono ?_
   rintro e w' ⟨rfl, rfl⟩
   have : ys = [] := List.eq_nil_of_length_eq_zero (by omega)
   subst this
   rw [val_nil, Nat.mul_zero]
   exact MulRes.zero hz
  by_cases h1 : n = 1
  .
   subst h1
   intro z x y nz xs ys w hz hx hy lx ly rx ry hTT hG
   have := G_le (m + 1)
   refine (mul_one z x y _ nz m xs ys w hz hx hy lx ly (by omega) (by omega) rx).mono ?_
   intro e w' h
   obtain ⟨r, rs, a1, a2, a3, a4⟩ := h
   exact ⟨r, rs, a1, a2, fun h => a3 h.2.2, a4⟩
  .
   intro z x y nz xs ys w hz hx hy lx ly rx ry hTT hG
   have := G_le (m + n)
   exact mul_basic z x y _ nz m n T xs ys w hz hx hy lx ly (by omega) hnm (by omega) rx ry hTT hT
 rcases Nat.lt_or_ge m n with h | h
 .
  rw [Nat.min_eq_left (Nat.le_of_lt h)] at hs
  intro z x y nz xs ys w hz hx hy lx ly rx ry hT hG
  refine mul_turn z x y _ nz m n w h _ (fun e w' h => by obtain ⟨r, _, h1, _⟩ := h; exact ⟨_, h1⟩) ?_
  exact (key n m (Nat.le_of_lt h) hs z y x nz ys xs w hz hy hx ly lx ry rx hT (by rw [Nat.add_comm n m]; exact hG)).mono (fun e w' h => h.swap)
 .
  rw [Nat.min_eq_right h] at hs
  exact key m n h hs
def IntMulRes (w : World) (zb : Nat) (lz lx ly : Loc) (X Y : Int) (w' : World) : Prop :=
 ∃ (r : Loc) (k : Nat), (r = lz \/ w.heap.size <= r.b) /\ (Zj lz lx /\ Zj lz ly /\ (digs X.natAbs).length + (digs Y.natAbs).length <= lz.c -> r = lz) /\ k <= (digs X.natAbs).length + (digs Y.natAbs).length /\ IntV w' zb r (X * Y) /\ Upd (Or2 (Blk zb) (ZF lz k)) w w'
theorem Int_mul_topM (T : Int) (zb xb yb : Nat) (lz lx ly : Loc) (sz : Bool) (nz : Nat) (X Y : Int) (w : World) (hz : IntD w zb lz sz nz) (hx : IntV w xb lx X) (hy : IntV w yb ly Y) (hne : xb ≠ yb) (rx : Rel lz lx) (ry : Rel lz ly) (hT : Thr w T) (hMul : MulSpec0 T (digs X.natAbs).length (digs Y.natAbs).length)
  (hG : G ((digs X.natAbs).length + (digs Y.natAbs).length) <= 1099511627776) :
  Calls Tryz.prog 57 #[.pointer (some ⟨zb, 0, none⟩), .pointer none, .pointer (some ⟨xb, 0, none⟩), .pointer (some ⟨yb, 0, none⟩)] w fun e w' => e = .returned (.tuple #[]) /\ IntMulRes w zb lz lx ly X Y w' := by
 refine (Int_mul_gen zb xb yb lz lx ly sz nz X Y _ w hz hx hy hne
  (fun r w1 => MulRes w lz (Zj lz lx /\ Zj lz ly /\ (digs X.natAbs).length + (digs Y.natAbs).length <= lz.c) ((digs X.natAbs).length + (digs Y.natAbs).length) (X.natAbs * Y.natAbs) NoF (.returned (.slice r.A (digs (X.natAbs * Y.natAbs)).length r.c)) w1 /\ ∃ rs : List Nat, (r = lz \/ w.heap.size <= r.b) ∧
    (Zj lz lx /\ Zj lz ly /\ (digs X.natAbs).length + (digs Y.natAbs).length <= lz.c -> r = lz) /\ rs.length <= (digs X.natAbs).length + (digs Y.natAbs).length /\ VecV w1 r rs /\ val B64 rs = X.natAbs * Y.natAbs /\ Upd (ZF lz rs.length) w w1)
  (fun w' u => ?_) (fun r w1 ⟨_, rs, _, _, _, _, _, hu⟩ => ?_)).mono ?_
 .
  have hs := u.size
  refine (hMul lz lx ly nz _ _ w' (hz.ok.upd u) (hx.nat.upd0 u) (hy.nat.upd0 u) rfl rfl rx ry (hT.upd u (fun _ h => h)) hG).mono ?_
  rintro e w1 ⟨r, rs, rfl, h1, h2, h3, h4, h5, h6, h7, h8, h9⟩
  rw [Zv, Zv] at h7 ⊢
  have hu : Upd (Or2 (ZF lz rs.length) NoF) w w1 := u.then h9 (fun _ _ _ h => h.elim) (fun _ _ _ h => h)
  exact ⟨r, rfl, ⟨r, rs, rfl, h1.imp id (fun h => by omega), h2, h3, h4, h5, h6, h7, h8, hu⟩, rs, h1.imp id (fun h => by omega), h2, h3, ⟨h8, h4, h5, h6⟩, h7, hu.weak (fun b i h => h.elim id (fun h => h.elim))⟩
 . exact ⟨hz.keep hz.ok hu, hx.neg.upd hu (ZF.no hz.ok hx.neg (by decide) _ _), hy.neg.upd hu (ZF.no hz.ok hy.neg (by decide) _ _)⟩
 .
  rintro e w' ⟨rfl, r, w1, k, ⟨_, rs, h1, h2, h3, h4, h5, h6⟩, rfl⟩
  have hu2 := blk_upd w1 zb k (.slice r.A (digs (X.natAbs * Y.natAbs)).length r.c) (.bool (decide (X * Y < 0)))
  have hz1 := hz.keep hz.ok h6
  have hnb : ∀ i, i < rs.length -> ¬ Blk zb r.b (r.o + i) := fun i hi h => hz1.neg.neW (h4.at_ i hi) (by decide) h.symm
  refine ⟨rfl, r, rs.length, h1, h2, h3, ⟨?_, ?_, ?_⟩, (h6.mono (fun _ _ _ h => Or.inr h)).trans (hu2.mono (fun _ _ _ h => Or.inl h))⟩
  . exact (hz1.neg.far _ (by omega)).set _
  .
   rw [Int.natAbs_mul]
   exact (hz1.abs.set _).far _ (by omega)
  .
   rw [Int.natAbs_mul]
   have hn := h4.norm
   rw [h5] at hn
   refine hn.upd hu2 (fun i hi => hnb i ?_)
   have := digs_len_le h4.dig
   rw [h5] at this
   omega
theorem Int_Mul_M (T : Int) (zb xb yb : Nat) (lz lx ly : Loc) (sz : Bool) (nz : Nat) (X Y : Int) (w : World) (hz : IntD w zb lz sz nz) (hx : IntV w xb lx X) (hy : IntV w yb ly Y) (hne : xb ≠ yb) (rx : Rel lz lx) (ry : Rel lz ly) (hT : Thr w T) (hMul : MulSpec0 T (digs X.natAbs).length (digs Y.natAbs).length)
  (hG : G ((digs X.natAbs).length + (digs Y.natAbs).length) <= 1099511627776) :
  Calls Tryz.prog 38 #[.pointer (some ⟨zb, 0, none⟩), .pointer (some ⟨xb, 0, none⟩), .pointer (some ⟨yb, 0, none⟩)] w fun e w' => e = .returned (.pointer (some ⟨zb, 0, none⟩)) /\ IntMulRes w zb lz lx ly X Y w' := by
 have HM := Qq (Int_mul_topM T zb xb yb lz lx ly sz nz X Y w hz hx hy hne rx ry hT hMul hG)
 clear hz hx hy rx ry hT hMul hG
 go_enter Tryz.func38, Tryz.ntmps38
 go_wp2_with fail
 refine HM.out.mono ?_
 clear HM
 rintro e w' ⟨rfl, h⟩
 have HH := Qq h
 clear h
 go_wp2
 go_ret
 exact ⟨rfl, HH.out⟩
def KThr (w : World) (T : Int) (B : Nat) : Prop := Thr w T /\ ∀ m n : Nat, m <= B -> n <= B -> MulSpec0 T m n
theorem KThr.upd {w w' : World} {T : Int} {B : Nat} {F : Nat -> Nat -> Prop} (h : KThr w T B) (u : Upd F w w') (hF : ∀ i, ¬ F 2 i) : KThr w' T B := ⟨Zh.upd h.1 u (hF 0), h.2⟩
theorem KThr.le {w : World} {T : Int} {B C : Nat} (h : KThr w T B) (hC : C <= B) : KThr w T C := ⟨h.1, fun m n hm hn => h.2 m n (by omega) (by omega)⟩
theorem KThr.small {w : World} {T : Int} (h : Thr w T) {B : Nat} (hB : (B : Int) < T) : KThr w T B := ⟨h, fun m n hm hn => mul_small0 T m n (by omega)⟩
end Go.Proofs.YthkklkjldpcbkaaGreatDoor
