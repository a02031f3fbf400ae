/- For the claim of laws.FnInverse: Mul, StkD, MulM, MulK, MulK0, IntMul, IntMulK. -/
import Derived.Test.YthkklkjldpcbkaaGreatDoorLiA5
import Derived.Deep.DeepCutAuto
import Derived.Defers
import Derived.StillTailTactics
import Derived.BigRegion
set_option linter.unusedVariables false
set_option linter.unusedSimpArgs false
set_option maxHeartbeats 16000000
set_option maxRecDepth 1000000
namespace Go.Proofs.YthkklkjldpcbkaaGreatDoor
open Go.RowKit
def Zj (z x : Loc) : Prop := z.c = 0 \/ x.c = 0 \/ x.b ≠ z.b \/ x.o + x.c <= z.o \/ z.o + z.c <= x.o
def Rel (z x : Loc) : Prop := z = x \/ Zj z x
theorem Zj.alias {z x : Loc} (h : Zj z x) : aliasB z x = false := by
 unfold aliasB
 rw [decide_eq_false_iff_not]
 rintro ⟨h1, h2, h3, h4⟩
 unfold Zj at h
 omega
theorem Rel.up {z x : Loc} {n : Nat} (h : Rel z x) (hn : n <= x.c) (h0 : 0 < z.c) : UpOk z.b z.o x.b x.o n := by
 rcases h with rfl | h
 . exact UpOk.self _ _ _
 .
  unfold Zj at h
  unfold UpOk
  omega
theorem Zj.zf {l m : Loc} {k i : Nat} (h : Zj l m) (hi : i < m.c) : ¬ ZF l k m.b (m.o + i) := by
 rintro ⟨h1, h2, h3, h4⟩
 unfold Zj at h; omega
def Thr (w : World) (T : Int) : Prop := Zh 3 w 2 0 (.int .i64 T)
theorem mul_nil (z x y : Loc) (S : Value) (nz m n : Nat) (w : World) (hn : n = 0) (hmn : n <= m) :
  Calls Tryz.prog 70 #[.slice z.A nz z.c, S, .slice x.A m x.c, .slice y.A n y.c] w fun e w' => e = .returned (.slice z.A 0 z.c) /\ w' = w := by
 subst hn
 have q0 : (0 : Int) <= (z.c : Int) := by omega
 have q1 : ((0 : Int) == 0) = true := rfl
 have q2 : ¬ m < 0 := by omega
 have q3 : decide (m < 0) = false := decide_eq_false q2
 by_cases hm : m = 0
 .
  subst hm
  go_enter Tryz.func70, Tryz.ntmps70
  go_wp2
  go_ret
  exact ⟨by cases z.A <;> simp, rfl⟩
 .
  have q4 : ((m : Int) == 0) = false := beq_eq_false_iff_ne.2 (by omega)
  go_enter Tryz.func70, Tryz.ntmps70
  go_wp2
  go_ret
  exact ⟨by cases z.A <;> simp, rfl⟩
theorem mul_one (z x y : Loc) (S : Value) (nz m : Nat) (xs ys : List Nat) (w : World) (hz : z.Ok w) (hx : VecV w x xs) (hy : VecV w y ys) (lx : xs.length = m) (ly : ys.length = 1) (hm0 : 0 < m) (hm : m + 1 <= 1099511627776) (rx : Rel z x) :
  Calls Tryz.prog 70 #[.slice z.A nz z.c, S, .slice x.A m x.c, .slice y.A 1 y.c] w fun e w' => MulRes w z (m + 1 <= z.c) (m + 1) (val B64 xs * val B64 ys) NoF e w' := by
 obtain ⟨y0, rfl⟩ : ∃ y0, ys = [y0] := by
  match ys, ly with
  | [y0], _ => exact ⟨y0, rfl⟩
 have e1 := hy.addr (by simp)
 have hy0 := (hy.at_ 0 (by simp)).cell
 simp only [Nat.add_zero, List.getElem_cons_zero] at hy0
 have hyB := hy.dig.head
 have HW := Qq (mulW_any z x nz m y0 xs w hz hx lx hm0 hm hyB (fun h => rx.up (by rw [<- lx]; exact hx.le) (by omega)))
 have hv : val B64 [y0] = y0 := by simp
 rw [hv]
 obtain ⟨yA, yc, yb, yo⟩ := y
 simp only at e1 hy0
 subst e1
 have q2 : decide (m < 1) = false := decide_eq_false (by omega)
 have q4 : ((m : Int) == 0) = false := beq_eq_false_iff_ne.2 (by omega)
 have q5 : ((1 : Int) == 0) = false := rfl
 have q6 : ((1 : Int) == 1) = true := rfl
 clear hx hy rx lx hv ly hyB
 go_enter Tryz.func70, Tryz.ntmps70
 go_wp2_with fail
 refine HW.out.mono ?_
 clear HW
 rintro e w1 ⟨r, rs, rfl, h⟩
 go_wp2
 go_ret
 exact ⟨r, rs, rfl, h⟩
theorem MulRes.made {w w1 w2 : World} {z z' : Loc} {b o c n N : Nat} {rs : List Nat} {reuse : Prop} (hF : From w z' (Loc.mk1 b o c) n) (hz' : z' = z \/ z'.c = 0) (hre : reuse -> z' = z /\ n <= z.c) (h0 : 0 < n) (u1 : Upd NoF w w1) (u2 : Upd (Rg b o (o + n)) w1 w2)
  (hO : (Loc.mk1 b o c).Ok w1) (hc : n <= c) (hl : rs.length = n) (hR : U64 w2 b o rs) (hD : Digs B64 rs) (hv : val B64 rs = N) {F : Nat -> Nat -> Prop} :
  MulRes w z reuse n N F (.returned (.slice (some ⟨b, o, none⟩) (digs N).length c)) w2 := by
 have hr : Loc.mk1 b o c = z /\ n <= z.c \/ w.heap.size <= b := by
  rcases hF with ⟨h1, h2⟩ | ⟨_, h, _⟩
  .
   rcases hz' with h | h
   . rw [h] at h1 h2; exact Or.inl ⟨h2, h1⟩
   . omega
  . exact Or.inr h
 refine ⟨Loc.mk1 b o c, rs, rfl, ?_, ?_, by omega, by simp only; omega, hR, hD, hv, hO.upd u2, ?_⟩
 .
  rcases hr with ⟨h, _⟩ | h
  . exact Or.inl h
  . exact Or.inr h
 .
  intro h
  obtain ⟨h1, h2⟩ := hre h
  rcases hF with ⟨_, h'⟩ | ⟨h', _, _⟩
  . rw [h', h1]
  . rw [h1] at h'; omega
 .
  refine u1.then u2 (fun _ _ _ h => h.elim) ?_
  rintro b' i hb ⟨rfl, g1, g2⟩
  rcases hr with ⟨h, h'⟩ | h
  . subst h; exact Or.inl ⟨rfl, g1, by simp only; omega, by simp only; omega⟩
  . omega
def free2 (z x y : Loc) : Loc := if aliasB z x || aliasB z y then ⟨none, 0, 0, 0⟩ else z
theorem Rel.alias {z x : Loc} (h : Rel z x) (h0 : aliasB z x = false) : Zj z x := by
 rcases h with rfl | h
 .
  have : z.c = 0 := by unfold aliasB at h0; rw [decide_eq_false_iff_not] at h0; omega
  exact Or.inl this
 . exact h
theorem From.apart {w : World} {z' x : Loc} {b o c need n : Nat} (hF : From w z' (Loc.mk1 b o c) need) (ha : need <= z'.c -> Zj z' x) (hn : n <= x.c) (h0 : 0 < n) (hlt : x.b < w.heap.size) (hp : 0 < need) :
  x.b ≠ b \/ x.o + n <= o \/ o + need <= x.o := by
 rcases hF with ⟨h1, h2⟩ | ⟨_, h, _⟩
 .
  have := ha h1
  subst h2
  unfold Zj at this
  simp only at *
  omega
 . simp only at h; omega
theorem basicMul_loc (z' x y : Loc) (b o c m n : Nat) (xs ys : List Nat) (w w1 : World) (hx : VecV w x xs) (hy : VecV w y ys) (lx : xs.length = m) (ly : ys.length = n) (hm0 : 0 < m) (hn0 : 0 < n) (hm : m + n <= 1099511627776)
  (hF : From w z' (Loc.mk1 b o c) (m + n)) (hax : Zj z' x) (hay : Zj z' y) (hc : m + n <= c) (hO : (Loc.mk1 b o c).Ok w1) (u1 : Upd NoF w w1) :
  Calls Tryz.prog 94 #[.slice (some ⟨b, o, none⟩) (m + n) c, .slice x.A m x.c, .slice y.A n y.c] w1 fun e w' =>
   ∃ rs : List Nat, e = .returned (.tuple #[]) /\ Upd (Rg b o (o + (m + n))) w1 w' /\ U64 w' b o rs /\ rs.length = m + n /\ Digs B64 rs /\ val B64 rs = val B64 xs * val B64 ys := by
 have exA := hx.addr (by omega)
 have eyA := hy.addr (by omega)
 have hx1 := hx.at_.upd u1 (fun _ _ h => h)
 have hy1 := hy.at_.upd u1 (fun _ _ h => h)
 have apx := From.apart (n := m) hF (fun _ => hax) (by rw [<- lx]; exact hx.le) (by omega) (hx.at_.lt (by omega)) (by omega)
 have apy := From.apart (n := n) hF (fun _ => hay) (by rw [<- ly]; exact hy.le) (by omega) (hy.at_.lt (by omega)) (by omega)
 rw [exA, eyA]
 exact basicMul_any b o c x.b x.o x.c y.b y.o y.c m n (m + n) xs ys w1 lx ly (by omega) rfl hc hm (hO.live.le hc) hx1 hy1 hx.dig hy.dig apx apy
theorem free2_Ok {w : World} {z x y : Loc} (hz : z.Ok w) : (free2 z x y).Ok w := by
 unfold free2; split
 . exact Loc.Ok.nil _ 0 0
 . exact hz
theorem free2_zero (z x y : Loc) : free2 z x y = z \/ (free2 z x y).c = 0 := by
 unfold free2; split
 . exact Or.inr rfl
 . exact Or.inl rfl
theorem free2_x {z x y : Loc} (h : Rel z x) : Zj (free2 z x y) x := by
 unfold free2; split
 . exact Or.inl rfl
 . rename_i h0; simp at h0; exact h.alias h0.1
theorem free2_y {z x y : Loc} (h : Rel z y) : Zj (free2 z x y) y := by
 unfold free2; split
 . exact Or.inl rfl
 . rename_i h0; simp at h0; exact h.alias h0.2
theorem free2_self {z x y : Loc} (h : Zj z x) (k : Zj z y) : free2 z x y = z := by
 unfold free2; rw [h.alias, k.alias]; rfl
theorem mul_basic (z x y : Loc) (S : Value) (nz m n : Nat) (T : Int) (xs ys : List Nat) (w : World) (hz : z.Ok w) (hx : VecV w x xs) (hy : VecV w y ys) (lx : xs.length = m) (ly : ys.length = n) (hn : 2 <= n) (hnm : n <= m) (hm : m + n <= 1099511627776) (rx : Rel z x) (ry : Rel z y)
  (hT : Thr w T) (hlt : (n : Int) < T) :
  Calls Tryz.prog 70 #[.slice z.A nz z.c, S, .slice x.A m x.c, .slice y.A n y.c] w fun e w' => MulRes w z (Zj z x /\ Zj z y /\ m + n <= z.c) (m + n) (val B64 xs * val B64 ys) NoF e w' := by
 have q2 : decide (m < n) = false := decide_eq_false (by omega)
 have q4 : ((m : Int) == 0) = false := beq_eq_false_iff_ne.2 (by omega)
 have q5 : ((n : Int) == 0) = false := beq_eq_false_iff_ne.2 (by omega)
 have q6 : ((n : Int) == 1) = false := beq_eq_false_iff_ne.2 (by omega)
 have exA := hx.addr (by omega)
 have eyA := hy.addr (by omega)
 have HA := Qq (alias_any z x nz m w hz hx.ok)
 have HA2 := Qq (fun q => alias_any z y nz n (w.drewN q) (hz.upd ((Upd.refl NoF w).drewN q)) (hy.ok.upd ((Upd.refl NoF w).drewN q)))
 have HX := Qq (Qj hx (Qj hy (Qj lx (Qj ly (Qj exA eyA)))))
 clear exA eyA lx ly hx hy
 go_enter Tryz.func70, Tryz.ntmps70
 go_upto_region 9 with fail
 go_cut [51] from 13 to 120 (fun s51 wx => s51 = .bool (aliasB z x || aliasB z y) /\ ∃ q : Nat, wx = w.drewN q)
 case first =>
  by_cases hal : aliasB z x = true
  .
   have HF := Qq hal
   rw [hal] at HA
   clear hal
   go_wp2_with fail
   refine HA.out.mono ?_
   rintro e w1 ⟨rfl, q, rfl⟩
   go_wp2_with fail
   go_meet
   case rel => exact ⟨by rw [HF.out]; rfl, q, rfl⟩
  .
   have hal0 : aliasB z x = false := by simpa using hal
   rw [hal0] at HA
   have HF := Qq hal0
   clear hal hal0
   go_wp2_with fail
   refine HA.out.mono ?_
   rintro e w1 ⟨rfl, q, rfl⟩
   go_wp2_with fail
   refine (HA2.out q).mono ?_
   rintro e w1 ⟨rfl, q', rfl⟩
   go_wp2_with fail
   go_meet
   case rel => exact ⟨by rw [HF.out]; rfl, q + q', rfl⟩
 case rest =>
  obtain ⟨rfl, q, rfl⟩ := hcut
  clear HA HA2
  go_upto_if 51 with fail
  go_cut [0] from 13 to 120 (fun s0 wx => (∃ nz' : Nat, s0 = .slice (free2 z x y).A nz' (free2 z x y).c) /\ wx = w.drewN q)
  case first =>
   by_cases hal : (aliasB z x || aliasB z y) = true
   .
    have HF := Qq hal
    rw [hal]
    clear hal
    go_wp2_with fail
    go_meet
    case rel => exact ⟨⟨0, by unfold free2; rw [HF.out]; rfl⟩, rfl⟩
   .
    have hal0 : (aliasB z x || aliasB z y) = false := by simpa using hal
    have HF := Qq hal0
    rw [hal0]
    clear hal hal0
    go_wp2_with fail
    go_meet
    case rel => exact ⟨⟨nz, by unfold free2; rw [HF.out]; rfl⟩, rfl⟩
  case rest =>
   obtain ⟨⟨nz', rfl⟩, rfl⟩ := hcut
   obtain ⟨z', ez⟩ : ∃ z', free2 z x y = z' := ⟨_, rfl⟩
   have hz' : z'.Ok (w.drewN q) := by rw [<- ez]; exact (free2_Ok hz).upd ((Upd.refl NoF w).drewN q)
   have hzz : z' = z \/ z'.c = 0 := by rw [<- ez]; exact free2_zero z x y
   have hax : Zj z' x := by rw [<- ez]; exact free2_x rx
   have hay : Zj z' y := by rw [<- ez]; exact free2_y ry
   have hre : Zj z x /\ Zj z y /\ m + n <= z.c -> z' = z /\ m + n <= z.c := fun h => ⟨by rw [<- ez]; exact free2_self h.1 h.2.1, h.2.2⟩
   rw [ez]
   have hu0 : Upd NoF w (w.drewN q) := (Upd.refl NoF w).drewN q
   have HZ := Qq (Qj hzz (Qj hax (Qj hay hre)))
   clear ez hzz hax hay hre rx ry hz
   go_wp2_with fail
   refine (make_pos z' nz' (m + n) _ _ hz' (by omega) (by omega) hm).mono ?_
   rintro e w1 ⟨b, o, c, rfl, hF, hO, hc, hU⟩
   have u1 : Upd NoF w w1 := hu0.trans hU
   have c9 := (hT.upd u1 (fun h => h)).cell
   have hF' : From w z' (Loc.mk1 b o c) (m + n) := hF
   have HB := Qq (basicMul_loc z' x y b o c m n xs ys w w1 HX.out.1 HX.out.2.1 HX.out.2.2.1 HX.out.2.2.2.1 (by omega) (by omega) hm hF' HZ.out.2.1 HZ.out.2.2.1 hc hO u1)
   have HM := Qq (fun (w2 : World) (rs : List Nat) (u2 : Upd (Rg b o (o + (m + n))) w1 w2) (h1 : U64 w2 b o rs) (h2 : rs.length = m + n) (h3 : Digs B64 rs) (h4 : val B64 rs = val B64 xs * val B64 ys) =>
    MulRes.made (z := z) (reuse := Zj z x /\ Zj z y /\ m + n <= z.c) (F := NoF) hF' HZ.out.1 HZ.out.2.2.2 (by omega) u1 u2 hO hc h2 h1 h3 h4)
   have hc63 := hO.1
   clear hF hF' hO hU u1 hu0 hz' HX HZ hT
   go_wp2_with fail
   refine HB.out.mono ?_
   clear HB
   rintro e w2 ⟨rs, rfl, u2, hR, hl, hD, hv⟩
   have HR := Qq (HM.out w2 rs u2 hR hl hD hv)
   have HV := Qq (Qj hl hv)
   clear HM hl hv u2 c9
   go_wp2_with fail
   refine (norm_len b o c (m + n) rs w2 HV.out.1 hc hc63 hR hD).mono ?_
   rintro e w3 ⟨rfl, hw3⟩
   cases hw3.symm
   go_wp2
   go_ret
   rw [HV.out.2]
   exact HR.out
theorem restore_d (sb n k : Nat) (J : SI) (u : FrameMode) (w : World) (h : StkV w sb n J) (hk : k <= n) :
  CallsD Tryz.prog 96 #[.pointer (some ⟨sb, 0, none⟩), .int .i64 (k : Int)] u w fun e u' w' => u' = u /\ (e = .returned (.tuple #[]) /\ StkV w' sb k J /\ Upd (J.K sb n) w w') := by
 cases J with
 | none =>
  obtain ⟨rfl, h1⟩ := h
  have hk0 : k = 0 := by omega
  subst hk0
  have c0 := h1.cell
  go_enter_d Tryz.func96, Tryz.ntmps96
  go_wp2
  refine bodyPost_ret (results_none rfl _ _ _) rfl ?_
  exact ⟨rfl, ⟨rfl, h1⟩, Upd.refl _ _⟩
 | some ib l =>
  have c0 := h.2.1.cell
  go_enter_d Tryz.func96, Tryz.ntmps96
  go_wp2_with (go_at_call 117; refine (si_restore_any ib n k l w h.2.2.1 hk h.2.2.2.1).mono ?_; rintro e w' ⟨rfl, rfl⟩)
  go_end0
  exact ⟨rfl, h.cut hk, (Upd.refl _ w).setCell (fun _ => Or.inr (Or.inl rfl)) _⟩
theorem free_d (sb n : Nat) (J : SI) (u : FrameMode) (w : World) (h : StkV w sb n J) :
  CallsD Tryz.prog 86 #[.pointer (some ⟨sb, 0, none⟩)] u w fun e u' w' => u' = u /\ (e = .returned (.tuple #[]) /\ StkV w' sb 0 J /\ Upd (J.K sb n) w w') := by
 cases J with
 | none =>
  obtain ⟨rfl, h1⟩ := h
  have c0 := h1.cell
  go_enter_d Tryz.func86, Tryz.ntmps86
  go_wp2
  go_end0
  exact ⟨rfl, ⟨rfl, h1⟩, Upd.refl _ _⟩
 | some ib l =>
  have c0 := h.2.1.cell
  go_enter_d Tryz.func86, Tryz.ntmps86
  go_wp2_with (go_at_call 105; refine (si_free_any ib n l w h.2.2.1).mono ?_; rintro e w' ⟨rfl, rfl⟩)
  go_end0
  exact ⟨rfl, h.cut (Nat.zero_le _), (Upd.refl _ w).setCell (fun _ => Or.inr (Or.inl rfl)) _⟩
def Off (J : SI) (sb n : Nat) (l : Loc) : Prop := ∀ i, i < l.c -> ¬ J.K sb n l.b (l.o + i)
theorem StkV.lt {w : World} {sb n : Nat} {J : SI} {b i : Nat} (h : StkV w sb n J) (k : J.K sb n b i) : b < w.heap.size := by
 cases J with
 | none => exact k ▸ h.2.lt
 | some ib l =>
  rcases k with k | k | ⟨k, _, hc⟩
  . exact k ▸ h.2.1.lt
  . exact k ▸ h.2.2.1.lt
  .
   have := ((h.2.2.2.2.2.1.2 hc).2.free hc).lt
   exact k ▸ this
theorem StkV.no {w : World} {sb n : Nat} {J : SI} (h : StkV w sb n J) {T : TypeId} {b i : Nat} {v : Value} (c : Zh T w b i v) (h1 : T ≠ 129) (h2 : T ≠ 138) (h3 : T ∈ special) (j : Nat) : ¬ J.K sb n b j := by
 intro k
 cases J with
 | none =>
  have : b = sb := k
  subst this
  exact (c.ne h.2 h1) rfl
 | some ib l =>
  rcases k with k | k | ⟨k, _, hc⟩
  . subst k; exact (c.ne h.2.1 h1) rfl
  . subst k; exact (c.ne h.2.2.1 h2) rfl
  .
   obtain ⟨u, hu⟩ := (h.2.2.2.2.2.1.2 hc).2 0 hc
   subst k; exact (c.neW hu h3) rfl
theorem Off.new {w : World} {sb n : Nat} {J : SI} (h : StkV w sb n J) {l : Loc} (hb : w.heap.size <= l.b) : Off J sb n l := fun _ _ k => by have := h.lt k; omega
def G (k : Nat) : Nat := (k + 4) * (k + 4)
theorem G_mono {a b : Nat} (h : a <= b) : G a <= G b := Nat.mul_le_mul (by omega) (by omega)
theorem G_le (k : Nat) : k + 4 <= G k := by unfold G; exact Nat.le_mul_of_pos_left _ (by omega)
def MulPost (w : World) (z : Loc) (reuse : Prop) (need N sb ns : Nat) (J : SI) (e : Ending) (w' : World) : Prop :=
 ∃ (r : Loc) (rs : List Nat) (J' : SI), e = .returned (.slice r.A (digs N).length r.c) /\ (r = z \/ w.heap.size <= r.b) /\ (reuse -> r = z) /\ rs.length <= need /\ rs.length <= r.c /\ U64 w' r.b r.o rs /\ Digs B64 rs /\ val B64 rs = N /\ r.Ok w' ∧
  Upd (Or2 (ZF z rs.length) (J.K sb ns)) w w' /\ StkV w' sb ns J' /\ SI.Le w sb J J' /\ Off J' sb ns r
theorem Upd.weak {F G : Nat -> Nat -> Prop} {w w' : World} (h : Upd F w w') (k : ∀ b i, F b i -> G b i) : Upd G w w' := h.mono (fun b i _ => k b i)
theorem Loc.Ok.lt {w : World} {l : Loc} (h : l.Ok w) (h0 : 0 < l.c) : l.b < w.heap.size := (h.free h0).lt
theorem Zj.symm {x y : Loc} (h : Zj x y) : Zj y x := by unfold Zj at *; omega
theorem Off.old {w1 : World} {sb ns n' : Nat} {J J' : SI} {l : Loc} (h : Off J sb ns l) (hb : 0 < l.c -> l.b < w1.heap.size) (hJ : SI.Le w1 sb J J') (hn : ns <= n') : Off J' sb n' l := fun i hi k =>
 h i hi (hJ _ _ _ (hb (by omega)) (k.mono hn))
theorem Thr.upd {w w' : World} {T : Int} {F : Nat -> Nat -> Prop} (h : Thr w T) (u : Upd F w w') (hF : ∀ i, ¬ F 2 i) : Thr w' T := Zh.upd h u (hF 0)
def TJ (w1 : World) (t : Loc) (sb ns : Nat) (J : SI) : Prop := ∀ i, i < t.c -> J.K sb ns t.b (t.o + i) \/ w1.heap.size <= t.b
theorem TJ.apart {w1 : World} {t x : Loc} {sb ns : Nat} {J : SI} (h : TJ w1 t sb ns J) (ox : Off J sb ns x) (bx : 0 < x.c -> x.b < w1.heap.size) : Zj t x := by
 unfold Zj
 rcases Nat.lt_or_ge 0 t.c with ht | ht
 .
  rcases Nat.lt_or_ge 0 x.c with hx | hx
  .
   by_cases hb : x.b = t.b
   .
    by_cases h1 : x.o + x.c <= t.o
    . omega
    .
     by_cases h2 : t.o + t.c <= x.o
     . omega
     .
      exfalso
      have := bx hx
      rcases Nat.lt_or_ge t.o x.o with h3 | h3
      .
       have k := h (x.o - t.o) (by omega)
       have k2 := ox 0 hx
       rw [show t.o + (x.o - t.o) = x.o from by omega] at k
       rw [Nat.add_zero, hb] at k2
       rcases k with k | k
       . exact k2 k
       . omega
      .
       have k := h 0 ht
       have k2 := ox (t.o - x.o) (by omega)
       rw [show x.o + (t.o - x.o) = t.o from by omega, hb] at k2
       rw [Nat.add_zero] at k
       rcases k with k | k
       . exact k2 k
       . omega
   . omega
  . omega
 . omega
def MulSpec0 (T : Int) (m n : Nat) : Prop := ∀ (z x y : Loc) (nz : Nat) (xs ys : List Nat) (w : World), z.Ok w -> VecV w x xs -> VecV w y ys -> xs.length = m -> ys.length = n -> Rel z x -> Rel z y -> Thr w T -> G (m + n) <= 1099511627776 →
 Calls Tryz.prog 70 #[.slice z.A nz z.c, .pointer none, .slice x.A m x.c, .slice y.A n y.c] w fun e w' => MulRes w z (Zj z x /\ Zj z y /\ m + n <= z.c) (m + n) (val B64 xs * val B64 ys) NoF e w'
theorem iInt3 : (Tryz.prog.info? 58).map (fun i => i.size) = some 2 := by kernel_rfl
theorem uPInt : Tryz.prog.underlying 54 = some (.pointer 58) := by kernel_rfl
theorem eql_ints {w : World} {b b' : Nat} (ha : Free w b) (hb : Free w b') {r : Bool} (hr : ((⟨b, 0, none⟩ : Addr) == ⟨b', 0, none⟩) = r) :
  (binOp .eql 54 (.pointer (some ⟨b, 0, none⟩)) (.pointer (some ⟨b', 0, none⟩))).run Tryz.prog w = .ok (.bool r) w := by
 obtain ⟨i, hi⟩ : ∃ i, Tryz.prog.info? 58 = some i /\ i.size = 2 := by
  have h := iInt3
  cases hq : Tryz.prog.info? 58 with
  | none => rw [hq] at h; cases h
  | some i => exact ⟨i, rfl, by rw [hq] at h; simpa using h⟩
 exact run_eql_ptr (a := ⟨b, 0, none⟩) (b := ⟨b', 0, none⟩) uPInt hi.1 (by omega) ha hb hr
theorem eql_intsO {w : World} {b b' o' : Nat} (ha : Free w b) (hb : Free w b') {r : Bool} (hr : ((⟨b, 0, none⟩ : Addr) == ⟨b', o', none⟩) = r) :
  (binOp .eql 54 (.pointer (some ⟨b, 0, none⟩)) (.pointer (some ⟨b', o', none⟩))).run Tryz.prog w = .ok (.bool r) w := by
 obtain ⟨i, hi⟩ : ∃ i, Tryz.prog.info? 58 = some i /\ i.size = 2 := by
  have h := iInt3
  cases hq : Tryz.prog.info? 58 with
  | none => rw [hq] at h; cases h
  | some i => exact ⟨i, rfl, by rw [hq] at h; simpa using h⟩
 exact run_eql_ptr (a := ⟨b, 0, none⟩) (b := ⟨b', o', none⟩) uPInt hi.1 (by omega) ha hb hr
theorem sign_mul {X Y : Int} {sx sy : Bool} (hx : decide (X < 0) = sx) (hy : decide (Y < 0) = sy) (h0 : X.natAbs * Y.natAbs ≠ 0) : decide (X * Y < 0) = (sx != sy) := by
 have hX : X ≠ 0 := by intro h; subst h; simp at h0
 have hY : Y ≠ 0 := by intro h; subst h; simp at h0
 subst hx; subst hy
 rcases Int.lt_or_gt_of_ne hX with h1 | h1 <;> rcases Int.lt_or_gt_of_ne hY with h2 | h2
 .
  have := Int.mul_pos_of_neg_of_neg h1 h2
  simp [h1, h2]; omega
 .
  have := Int.mul_neg_of_neg_of_pos h1 h2
  have h3 : ¬ Y < 0 := by omega
  simp [h1, h3, this]
 .
  have := Int.mul_neg_of_pos_of_neg h1 h2
  have h3 : ¬ X < 0 := by omega
  simp [h2, h3, this]
 .
  have := Int.mul_pos h1 h2
  have h3 : ¬ X < 0 := by omega
  have h4 : ¬ Y < 0 := by omega
  simp [h3, h4]; omega
theorem Int_mul_gen (zb xb yb : Nat) (lz lx ly : Loc) (sz : Bool) (nz : Nat) (X Y : Int) (S : Value) (w : World) (hz : IntD w zb lz sz nz) (hx : IntV w xb lx X) (hy : IntV w yb ly Y) (hne : xb ≠ yb) (Q : Loc -> World -> Prop)
  (HM : ∀ w', Upd NoF w w' -> Calls Tryz.prog 70 #[.slice lz.A nz lz.c, S, .slice lx.A (digs X.natAbs).length lx.c, .slice ly.A (digs Y.natAbs).length ly.c] w' fun e w1 => ∃ r : Loc, e = .returned (.slice r.A (digs (X.natAbs * Y.natAbs)).length r.c) /\ Q r w1)
  (hQ : ∀ r w1, Q r w1 -> IntD w1 zb lz sz nz /\ Zh 58 w1 xb 0 (.bool (decide (X < 0))) /\ Zh 58 w1 yb 0 (.bool (decide (Y < 0)))) :
  Calls Tryz.prog 57 #[.pointer (some ⟨zb, 0, none⟩), S, .pointer (some ⟨xb, 0, none⟩), .pointer (some ⟨yb, 0, none⟩)] w fun e w' => e = .returned (.tuple #[]) ∧
   ∃ (r : Loc) (w1 : World) (k : Nat), Q r w1 /\ w' = ((w1.setCell ⟨zb, 1, none⟩ (.slice r.A (digs (X.natAbs * Y.natAbs)).length r.c)).setCell ⟨zb, 0, none⟩ (.bool (decide (X * Y < 0)))).drewN k := by
 have c1 := hz.neg.cell
 have c2 := hz.neg.frozen
 have c3 := hz.abs.cell
 have c4 := hz.abs.frozen
 have c6 := hx.abs.cell
 have c8 := hy.abs.cell
 have heq := eql_ints hx.neg.free hy.neg.free (r := false) (by rw [addr_beq]; exact decide_eq_false (fun h => hne h.1))
 obtain ⟨sx, hsx⟩ : ∃ s, decide (X < 0) = s := ⟨_, rfl⟩
 obtain ⟨sy, hsy⟩ : ∃ s, decide (Y < 0) = s := ⟨_, rfl⟩
 rw [hsx, hsy] at hQ
 have HSX := Qq (Qj hsx hsy)
 have HH := Qq (Qj HM hQ)
 clear hsx hsy HM hQ hx hy
 go_enter Tryz.func57, Tryz.ntmps57
 go_wp2_with fail
 refine Zw 1 14 (by kernel_rfl) (by kernel_rfl) ?_
 simp only [List.take_succ_cons, List.take_zero, List.drop_succ_cons, List.drop_zero]
 repeat (refine Zz ?_ (fun _ _ _ h => h) (by rfl) (by intro _; go_simp; with_reducible rfl) ?_; (try simp only [Act.put, List.setIfInBounds_toArray, List.set_cons_zero, List.set_cons_succ]))
 refine Yd ?_
 repeat still_step
 refine wpStill_nil ?_
 go_wp2_with fail
 refine (HH.out.1 _ ((Upd.refl NoF w).drew)).mono ?_
 rintro e w1 ⟨r, rfl, hq⟩
 obtain ⟨g1, g2, g3⟩ := HH.out.2 r w1 hq
 have d1 := g1.abs.cell
 have d2 := g1.abs.frozen
 have HQ := Qq hq
 clear heq c1 c2 c3 c4 c6 c8 hq
 go_wp2_with fail
 have k1 := (g1.abs.set (.slice r.A (digs (X.natAbs * Y.natAbs)).length r.c))
 have k2 := (g1.neg.far (b' := zb) (i' := 1) (.slice r.A (digs (X.natAbs * Y.natAbs)).length r.c) (by omega))
 have k3 := (g2.far (b' := zb) (i' := 1) (.slice r.A (digs (X.natAbs * Y.natAbs)).length r.c) (by omega))
 have k4 := (g3.far (b' := zb) (i' := 1) (.slice r.A (digs (X.natAbs * Y.natAbs)).length r.c) (by omega))
 obtain ⟨w2, hw2⟩ : ∃ w2, w1.setCell ⟨zb, 1, none⟩ (.slice r.A (digs (X.natAbs * Y.natAbs)).length r.c) = w2 := ⟨_, rfl⟩
 rw [hw2] at k1 k2 k3 k4 ⊢
 have d3 := k1.cell
 have d4 := k2.cell
 have d5 := k2.frozen
 have d6 := k3.cell
 have d7 := k4.cell
 have HW := Qq hw2
 clear hw2 k1 k2 k3 k4 d1 d2 g1 g2 g3
 by_cases h0 : X.natAbs * Y.natAbs = 0
 .
  have q0 : decide (0 < (digs (X.natAbs * Y.natAbs)).length) = false := decide_eq_false (by rw [Zg.2 h0]; omega)
  have e1 : decide (X * Y < 0) = false := decide_eq_false (by rw [<- Int.natAbs_mul] at h0; omega)
  have HE := Qq e1
  clear e1 h0
  go_region
  all_goals
   go_wp2
   go_end0
   refine ⟨rfl, r, w1, 1, HQ.out, ?_⟩
   rw [HE.out, HW.out]; rfl
 .
  have q0 : decide (0 < (digs (X.natAbs * Y.natAbs)).length) = true := decide_eq_true (by have := mt Zg.1 h0; omega)
  have e1 := sign_mul HSX.out.1 HSX.out.2 h0
  have HE := Qq e1
  clear e1 h0
  go_region
  all_goals
   go_wp2
   go_end0
   refine ⟨rfl, r, w1, 1, HQ.out, ?_⟩
   rw [HE.out, HW.out]; rfl
theorem blk_upd (w : World) (zb k : Nat) (u v : Value) : Upd (Blk zb) w (((w.setCell ⟨zb, 1, none⟩ u).setCell ⟨zb, 0, none⟩ v).drewN k) :=
 (((Upd.refl (Blk zb) w).setCell (fun _ => rfl) _).setCell (fun _ => rfl) _).drewN k
end Go.Proofs.YthkklkjldpcbkaaGreatDoor
