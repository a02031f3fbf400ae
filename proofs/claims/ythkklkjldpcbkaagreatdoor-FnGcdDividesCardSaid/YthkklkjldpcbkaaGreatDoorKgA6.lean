/- For the claim of laws.FnGcdDivides: Mul, StkD, MulM, MulK, MulK0, IntMul, IntMulK. -/
import Derived.Test.YthkklkjldpcbkaaGreatDoorKgA5
import Derived.Deep.DeepCutAuto
import Derived.Defers
import Derived.StillTailTactics
import Derived.BigRegion
set_option linter.unusedVariables false
set_option linter.unusedSimpArgs false
namespace Go.Proofs.YthkklkjldpcbkaaGreatDoor
open Go.RowKit
def Apart (z x : Loc) : Prop := z.c = 0 ∨ x.c = 0 ∨ x.b ≠ z.b ∨ x.o + x.c ≤ z.o ∨ z.o + z.c ≤ x.o
def Rel (z x : Loc) : Prop := z = x ∨ Apart z x
theorem Apart.alias {z x : Loc} (h : Apart z x) : aliasB z x = false := by
 unfold aliasB
 rw [decide_eq_false_iff_not]
 rintro ⟨h1, h2, h3, h4⟩
 unfold Apart at h
 omega
theorem Rel.up {z x : Loc} {n : Nat} (h : Rel z x) (hn : n ≤ x.c) (h0 : 0 < z.c) : UpOk z.b z.o x.b x.o n := by
 rcases h with rfl | h
 · exact UpOk.self _ _ _
 ·
  unfold Apart at h
  unfold UpOk
  omega
theorem Apart.zf {l m : Loc} {k i : Nat} (h : Apart l m) (hi : i < m.c) : ¬ ZF l k m.b (m.o + i) := by
 rintro ⟨h1, h2, h3, h4⟩
 unfold Apart at h; omega
def Thr (w : World) (T : Int) : Prop := CellT 3 w 2 0 (.int .i64 T)
set_option maxRecDepth 1000000 in
set_option maxHeartbeats 1600000 in
theorem mul_nil (z x y : Loc) (S : Value) (nz m n : Nat) (w : World) (hn : n = 0) (hmn : n ≤ m) :
  Calls Tryz.prog 70 #[.slice z.A nz z.c, S, .slice x.A m x.c, .slice y.A n y.c] w fun e w' => e = .returned (.slice z.A 0 z.c) ∧ w' = w := by
 subst hn
 have q0 : (0 : Int) ≤ (z.c : Int) := by omega
 have q1 : ((0 : Int) == 0) = true := rfl
 have q2 : ¬ m < 0 := by omega
 have q3 : decide (m < 0) = false := decide_eq_false q2
 by_cases hm : m = 0
 ·
  subst hm
  go_enter Tryz.func70, Tryz.ntmps70
  go_wp2
  go_ret
  exact ⟨by cases z.A <;> simp, rfl⟩
 ·
  have q4 : ((m : Int) == 0) = false := beq_eq_false_iff_ne.2 (by omega)
  go_enter Tryz.func70, Tryz.ntmps70
  go_wp2
  go_ret
  exact ⟨by cases z.A <;> simp, rfl⟩
set_option maxRecDepth 1000000 in
set_option maxHeartbeats 1600000 in
theorem mul_one (z x y : Loc) (S : Value) (nz m : Nat) (xs ys : List Nat) (w : World) (hz : z.Ok w) (hx : VecV w x xs) (hy : VecV w y ys) (lx : xs.length = m) (ly : ys.length = 1) (hm0 : 0 < m) (hm : m + 1 ≤ 1099511627776) (rx : Rel z x) :
  Calls Tryz.prog 70 #[.slice z.A nz z.c, S, .slice x.A m x.c, .slice y.A 1 y.c] w fun e w' => MulRes w z (m + 1 ≤ z.c) (m + 1) (val B64 xs * val B64 ys) NoF e w' := by
 obtain ⟨y0, rfl⟩ : ∃ y0, ys = [y0] := by
  match ys, ly with
  | [y0], _ => exact ⟨y0, rfl⟩
 have e1 := hy.addr (by simp)
 have hy0 := (hy.at_ 0 (by simp)).cell
 simp only [Nat.add_zero, List.getElem_cons_zero] at hy0
 have hyB := hy.dig.head
 have HW := Lib.hid (mulW_any z x nz m y0 xs w hz hx lx hm0 hm hyB (fun h => rx.up (by rw [← lx]; exact hx.le) (by omega)))
 have hv : val B64 [y0] = y0 := by simp
 rw [hv]
 obtain ⟨yA, yc, yb, yo⟩ := y
 simp only at e1 hy0
 subst e1
 have q2 : decide (m < 1) = false := decide_eq_false (by omega)
 have q4 : ((m : Int) == 0) = false := beq_eq_false_iff_ne.2 (by omega)
 have q5 : ((1 : Int) == 0) = false := rfl
 have q6 : ((1 : Int) == 1) = true := rfl
 clear hx hy rx lx hv ly hyB
 go_enter Tryz.func70, Tryz.ntmps70
 go_wp2_with fail
 refine HW.out.mono ?_
 clear HW
 rintro e w1 ⟨r, rs, rfl, h⟩
 go_wp2
 go_ret
 exact ⟨r, rs, rfl, h⟩
theorem MulRes.made {w w1 w2 : World} {z z' : Loc} {b o c n N : Nat} {rs : List Nat} {reuse : Prop} (hF : From w z' (Loc.mk1 b o c) n) (hz' : z' = z ∨ z'.c = 0) (hre : reuse → z' = z ∧ n ≤ z.c) (h0 : 0 < n) (u1 : Upd NoF w w1) (u2 : Upd (Rg b o (o + n)) w1 w2)
  (hO : (Loc.mk1 b o c).Ok w1) (hc : n ≤ c) (hl : rs.length = n) (hR : U64 w2 b o rs) (hD : Digs B64 rs) (hv : val B64 rs = N) {F : Nat → Nat → Prop} :
  MulRes w z reuse n N F (.returned (.slice (some ⟨b, o, none⟩) (digs N).length c)) w2 := by
 have hr : Loc.mk1 b o c = z ∧ n ≤ z.c ∨ w.heap.size ≤ b := by
  rcases hF with ⟨h1, h2⟩ | ⟨_, h, _⟩
  ·
   rcases hz' with h | h
   · rw [h] at h1 h2; exact Or.inl ⟨h2, h1⟩
   · omega
  · exact Or.inr h
 refine ⟨Loc.mk1 b o c, rs, rfl, ?_, ?_, by omega, by simp only; omega, hR, hD, hv, hO.upd u2, ?_⟩
 ·
  rcases hr with ⟨h, _⟩ | h
  · exact Or.inl h
  · exact Or.inr h
 ·
  intro h
  obtain ⟨h1, h2⟩ := hre h
  rcases hF with ⟨_, h'⟩ | ⟨h', _, _⟩
  · rw [h', h1]
  · rw [h1] at h'; omega
 ·
  refine u1.then u2 (fun _ _ _ h => h.elim) ?_
  rintro b' i hb ⟨rfl, g1, g2⟩
  rcases hr with ⟨h, h'⟩ | h
  · subst h; exact Or.inl ⟨rfl, g1, by simp only; omega, by simp only; omega⟩
  · omega
def free2 (z x y : Loc) : Loc := if aliasB z x || aliasB z y then ⟨none, 0, 0, 0⟩ else z
theorem Rel.alias {z x : Loc} (h : Rel z x) (h0 : aliasB z x = false) : Apart z x := by
 rcases h with rfl | h
 ·
  have : z.c = 0 := by unfold aliasB at h0; rw [decide_eq_false_iff_not] at h0; omega
  exact Or.inl this
 · exact h
theorem From.apart {w : World} {z' x : Loc} {b o c need n : Nat} (hF : From w z' (Loc.mk1 b o c) need) (ha : need ≤ z'.c → Apart z' x) (hn : n ≤ x.c) (h0 : 0 < n) (hlt : x.b < w.heap.size) (hp : 0 < need) :
  x.b ≠ b ∨ x.o + n ≤ o ∨ o + need ≤ x.o := by
 rcases hF with ⟨h1, h2⟩ | ⟨_, h, _⟩
 ·
  have := ha h1
  subst h2
  unfold Apart at this
  simp only at *
  omega
 · simp only at h; omega
theorem basicMul_loc (z' x y : Loc) (b o c m n : Nat) (xs ys : List Nat) (w w1 : World) (hx : VecV w x xs) (hy : VecV w y ys) (lx : xs.length = m) (ly : ys.length = n) (hm0 : 0 < m) (hn0 : 0 < n) (hm : m + n ≤ 1099511627776)
  (hF : From w z' (Loc.mk1 b o c) (m + n)) (hax : Apart z' x) (hay : Apart z' y) (hc : m + n ≤ c) (hO : (Loc.mk1 b o c).Ok w1) (u1 : Upd NoF w w1) :
  Calls Tryz.prog 94 #[.slice (some ⟨b, o, none⟩) (m + n) c, .slice x.A m x.c, .slice y.A n y.c] w1 fun e w' =>
   ∃ rs : List Nat, e = .returned (.tuple #[]) ∧ Upd (Rg b o (o + (m + n))) w1 w' ∧ U64 w' b o rs ∧ rs.length = m + n ∧ Digs B64 rs ∧ val B64 rs = val B64 xs * val B64 ys := by
 have exA := hx.addr (by omega)
 have eyA := hy.addr (by omega)
 have hx1 := hx.at_.upd u1 (fun _ _ h => h)
 have hy1 := hy.at_.upd u1 (fun _ _ h => h)
 have apx := From.apart (n := m) hF (fun _ => hax) (by rw [← lx]; exact hx.le) (by omega) (hx.at_.lt (by omega)) (by omega)
 have apy := From.apart (n := n) hF (fun _ => hay) (by rw [← ly]; exact hy.le) (by omega) (hy.at_.lt (by omega)) (by omega)
 rw [exA, eyA]
 exact basicMul_any b o c x.b x.o x.c y.b y.o y.c m n (m + n) xs ys w1 lx ly (by omega) rfl hc hm (hO.live.le hc) hx1 hy1 hx.dig hy.dig apx apy
theorem free2_Ok {w : World} {z x y : Loc} (hz : z.Ok w) : (free2 z x y).Ok w := by
 unfold free2; split
 · exact Loc.Ok.nil _ 0 0
 · exact hz
theorem free2_zero (z x y : Loc) : free2 z x y = z ∨ (free2 z x y).c = 0 := by
 unfold free2; split
 · exact Or.inr rfl
 · exact Or.inl rfl
theorem free2_x {z x y : Loc} (h : Rel z x) : Apart (free2 z x y) x := by
 unfold free2; split
 · exact Or.inl rfl
 · rename_i h0; simp at h0; exact h.alias h0.1
theorem free2_y {z x y : Loc} (h : Rel z y) : Apart (free2 z x y) y := by
 unfold free2; split
 · exact Or.inl rfl
 · rename_i h0; simp at h0; exact h.alias h0.2
theorem free2_self {z x y : Loc} (h : Apart z x) (k : Apart z y) : free2 z x y = z := by
 unfold free2; rw [h.alias, k.alias]; rfl
set_option maxRecDepth 1000000 in
set_option maxHeartbeats 1600000 in
theorem mul_basic (z x y : Loc) (S : Value) (nz m n : Nat) (T : Int) (xs ys : List Nat) (w : World) (hz : z.Ok w) (hx : VecV w x xs) (hy : VecV w y ys) (lx : xs.length = m) (ly : ys.length = n) (hn : 2 ≤ n) (hnm : n ≤ m) (hm : m + n ≤ 1099511627776) (rx : Rel z x) (ry : Rel z y)
  (hT : Thr w T) (hlt : (n : Int) < T) :
  Calls Tryz.prog 70 #[.slice z.A nz z.c, S, .slice x.A m x.c, .slice y.A n y.c] w fun e w' => MulRes w z (Apart z x ∧ Apart z y ∧ m + n ≤ z.c) (m + n) (val B64 xs * val B64 ys) NoF e w' := by
 have q2 : decide (m < n) = false := decide_eq_false (by omega)
 have q4 : ((m : Int) == 0) = false := beq_eq_false_iff_ne.2 (by omega)
 have q5 : ((n : Int) == 0) = false := beq_eq_false_iff_ne.2 (by omega)
 have q6 : ((n : Int) == 1) = false := beq_eq_false_iff_ne.2 (by omega)
 have exA := hx.addr (by omega)
 have eyA := hy.addr (by omega)
 have HA := Lib.hid (alias_any z x nz m w hz hx.ok)
 have HA2 := Lib.hid (fun q => alias_any z y nz n (w.drewN q) (hz.upd ((Upd.refl NoF w).drewN q)) (hy.ok.upd ((Upd.refl NoF w).drewN q)))
 have HX := Lib.hid (And.intro hx (And.intro hy (And.intro lx (And.intro ly (And.intro exA eyA)))))
 clear exA eyA lx ly hx hy
 go_enter Tryz.func70, Tryz.ntmps70
 go_upto_region 9 with fail
 go_cut [51] from 13 to 120 (fun s51 wx => s51 = .bool (aliasB z x || aliasB z y) ∧ ∃ q : Nat, wx = w.drewN q)
 case first =>
  by_cases hal : aliasB z x = true
  ·
   have HF := Lib.hid hal
   rw [hal] at HA
   clear hal
   go_wp2_with fail
   refine HA.out.mono ?_
   rintro e w1 ⟨rfl, q, rfl⟩
   go_wp2_with fail
   go_meet
   case rel => exact ⟨by rw [HF.out]; rfl, q, rfl⟩
  ·
   have hal0 : aliasB z x = false := by simpa using hal
   rw [hal0] at HA
   have HF := Lib.hid hal0
   clear hal hal0
   go_wp2_with fail
   refine HA.out.mono ?_
   rintro e w1 ⟨rfl, q, rfl⟩
   go_wp2_with fail
   refine (HA2.out q).mono ?_
   rintro e w1 ⟨rfl, q', rfl⟩
   go_wp2_with fail
   go_meet
   case rel => exact ⟨by rw [HF.out]; rfl, q + q', rfl⟩
 case rest =>
  obtain ⟨rfl, q, rfl⟩ := hcut
  clear HA HA2
  go_upto_if 51 with fail
  go_cut [0] from 13 to 120 (fun s0 wx => (∃ nz' : Nat, s0 = .slice (free2 z x y).A nz' (free2 z x y).c) ∧ wx = w.drewN q)
  case first =>
   by_cases hal : (aliasB z x || aliasB z y) = true
   ·
    have HF := Lib.hid hal
    rw [hal]
    clear hal
    go_wp2_with fail
    go_meet
    case rel => exact ⟨⟨0, by unfold free2; rw [HF.out]; rfl⟩, rfl⟩
   ·
    have hal0 : (aliasB z x || aliasB z y) = false := by simpa using hal
    have HF := Lib.hid hal0
    rw [hal0]
    clear hal hal0
    go_wp2_with fail
    go_meet
    case rel => exact ⟨⟨nz, by unfold free2; rw [HF.out]; rfl⟩, rfl⟩
  case rest =>
   obtain ⟨⟨nz', rfl⟩, rfl⟩ := hcut
   obtain ⟨z', ez⟩ : ∃ z', free2 z x y = z' := ⟨_, rfl⟩
   have hz' : z'.Ok (w.drewN q) := by rw [← ez]; exact (free2_Ok hz).upd ((Upd.refl NoF w).drewN q)
   have hzz : z' = z ∨ z'.c = 0 := by rw [← ez]; exact free2_zero z x y
   have hax : Apart z' x := by rw [← ez]; exact free2_x rx
   have hay : Apart z' y := by rw [← ez]; exact free2_y ry
   have hre : Apart z x ∧ Apart z y ∧ m + n ≤ z.c → z' = z ∧ m + n ≤ z.c := fun h => ⟨by rw [← ez]; exact free2_self h.1 h.2.1, h.2.2⟩
   rw [ez]
   have hu0 : Upd NoF w (w.drewN q) := (Upd.refl NoF w).drewN q
   have HZ := Lib.hid (And.intro hzz (And.intro hax (And.intro hay hre)))
   clear ez hzz hax hay hre rx ry hz
   go_wp2_with fail
   refine (make_pos z' nz' (m + n) _ _ hz' (by omega) (by omega) hm).mono ?_
   rintro e w1 ⟨b, o, c, rfl, hF, hO, hc, hU⟩
   have u1 : Upd NoF w w1 := hu0.trans hU
   have c9 := (hT.upd u1 (fun h => h)).cell
   have hF' : From w z' (Loc.mk1 b o c) (m + n) := hF
   have HB := Lib.hid (basicMul_loc z' x y b o c m n xs ys w w1 HX.out.1 HX.out.2.1 HX.out.2.2.1 HX.out.2.2.2.1 (by omega) (by omega) hm hF' HZ.out.2.1 HZ.out.2.2.1 hc hO u1)
   have HM := Lib.hid (fun (w2 : World) (rs : List Nat) (u2 : Upd (Rg b o (o + (m + n))) w1 w2) (h1 : U64 w2 b o rs) (h2 : rs.length = m + n) (h3 : Digs B64 rs) (h4 : val B64 rs = val B64 xs * val B64 ys) =>
    MulRes.made (z := z) (reuse := Apart z x ∧ Apart z y ∧ m + n ≤ z.c) (F := NoF) hF' HZ.out.1 HZ.out.2.2.2 (by omega) u1 u2 hO hc h2 h1 h3 h4)
   have hc63 := hO.1
   clear hF hF' hO hU u1 hu0 hz' HX HZ hT
   go_wp2_with fail
   refine HB.out.mono ?_
   clear HB
   rintro e w2 ⟨rs, rfl, u2, hR, hl, hD, hv⟩
   have HR := Lib.hid (HM.out w2 rs u2 hR hl hD hv)
   have HV := Lib.hid (And.intro hl hv)
   clear HM hl hv u2 c9
   go_wp2_with fail
   refine (norm_len b o c (m + n) rs w2 HV.out.1 hc hc63 hR hD).mono ?_
   rintro e w3 ⟨rfl, hw3⟩
   cases hw3.symm
   go_wp2
   go_ret
   rw [HV.out.2]
   exact HR.out
end Go.Proofs.YthkklkjldpcbkaaGreatDoor
namespace Go.Proofs.YthkklkjldpcbkaaGreatDoor
open Go.RowKit
theorem restore_d (sb n k : Nat) (J : SI) (u : FrameMode) (w : World) (h : StkV w sb n J) (hk : k ≤ n) :
  CallsD Tryz.prog 96 #[.pointer (some ⟨sb, 0, none⟩), .int .i64 (k : Int)] u w fun e u' w' => u' = u ∧ (e = .returned (.tuple #[]) ∧ StkV w' sb k J ∧ Upd (J.K sb n) w w') := by
 cases J with
 | none =>
  obtain ⟨rfl, h1⟩ := h
  have hk0 : k = 0 := by omega
  subst hk0
  have c0 := h1.cell
  go_enter_d Tryz.func96, Tryz.ntmps96
  go_wp2
  refine bodyPost_ret (results_none rfl _ _ _) rfl ?_
  exact ⟨rfl, ⟨rfl, h1⟩, Upd.refl _ _⟩
 | some ib l =>
  have c0 := h.2.1.cell
  go_enter_d Tryz.func96, Tryz.ntmps96
  go_wp2_with (go_at_call 117; refine (si_restore_any ib n k l w h.2.2.1 hk h.2.2.2.1).mono ?_; rintro e w' ⟨rfl, rfl⟩)
  go_end0
  exact ⟨rfl, h.cut hk, (Upd.refl _ w).setCell (fun _ => Or.inr (Or.inl rfl)) _⟩
theorem free_d (sb n : Nat) (J : SI) (u : FrameMode) (w : World) (h : StkV w sb n J) :
  CallsD Tryz.prog 86 #[.pointer (some ⟨sb, 0, none⟩)] u w fun e u' w' => u' = u ∧ (e = .returned (.tuple #[]) ∧ StkV w' sb 0 J ∧ Upd (J.K sb n) w w') := by
 cases J with
 | none =>
  obtain ⟨rfl, h1⟩ := h
  have c0 := h1.cell
  go_enter_d Tryz.func86, Tryz.ntmps86
  go_wp2
  go_end0
  exact ⟨rfl, ⟨rfl, h1⟩, Upd.refl _ _⟩
 | some ib l =>
  have c0 := h.2.1.cell
  go_enter_d Tryz.func86, Tryz.ntmps86
  go_wp2_with (go_at_call 105; refine (si_free_any ib n l w h.2.2.1).mono ?_; rintro e w' ⟨rfl, rfl⟩)
  go_end0
  exact ⟨rfl, h.cut (Nat.zero_le _), (Upd.refl _ w).setCell (fun _ => Or.inr (Or.inl rfl)) _⟩
def Off (J : SI) (sb n : Nat) (l : Loc) : Prop := ∀ i, i < l.c → ¬ J.K sb n l.b (l.o + i)
theorem StkV.lt {w : World} {sb n : Nat} {J : SI} {b i : Nat} (h : StkV w sb n J) (k : J.K sb n b i) : b < w.heap.size := by
 cases J with
 | none => exact k ▸ h.2.lt
 | some ib l =>
  rcases k with k | k | ⟨k, _, hc⟩
  · exact k ▸ h.2.1.lt
  · exact k ▸ h.2.2.1.lt
  ·
   have := ((h.2.2.2.2.2.1.2 hc).2.free hc).lt
   exact k ▸ this
theorem StkV.no {w : World} {sb n : Nat} {J : SI} (h : StkV w sb n J) {T : TypeId} {b i : Nat} {v : Value} (c : CellT T w b i v) (h1 : T ≠ 129) (h2 : T ≠ 138) (h3 : T ∈ special) (j : Nat) : ¬ J.K sb n b j := by
 intro k
 cases J with
 | none =>
  have : b = sb := k
  subst this
  exact (c.ne h.2 h1) rfl
 | some ib l =>
  rcases k with k | k | ⟨k, _, hc⟩
  · subst k; exact (c.ne h.2.1 h1) rfl
  · subst k; exact (c.ne h.2.2.1 h2) rfl
  ·
   obtain ⟨u, hu⟩ := (h.2.2.2.2.2.1.2 hc).2 0 hc
   subst k; exact (c.neW hu h3) rfl
theorem Off.new {w : World} {sb n : Nat} {J : SI} (h : StkV w sb n J) {l : Loc} (hb : w.heap.size ≤ l.b) : Off J sb n l := fun _ _ k => by have := h.lt k; omega
theorem Off.le {w : World} {sb n : Nat} {J J' : SI} {l : Loc} (h : Off J sb n l) (hl : l.Ok w) (hJ : SI.Le w sb J J') : Off J' sb n l := fun i hi k =>
 h i hi (hJ _ _ _ ((hl.free (by omega)).lt) k)
theorem Off.up {J : SI} {sb n m : Nat} {l : Loc} (h : Off J sb n l) (hnm : n ≤ m) : Off J sb m l := fun i hi k => h i hi (k.mono hnm)
theorem Off.cut {J : SI} {sb n : Nat} {l : Loc} (h : Off J sb n l) (A : Option Addr) (k : Nat) : Off J sb n ⟨A, l.c - k, l.b, l.o + k⟩ := fun i hi hk => by
 simp only at hi hk
 exact h (k + i) (by omega) (by rw [← Nat.add_assoc]; exact hk)
def G (k : Nat) : Nat := (k + 4) * (k + 4)
theorem G_step {a b : Nat} (h : a < b) : G a + (2 * a + 9) ≤ G b := by
 unfold G
 have h1 : (a + 5) * (a + 5) ≤ (b + 4) * (b + 4) := Nat.mul_le_mul (by omega) (by omega)
 have h2 : (a + 5) * (a + 5) = (a + 4) * (a + 4) + (2 * a + 9) := by grind
 omega
theorem G_mono {a b : Nat} (h : a ≤ b) : G a ≤ G b := Nat.mul_le_mul (by omega) (by omega)
theorem G_le (k : Nat) : k + 4 ≤ G k := by unfold G; exact Nat.le_mul_of_pos_left _ (by omega)
def MulPost (w : World) (z : Loc) (reuse : Prop) (need N sb ns : Nat) (J : SI) (e : Ending) (w' : World) : Prop :=
 ∃ (r : Loc) (rs : List Nat) (J' : SI), e = .returned (.slice r.A (digs N).length r.c) ∧ (r = z ∨ w.heap.size ≤ r.b) ∧ (reuse → r = z) ∧ rs.length ≤ need ∧ rs.length ≤ r.c ∧ U64 w' r.b r.o rs ∧ Digs B64 rs ∧ val B64 rs = N ∧ r.Ok w' ∧
  Upd (Or2 (ZF z rs.length) (J.K sb ns)) w w' ∧ StkV w' sb ns J' ∧ SI.Le w sb J J' ∧ Off J' sb ns r
theorem Off.zf {J : SI} {sb n k : Nat} {l : Loc} (h : Off J sb n l) : ∀ b i, ZF l k b i → ¬ J.K sb n b i := by
 rintro b i ⟨rfl, h1, h2, h3⟩ hk
 obtain ⟨j, rfl⟩ : ∃ j, i = l.o + j := ⟨i - l.o, by omega⟩
 exact h j (by omega) hk
theorem MulRes.stk {w w' : World} {z : Loc} {reuse : Prop} {need N sb ns : Nat} {J : SI} {e : Ending} (h : MulRes w z reuse need N NoF e w') (hs : StkV w sb ns J) (ho : Off J sb ns z) : MulPost w z reuse need N sb ns J e w' := by
 obtain ⟨r, rs, h1, h2, h3, h4, h5, h6, h7, h8, h9, h10⟩ := h
 have u : Upd (ZF z rs.length) w w' := h10.mono (fun _ _ _ h => h.elim id (fun h => h.elim))
 refine ⟨r, rs, J, h1, h2, h3, h4, h5, h6, h7, h8, h9, h10.mono (fun _ _ _ h => h.imp id (fun h => h.elim)), hs.upd u ho.zf, SI.Le.refl _ _ _, ?_⟩
 rcases h2 with rfl | h2
 · exact ho
 · exact Off.new hs h2
def KaraPost (w : World) (z : Loc) (n N sb ns : Nat) (J : SI) (e : Ending) (w' : World) : Prop :=
 ∃ (rs : List Nat) (J' : SI), e = .returned (.tuple #[]) ∧ rs.length = 2 * n ∧ U64 w' z.b z.o rs ∧ Digs B64 rs ∧ val B64 rs = N ∧
  Upd (Or2 (Rg z.b z.o (z.o + 2 * n)) (J.K sb ns)) w w' ∧ StkV w' sb ns J' ∧ SI.Le w sb J J'
def MulSpec (T : Int) (m n : Nat) : Prop := ∀ (z x y : Loc) (nz sb ns : Nat) (J : SI) (xs ys : List Nat) (w : World), z.Ok w → VecV w x xs → VecV w y ys → xs.length = m → ys.length = n → Rel z x → Rel z y → Thr w T →
 StkV w sb ns J → Off J sb ns z → Off J sb ns x → Off J sb ns y → ns + G (m + n) ≤ 1099511627776 →
 Calls Tryz.prog 70 #[.slice z.A nz z.c, .pointer (some ⟨sb, 0, none⟩), .slice x.A m x.c, .slice y.A n y.c] w (MulPost w z (Apart z x ∧ Apart z y ∧ m + n ≤ z.c) (m + n) (val B64 xs * val B64 ys) sb ns J)
def KaraSpec (T : Int) (n : Nat) : Prop := ∀ (z x y : Loc) (sb ns : Nat) (J : SI) (xs ys : List Nat) (w : World), z.Ok w → 2 * n ≤ z.c → VecV w x xs → VecV w y ys → xs.length = n → ys.length = n → 0 < n → Apart z x → Apart z y → Thr w T →
 StkV w sb ns J → Off J sb ns z → Off J sb ns x → Off J sb ns y → ns + G (2 * n) ≤ 1099511627776 →
 Calls Tryz.prog 95 #[.pointer (some ⟨sb, 0, none⟩), .slice z.A (2 * n : Nat) z.c, .slice x.A n x.c, .slice y.A n y.c] w (KaraPost w z n (val B64 xs * val B64 ys) sb ns J)
end Go.Proofs.YthkklkjldpcbkaaGreatDoor
namespace Go.Proofs.YthkklkjldpcbkaaGreatDoor
open Go.RowKit
theorem Upd.weak {F G : Nat → Nat → Prop} {w w' : World} (h : Upd F w w') (k : ∀ b i, F b i → G b i) : Upd G w w' := h.mono (fun b i _ => k b i)
theorem Loc.Ok.lt {w : World} {l : Loc} (h : l.Ok w) (h0 : 0 < l.c) : l.b < w.heap.size := (h.free h0).lt
theorem Apart.symm {x y : Loc} (h : Apart x y) : Apart y x := by unfold Apart at *; omega
theorem Apart.cut {z x : Loc} (h : Apart z x) (A : Option Addr) {k : Nat} (hk : k ≤ x.c) : Apart z ⟨A, x.c - k, x.b, x.o + k⟩ := by unfold Apart at *; simp only; omega
theorem Apart.cutL {z x : Loc} (h : Apart z x) (A : Option Addr) {k : Nat} (hk : k ≤ z.c) : Apart ⟨A, z.c - k, z.b, z.o + k⟩ x := by unfold Apart at *; simp only; omega
theorem VecV.take {w : World} {l : Loc} {xs : List Nat} (h : VecV w l xs) (k : Nat) : VecV w l (xs.take k) :=
 ⟨h.ok, by rw [List.length_take]; exact Nat.le_trans (Nat.min_le_right _ _) h.le, h.at_.take k, h.dig.take k⟩
theorem Loc.Ok.cut {w : World} {l : Loc} (h : l.Ok w) {k : Nat} (hk : k < l.c) : Loc.Ok w ⟨some ⟨l.b, l.o + k, none⟩, l.c - k, l.b, l.o + k⟩ :=
 ⟨by simp only; have := h.1; omega, fun _ => ⟨rfl, h.live.sub k _ (by simp only; omega)⟩⟩
theorem VecV.cut {w : World} {l : Loc} {xs : List Nat} (h : VecV w l xs) {k : Nat} (hk : k < l.c) : VecV w ⟨some ⟨l.b, l.o + k, none⟩, l.c - k, l.b, l.o + k⟩ (xs.drop k) :=
 ⟨h.ok.cut hk, by rw [List.length_drop]; have := h.le; simp only; omega, h.at_.drop k, h.dig.drop k⟩
def Wr (w1 : World) (z1 : Loc) (k sb ns : Nat) (J : SI) : Nat → Nat → Prop := fun b i => (b = z1.b ∧ z1.o ≤ i ∧ i < z1.o + k) ∨ J.K sb ns b i ∨ w1.heap.size ≤ b
theorem Wr.vec {w1 w w' : World} {z1 x : Loc} {k sb ns : Nat} {J : SI} {xs : List Nat} {F : Nat → Nat → Prop} (h : VecV w x xs) (u : Upd F w w') (hF : ∀ b i, F b i → Wr w1 z1 k sb ns J b i) (ox : Off J sb ns x) (hb : 0 < x.c → x.b < w1.heap.size) (ha : Apart z1 x)
  (hk : k ≤ z1.c) : VecV w' x xs := h.upd u (fun i hi hf => by
 have hle := h.le
 rcases hF _ _ hf with ⟨e, h1, h2⟩ | h1 | h1
 · unfold Apart at ha; omega
 · exact ox i (by omega) h1
 · have := hb (by omega); omega)
structure MidS (w1 : World) (x y z1 : Loc) (m n sb ns : Nat) (J : SI) : Prop where
 hk : m + n ≤ z1.c
 ax : Apart z1 x
 ay : Apart z1 y
 ox : Off J sb ns x
 oy : Off J sb ns y
 oz : Off J sb ns z1
 bx : 0 < x.c → x.b < w1.heap.size
 b_y : 0 < y.c → y.b < w1.heap.size
 bz : 0 < z1.c → z1.b < w1.heap.size
structure Mid (T : Int) (w1 w : World) (x y z1 : Loc) (xs ys zs : List Nat) (m n sb ns n' : Nat) (J J' : SI) : Prop where
 vx : VecV w x xs
 vy : VecV w y ys
 ok : z1.Ok w
 uz : U64 w z1.b z1.o zs
 lz : zs.length = m + n
 dz : Digs B64 zs
 thr : Thr w T
 stk : StkV w sb n' J'
 upd : Upd (Or2 (Rg z1.b z1.o (z1.o + (m + n))) (J.K sb ns)) w1 w
 le : SI.Le w1 sb J J'
 nn : ns ≤ n'
theorem Off.old {w1 : World} {sb ns n' : Nat} {J J' : SI} {l : Loc} (h : Off J sb ns l) (hb : 0 < l.c → l.b < w1.heap.size) (hJ : SI.Le w1 sb J J') (hn : ns ≤ n') : Off J' sb n' l := fun i hi k =>
 h i hi (hJ _ _ _ (hb (by omega)) (k.mono hn))
theorem Mid.step {T : Int} {w1 w w' : World} {x y z1 : Loc} {xs ys zs : List Nat} {m n sb ns n' n'' : Nat} {J J' J'' : SI} {F : Nat → Nat → Prop} (S : MidS w1 x y z1 m n sb ns J) (M : Mid T w1 w x y z1 xs ys zs m n sb ns n' J J')
  (u : Upd F w w') (hF : ∀ b i, F b i → J.K sb ns b i ∨ w1.heap.size ≤ b) (hT : Thr w' T) (hS : StkV w' sb n'' J'') (hJ : SI.Le w1 sb J J'') (hn : ns ≤ n'') : Mid T w1 w' x y z1 xs ys zs m n sb ns n'' J J'' where
 vx := Wr.vec (w1 := w1) (z1 := z1) (k := m + n) M.vx u (fun b i h => Or.inr (hF b i h)) S.ox S.bx S.ax S.hk
 vy := Wr.vec (w1 := w1) (z1 := z1) (k := m + n) M.vy u (fun b i h => Or.inr (hF b i h)) S.oy S.b_y S.ay S.hk
 ok := M.ok.upd u
 uz := M.uz.upd u (fun i hi hf => by
  have := M.lz
  have := S.hk
  rcases hF _ _ hf with h | h
  · exact S.oz i (by omega) h
  · have := S.bz (by omega); omega)
 lz := M.lz
 dz := M.dz
 thr := hT
 stk := hS
 upd := M.upd.then u (fun _ _ _ h => h) (fun b i hb h => by
  rcases hF _ _ h with h | h
  · exact Or.inr h
  · omega)
 le := hJ
 nn := hn
theorem Mid.put {T : Int} {w1 w w' : World} {x y z1 : Loc} {xs ys zs rs : List Nat} {m n sb ns n' k : Nat} {J J' : SI} (S : MidS w1 x y z1 m n sb ns J) (M : Mid T w1 w x y z1 xs ys zs m n sb ns n' J J')
  (hk : k ≤ m + n) (u : Upd (Rg z1.b (z1.o + k) (z1.o + (m + n))) w w') (hR : U64 w' z1.b (z1.o + k) rs) (hl : rs.length = m + n - k) (hD : Digs B64 rs) (hT : Thr w' T) : Mid T w1 w' x y z1 xs ys (zs.take k ++ rs) m n sb ns n' J J' where
 vx := Wr.vec (w1 := w1) (z1 := z1) (k := m + n) M.vx u (fun b i ⟨h1, h2, h3⟩ => Or.inl ⟨h1, by omega, h3⟩) S.ox S.bx S.ax S.hk
 vy := Wr.vec (w1 := w1) (z1 := z1) (k := m + n) M.vy u (fun b i ⟨h1, h2, h3⟩ => Or.inl ⟨h1, by omega, h3⟩) S.oy S.b_y S.ay S.hk
 ok := M.ok.upd u
 uz := by
  have hlt : (zs.take k).length = k := by rw [List.length_take, M.lz]; omega
  refine U64.append ((M.uz.take k).updR u (by rw [hlt]; omega)) ?_
  rw [hlt]; exact hR
 lz := by rw [List.length_append, List.length_take, M.lz, hl]; omega
 dz := (M.dz.take k).append hD
 thr := hT
 stk := M.stk.upd u (fun b i ⟨h1, h2, h3⟩ hk => by
  subst h1
  have h4 := S.hk
  obtain ⟨j, rfl⟩ : ∃ j, i = z1.o + j := ⟨i - z1.o, by omega⟩
  exact (S.oz.old S.bz M.le M.nn) j (by omega) hk)
 upd := M.upd.then u (fun _ _ _ h => h) (fun b i _ ⟨h1, h2, h3⟩ => Or.inl ⟨h1, by omega, h3⟩)
 le := M.le
 nn := M.nn
theorem Thr.upd {w w' : World} {T : Int} {F : Nat → Nat → Prop} (h : Thr w T) (u : Upd F w w') (hF : ∀ i, ¬ F 2 i) : Thr w' T := CellT.upd h u (hF 0)
theorem Thr.rg {w w' : World} {T : Int} {z1 : Loc} {lo hi : Nat} (h : Thr w T) (ok : z1.Ok w) (h0 : 0 < z1.c) (u : Upd (Rg z1.b lo hi) w w') : Thr w' T := h.upd u (fun i ⟨e, _⟩ => by
 obtain ⟨v, hv⟩ := ok.live 0 h0
 exact h.neW hv (by decide) e)
theorem Thr.K {w w' : World} {T : Int} {sb n : Nat} {J : SI} (h : Thr w T) (hs : StkV w sb n J) (u : Upd (J.K sb n) w w') : Thr w' T := h.upd u (fun i => hs.no h (by decide) (by decide) (by decide) i)
theorem ZF.noThr {w : World} {T : Int} {l : Loc} (hl : l.Ok w) (h : Thr w T) (need i : Nat) : ¬ ZF l need 2 i := ZF.no hl h (by decide) need i
theorem mid_start {T : Int} {w1 w2 w3 : World} {x y z1 : Loc} {xs ys rs : List Nat} {m n sb ns : Nat} {J J2 : SI} (S : MidS w1 x y z1 m n sb ns J) (hnm : n ≤ m) (hn : 0 < n) (vx : VecV w1 x xs) (vy : VecV w1 y ys) (ok : z1.Ok w1) (hT : Thr w1 T) (hS : StkV w1 sb ns J)
  (hl : rs.length = 2 * n) (hR : U64 w2 z1.b z1.o rs) (hD : Digs B64 rs) (u2 : Upd (Or2 (Rg z1.b z1.o (z1.o + 2 * n)) (J.K sb ns)) w1 w2) (hS2 : StkV w2 sb ns J2) (hJ : SI.Le w1 sb J J2)
  (u3 : Upd (Rg z1.b (z1.o + 2 * n) (z1.o + 2 * n + (m - n))) w2 w3) (hz3 : U64 w3 z1.b (z1.o + 2 * n) (List.replicate (m - n) 0)) :
  Mid T w1 w3 x y z1 xs ys (rs ++ List.replicate (m - n) 0) m n sb ns ns J J2 := by
 have hk := S.hk
 have u13 : Upd (Or2 (Rg z1.b z1.o (z1.o + (m + n))) (J.K sb ns)) w1 w3 := u2.then u3 (fun b i _ h => h.imp (fun ⟨h1, h2, h3⟩ => ⟨h1, h2, by omega⟩) id) (fun b i _ ⟨h1, h2, h3⟩ => Or.inl ⟨h1, by omega, by omega⟩)
 have hW : ∀ b i, Or2 (Rg z1.b z1.o (z1.o + (m + n))) (J.K sb ns) b i → Wr w1 z1 (m + n) sb ns J b i := fun b i h => h.imp id Or.inl
 have hT3 : Thr w3 T := hT.upd u13 (fun i h => by
  rcases h with ⟨e, _⟩ | h
  ·
   obtain ⟨v, hv⟩ := ok.live 0 (by omega)
   exact hT.neW hv (by decide) e
  · exact hS.no hT (by decide) (by decide) (by decide) i h)
 exact {
  vx := Wr.vec vx u13 hW S.ox S.bx S.ax hk
  vy := Wr.vec vy u13 hW S.oy S.b_y S.ay hk
  ok := ok.upd u13
  uz := U64.append (hR.updR u3 (by omega)) (by rw [hl]; exact hz3)
  lz := by rw [List.length_append, hl, List.length_replicate]; omega
  dz := hD.append (Digs.replicate B64_pos _)
  thr := hT3
  stk := hS2.upd u3 (fun b i ⟨h1, h2, h3⟩ hk' => by
   subst h1
   obtain ⟨j, rfl⟩ : ∃ j, i = z1.o + j := ⟨i - z1.o, by omega⟩
   exact (S.oz.old S.bz hJ (Nat.le_refl _)) j (by omega) hk')
  upd := u13
  le := hJ
  nn := Nat.le_refl _ }
def TJ (w1 : World) (t : Loc) (sb ns : Nat) (J : SI) : Prop := ∀ i, i < t.c → J.K sb ns t.b (t.o + i) ∨ w1.heap.size ≤ t.b
theorem TJ.apart {w1 : World} {t x : Loc} {sb ns : Nat} {J : SI} (h : TJ w1 t sb ns J) (ox : Off J sb ns x) (bx : 0 < x.c → x.b < w1.heap.size) : Apart t x := by
 unfold Apart
 rcases Nat.lt_or_ge 0 t.c with ht | ht
 ·
  rcases Nat.lt_or_ge 0 x.c with hx | hx
  ·
   by_cases hb : x.b = t.b
   ·
    by_cases h1 : x.o + x.c ≤ t.o
    · omega
    ·
     by_cases h2 : t.o + t.c ≤ x.o
     · omega
     ·
      exfalso
      have := bx hx
      rcases Nat.lt_or_ge t.o x.o with h3 | h3
      ·
       have k := h (x.o - t.o) (by omega)
       have k2 := ox 0 hx
       rw [show t.o + (x.o - t.o) = x.o from by omega] at k
       rw [Nat.add_zero, hb] at k2
       rcases k with k | k
       · exact k2 k
       · omega
      ·
       have k := h 0 ht
       have k2 := ox (t.o - x.o) (by omega)
       rw [show x.o + (t.o - x.o) = t.o from by omega, hb] at k2
       rw [Nat.add_zero] at k
       rcases k with k | k
       · exact k2 k
       · omega
   · omega
  · omega
 · omega
theorem TJ.zf {w1 : World} {t : Loc} {sb ns k : Nat} {J : SI} (h : TJ w1 t sb ns J) : ∀ b i, ZF t k b i → J.K sb ns b i ∨ w1.heap.size ≤ b := by
 rintro b i ⟨rfl, h1, h2, h3⟩
 have := h (i - t.o) (by omega)
 rwa [show t.o + (i - t.o) = i from by omega] at this
structure LoopI (T : Int) (w1 w : World) (x y z1 t : Loc) (xs ys zs : List Nat) (m n k sb ns n' : Nat) (J J' : SI) : Prop where
 mid : Mid T w1 w x y z1 xs ys zs m n sb ns n' J J'
 tok : t.Ok w
 toff : Off J' sb n' t
 v : val B64 zs = val B64 (xs.take (min k m)) * val B64 ys
theorem mid_nat {T : Int} {w1 w w' : World} {x y z1 t : Loc} {xs ys zs : List Nat} {m n q sb ns n' : Nat} {J J2 J3 : SI} (S : MidS w1 x y z1 m n sb ns J) (M : Mid T w1 w x y z1 xs ys zs m n sb ns ns J J2)
  (hv : val B64 zs = val B64 (xs.take n) * val B64 ys) (hnm : n ≤ m) (ht2 : t.Ok w') (ht3 : (∀ i, i < t.c → J2.K sb ns t.b (t.o + i)) ∨ w.heap.size ≤ t.b) (ht4 : ∀ i, i < t.c → ¬ J3.K sb n' t.b (t.o + i))
  (hS : StkV w' sb n' J3) (hn : ns ≤ n') (hJ : SI.Le w sb J2 J3) (u : Upd (J2.K sb ns) w w') (hq : q = n) : LoopI T w1 w' x y z1 t xs ys zs m n q sb ns n' J J3 ∧ TJ w1 t sb ns J := by
 subst hq
 have hs := M.upd.size
 have hK : ∀ b i, J2.K sb ns b i → J.K sb ns b i ∨ w1.heap.size ≤ b := fun b i h => by
  rcases Nat.lt_or_ge b w1.heap.size with hb | hb
  · exact Or.inl (M.le _ b i hb h)
  · exact Or.inr hb
 refine ⟨⟨M.step S u hK (M.thr.K M.stk u) hS (M.le.trans hJ hs) hn, ht2, ht4, by rw [hv, Nat.min_eq_left hnm]⟩, fun i hi => ?_⟩
 rcases ht3 with h | h
 · exact hK _ _ (h i hi)
 · exact Or.inr (by omega)
theorem LoopI.ask {T : Int} {w1 w : World} {x y z1 t : Loc} {xs ys zs : List Nat} {m n k sb ns n' : Nat} {J J' : SI} (S : MidS w1 x y z1 m n sb ns J) (L : LoopI T w1 w x y z1 t xs ys zs m n k sb ns n' J J') (ht : TJ w1 t sb ns J) (hk : k < x.c) (A : Option Addr) :
  Apart t ⟨A, x.c - k, x.b, x.o + k⟩ ∧ Apart t y ∧ Off J' sb n' ⟨A, x.c - k, x.b, x.o + k⟩ ∧ Off J' sb n' y :=
 ⟨(ht.apart S.ox S.bx).cut A (by omega), ht.apart S.oy S.b_y, (S.ox.old S.bx L.mid.le L.mid.nn).cut A k, S.oy.old S.b_y L.mid.le L.mid.nn⟩
theorem LoopI.prod {T : Int} {w1 w w' : World} {x y z1 t : Loc} {xs ys zs rs : List Nat} {m n k sb ns n' : Nat} {J J' J'' : SI} (S : MidS w1 x y z1 m n sb ns J) (L : LoopI T w1 w x y z1 t xs ys zs m n k sb ns n' J J') (ht : TJ w1 t sb ns J)
  (u : Upd (Or2 (ZF t rs.length) (J'.K sb n')) w w') (hS : StkV w' sb n' J'') (hJ : SI.Le w sb J' J'') (ho : Off J'' sb n' t) : LoopI T w1 w' x y z1 t xs ys zs m n k sb ns n' J J'' := by
 have hs := L.mid.upd.size
 have hK : ∀ b i, J'.K sb n' b i → J.K sb ns b i ∨ w1.heap.size ≤ b := fun b i h => by
  rcases Nat.lt_or_ge b w1.heap.size with hb | hb
  · exact Or.inl (L.mid.le _ b i hb (h.mono L.mid.nn))
  · exact Or.inr hb
 have hF : ∀ b i, Or2 (ZF t rs.length) (J'.K sb n') b i → J.K sb ns b i ∨ w1.heap.size ≤ b := fun b i h => by
  rcases h with h | h
  · exact ht.zf b i h
  · exact hK b i h
 refine ⟨L.mid.step S u hF (L.mid.thr.upd u (fun i h => ?_)) hS ?_ L.mid.nn, L.tok.upd u, ho, L.v⟩
 ·
  rcases h with h | h
  · exact ZF.noThr L.tok L.mid.thr _ i h
  · exact L.mid.stk.no L.mid.thr (by decide) (by decide) (by decide) i h
 · exact L.mid.le.trans hJ hs
theorem mul_sum {m n k p p' : Nat} {xs ys zs rs : List Nat} {N c : Nat} (lx : xs.length = m) (ly : ys.length = n) (dx : Digs B64 xs) (dy : Digs B64 ys) (lz : zs.length = m + n) (hk : k < m) (hp : p = k) (hp' : p' = min (k + n) m)
  (hz : val B64 zs = val B64 (xs.take p) * val B64 ys) (hN : N = val B64 ((xs.drop k).take (p' - k)) * val B64 ys) (hc : val B64 (zs.drop k) + N = val B64 rs + c * B64 ^ (m + n - k)) :
  val B64 (zs.take k ++ rs) = val B64 (xs.take p') * val B64 ys := by
 have h1 : val B64 zs = val B64 (zs.take k) + B64 ^ k * val B64 (zs.drop k) := val_take_drop zs k (by omega)
 have e1 : xs.take p' = xs.take k ++ (xs.drop k).take (p' - k) := by
  rw [← List.take_add, show k + (p' - k) = p' from by omega]
 have h2 : val B64 (xs.take p') = val B64 (xs.take k) + B64 ^ k * val B64 ((xs.drop k).take (p' - k)) := by
  rw [e1, val_append, List.length_take, Nat.min_eq_left (by omega)]
 have h3 : val B64 (xs.take p') < B64 ^ p' := by
  have := val_lt _ (dx.take p')
  rwa [List.length_take, Nat.min_eq_left (by omega)] at this
 have h4 : val B64 ys < B64 ^ n := by have := val_lt _ dy; rwa [ly] at this
 have h5 : val B64 (xs.take p') * val B64 ys < B64 ^ (m + n) := by
  have a1 : val B64 (xs.take p') < B64 ^ m := Nat.lt_of_lt_of_le h3 (Nat.pow_le_pow_right B64_pos (by omega))
  rw [Nat.pow_add]
  exact Nat.mul_lt_mul_of_lt_of_le a1 (Nat.le_of_lt h4) (by have := B64_pos; exact Nat.pow_pos this)
 have e2 : val B64 (zs.take k ++ rs) = val B64 (zs.take k) + B64 ^ k * val B64 rs := by
  rw [val_append, List.length_take, Nat.min_eq_left (by omega)]
 have e3 : B64 ^ (m + n) = B64 ^ k * B64 ^ (m + n - k) := by rw [← Nat.pow_add]; congr 1; omega
 subst hp
 have key : val B64 (xs.take p') * val B64 ys = val B64 (zs.take p ++ rs) + c * B64 ^ (m + n) := by
  rw [e2, e3, h2, Nat.add_mul, ← hz, h1, Nat.mul_assoc, ← hN]
  have : B64 ^ p * (val B64 (zs.drop p) + N) = B64 ^ p * (val B64 rs + c * B64 ^ (m + n - p)) := by rw [hc]
  grind
 rcases Nat.eq_zero_or_pos c with h0 | h0
 · rw [h0] at key; omega
 ·
  have : B64 ^ (m + n) ≤ c * B64 ^ (m + n) := Nat.le_mul_of_pos_left _ h0
  omega
theorem LoopI.add {T : Int} {w1 w w' : World} {x y z1 t : Loc} {xs ys zs rs : List Nat} {m n k sb ns n' N c : Nat} {J J' : SI} (S : MidS w1 x y z1 m n sb ns J) (L : LoopI T w1 w x y z1 t xs ys zs m n k sb ns n' J J')
  (lx : xs.length = m) (ly : ys.length = n) (hk : k < m) (u : Upd (Rg z1.b (z1.o + k) (z1.o + k + (m + n - k))) w w') (hR : U64 w' z1.b (z1.o + k) rs) (hl : rs.length = m + n - k) (hD : Digs B64 rs)
  (hN : N = val B64 ((xs.drop k).take (min (k + n) m - k)) * val B64 ys) (hc : val B64 (zs.drop k) + N = val B64 rs + c * B64 ^ (m + n - k)) :
  LoopI T w1 w' x y z1 t xs ys (zs.take k ++ rs) m n (k + n) sb ns n' J J' := by
 have hk1 := S.hk
 have u' : Upd (Rg z1.b (z1.o + k) (z1.o + (m + n))) w w' := u.weak (fun b i ⟨h1, h2, h3⟩ => ⟨h1, h2, by omega⟩)
 refine ⟨L.mid.put S (by omega) u' hR hl hD (L.mid.thr.rg L.mid.ok (by omega) u), L.tok.upd u, L.toff, ?_⟩
 have hv := L.v
 rw [Nat.min_eq_left (by omega)] at hv
 exact mul_sum lx ly L.mid.vx.dig L.mid.vy.dig L.mid.lz hk rfl rfl hv hN hc
theorem mid_end {T : Int} {w w1 wr w7 : World} {x y z z' : Loc} {xs ys zs : List Nat} {b o c m n sb ns n' N : Nat} {J J' : SI} {reuse : Prop} (S : MidS w1 x y (Loc.mk1 b o c) m n sb ns J) (M : Mid T w1 wr x y (Loc.mk1 b o c) xs ys zs m n sb ns n' J J')
  (hv : val B64 zs = N) (h0 : 0 < m + n) (hF : From w z' (Loc.mk1 b o c) (m + n)) (hzz : z' = z ∨ z'.c = 0) (hre : reuse → z' = z ∧ m + n ≤ z.c) (u1 : Upd NoF w w1) (hS7 : StkV w7 sb ns J') (u7 : Upd (J'.K sb n') wr w7) :
  MulPost w z reuse (m + n) N sb ns J (.returned (.slice (some ⟨b, o, none⟩) (digs N).length c)) w7 := by
 have hk := S.hk
 simp only at hk
 have hs := u1.size
 have hr : Loc.mk1 b o c = z ∧ m + n ≤ z.c ∨ w.heap.size ≤ b := by
  rcases hF with ⟨h1, h2⟩ | ⟨_, h, _⟩
  ·
   rcases hzz with h | h
   · rw [h] at h1 h2; exact Or.inl ⟨h2, h1⟩
   · omega
  · exact Or.inr h
 refine ⟨Loc.mk1 b o c, zs, J', rfl, ?_, ?_, by rw [M.lz]; exact Nat.le_refl _, by rw [M.lz]; exact hk, ?_, M.dz, hv, M.ok.upd u7, ?_, hS7, ?_, S.oz.old S.bz M.le (Nat.le_refl _)⟩
 ·
  rcases hr with ⟨h, _⟩ | h
  · exact Or.inl h
  · exact Or.inr h
 ·
  intro h
  obtain ⟨h1, h2⟩ := hre h
  rcases hF with ⟨_, h'⟩ | ⟨h', _, _⟩
  · rw [h', h1]
  · rw [h1] at h'; omega
 ·
  refine M.uz.upd u7 (fun i hi hf => ?_)
  rw [M.lz] at hi
  exact (S.oz.old S.bz M.le M.nn) i (by simp only; omega) hf
 ·
  rw [M.lz]
  refine (u1.then (M.upd.then u7 (H := Or2 (Rg b o (o + (m + n))) (J.K sb ns)) (fun _ _ _ h => h) (fun b i hb h => Or.inr (M.le _ _ _ hb (h.mono M.nn)))) (fun _ _ _ h => h.elim) ?_)
  rintro b' i hb (⟨rfl, g1, g2⟩ | h)
  ·
   rcases hr with ⟨h, h'⟩ | h
   · subst h; exact Or.inl ⟨rfl, g1, by simp only; omega, by simp only; omega⟩
   · omega
  · exact Or.inr h
 · exact fun k b i hb h => M.le k b i (by omega) h
theorem mid_end0 {T : Int} {w w1 wr w7 : World} {x y z z' : Loc} {xs ys zs : List Nat} {b o c m n sb n' N : Nat} {J' : SI} {reuse : Prop} (S : MidS w1 x y (Loc.mk1 b o c) m n sb 0 .none) (M : Mid T w1 wr x y (Loc.mk1 b o c) xs ys zs m n sb 0 n' .none J')
  (hv : val B64 zs = N) (h0 : 0 < m + n) (hF : From w z' (Loc.mk1 b o c) (m + n)) (hzz : z' = z ∨ z'.c = 0) (hre : reuse → z' = z ∧ m + n ≤ z.c) (u1 : Upd NoF w w1) (hsb : w.heap.size ≤ sb) (u7 : Upd (J'.K sb 0) wr w7) :
  MulRes w z reuse (m + n) N NoF (.returned (.slice (some ⟨b, o, none⟩) (digs N).length c)) w7 := by
 have hk := S.hk
 simp only at hk
 have hs := u1.size
 have hr : Loc.mk1 b o c = z ∧ m + n ≤ z.c ∨ w.heap.size ≤ b := by
  rcases hF with ⟨h1, h2⟩ | ⟨_, h, _⟩
  ·
   rcases hzz with h | h
   · rw [h] at h1 h2; exact Or.inl ⟨h2, h1⟩
   · omega
  · exact Or.inr h
 refine ⟨Loc.mk1 b o c, zs, rfl, ?_, ?_, by rw [M.lz]; exact Nat.le_refl _, by rw [M.lz]; exact hk, ?_, M.dz, hv, M.ok.upd u7, ?_⟩
 ·
  rcases hr with ⟨h, _⟩ | h
  · exact Or.inl h
  · exact Or.inr h
 ·
  intro h
  obtain ⟨h1, h2⟩ := hre h
  rcases hF with ⟨_, h'⟩ | ⟨h', _, _⟩
  · rw [h', h1]
  · rw [h1] at h'; omega
 ·
  refine M.uz.upd u7 (fun i hi hf => ?_)
  rw [M.lz] at hi
  exact (S.oz.old S.bz M.le (Nat.le_refl _)) i (by simp only; omega) hf
 ·
  rw [M.lz]
  refine (u1.then (M.upd.then u7 (H := Or2 (Rg b o (o + (m + n))) (SI.none.K sb 0)) (fun _ _ _ h => h) (fun b i hb h => Or.inr (M.le _ _ _ hb h))) (fun _ _ _ h => h.elim) ?_)
  rintro b' i hb (⟨rfl, g1, g2⟩ | h)
  ·
   rcases hr with ⟨h, h'⟩ | h
   · subst h; exact Or.inl ⟨rfl, g1, by simp only; omega, by simp only; omega⟩
   · omega
  ·
   have : b' = sb := h
   omega
end Go.Proofs.YthkklkjldpcbkaaGreatDoor
namespace Go.Proofs.YthkklkjldpcbkaaGreatDoor
open Go.RowKit
theorem mul_pre {T : Int} {w w1 : World} {x y z z' : Loc} {xs ys : List Nat} {b o c m n sb ns : Nat} {J : SI} (vx : VecV w x xs) (vy : VecV w y ys) (hax : Apart z' x) (hay : Apart z' y) (hzz : z' = z ∨ z'.c = 0)
  (hF : From w z' (Loc.mk1 b o c) (m + n)) (u1 : Upd NoF w w1) (hO : (Loc.mk1 b o c).Ok w1) (hT : Thr w T) (hS : StkV w sb ns J) (oz : Off J sb ns z) (ox : Off J sb ns x) (oy : Off J sb ns y) (hc : m + n ≤ c) :
  MidS w1.drew x y (Loc.mk1 b o c) m n sb ns J ∧ VecV w1.drew x xs ∧ VecV w1.drew y ys ∧ (Loc.mk1 b o c).Ok w1.drew ∧ Thr w1.drew T ∧ StkV w1.drew sb ns J := by
 have u1' : Upd NoF w w1.drew := u1.drew
 have oz' : Off J sb ns z' := by
  rcases hzz with rfl | h
  · exact oz
  · intro i hi; omega
 refine ⟨⟨hc, ?_, ?_, ox, oy, ?_, ?_, ?_, ?_⟩, vx.upd0 u1', vy.upd0 u1', hO.upd ((Upd.refl NoF w1).drew), hT.upd u1' (fun _ h => h), hS.upd0 u1'⟩
 ·
  rcases hF with ⟨h1, h2⟩ | ⟨h1, h2, h3⟩
  · rw [h2]; exact hax
  ·
   by_cases h0 : x.c = 0
   · exact Or.inr (Or.inl h0)
   ·
    have := vx.ok.lt (by omega)
    simp only at h2
    exact Or.inr (Or.inr (Or.inl (by simp only; omega)))
 ·
  rcases hF with ⟨h1, h2⟩ | ⟨h1, h2, h3⟩
  · rw [h2]; exact hay
  ·
   by_cases h0 : y.c = 0
   · exact Or.inr (Or.inl h0)
   ·
    have := vy.ok.lt (by omega)
    simp only at h2
    exact Or.inr (Or.inr (Or.inl (by simp only; omega)))
 ·
  rcases hF with ⟨h1, h2⟩ | ⟨h1, h2, h3⟩
  · rw [h2]; exact oz'
  · exact Off.new hS h2
 · exact fun h => (vx.upd0 u1').ok.lt h
 · exact fun h => (vy.upd0 u1').ok.lt h
 · exact fun h => (hO.upd ((Upd.refl NoF w1).drew)).lt h
theorem loop_addTo {T : Int} {w1 w : World} {x y z1 t : Loc} {xs ys zs ps : List Nat} {m n k sb ns n' N : Nat} {J J' : SI} (S : MidS w1 x y z1 m n sb ns J) (L : LoopI T w1 w x y z1 t xs ys zs m n k sb ns n' J J') (ht : TJ w1 t sb ns J)
  (lx : xs.length = m) (ly : ys.length = n) (hk : k < m) (hm : m + n ≤ 1099511627776) (hp : ps.length ≤ min (k + n) m - k + n) (hR : U64 w t.b t.o ps) (hD : Digs B64 ps) (hv : val B64 ps = N) (hc : ps.length ≤ t.c)
  (hN : N = val B64 ((xs.drop k).take (min (k + n) m - k)) * val B64 ys) :
  Calls Tryz.prog 99 #[.slice (some ⟨z1.b, z1.o + k, none⟩) (m + n - k) (z1.c - k), .slice t.A (digs N).length t.c] w fun e w' =>
   ∃ zs', e = .returned (.tuple #[]) ∧ LoopI T w1 w' x y z1 t xs ys zs' m n (k + n) sb ns n' J J' := by
 have hz := S.hk
 have hlen : (digs N).length ≤ ps.length := by rw [← hv]; exact digs_len_le hD
 have hu : U64 w t.b t.o (digs N) := by rw [← hv, digs_eq_take hD]; exact hR.take _
 have hap := ht.apart S.oz S.bz
 refine (addTo_any z1.b (z1.o + k) (m + n - k) (z1.c - k) (digs N).length t.c t.b t.o t.A (zs.drop k) (digs N) w (by rw [List.length_drop, L.mid.lz]) rfl (by omega) (by omega) (by omega) (by omega) (by omega) (fun h => (L.tok.2 (by omega)).1)
  (L.mid.uz.drop k) hu (L.mid.dz.drop k) (digs_digs N) (by unfold Apart at hap; unfold UpOk; omega)).mono ?_
 rintro e w' ⟨c, rs, rfl, h1, h2, h3, h4, h5⟩
 rw [val_digs] at h5
 exact ⟨_, rfl, L.add S lx ly hk h1 h2 h3 h4 hN h5⟩
set_option maxRecDepth 1000000 in
set_option maxHeartbeats 1600000 in
theorem mul_gt (T : Int) (m n : Nat) (hn : 2 ≤ n) (hnm : n < m) (hTn : ¬ (n : Int) < T) (HK : KaraSpec T n) (IH : ∀ m' n', m' + n' < m + n → MulSpec T m' n') : MulSpec T m n := by
 intro z x y nz sb ns J xs ys w hz hx hy lx ly rx ry hT hS oz ox oy hG
 have hm : m + n ≤ 1099511627776 := by have := G_le (m + n); omega
 have q2 : decide (m < n) = false := decide_eq_false (by omega)
 have q4 : ((m : Int) == 0) = false := beq_eq_false_iff_ne.2 (by omega)
 have q5 : ((n : Int) == 0) = false := beq_eq_false_iff_ne.2 (by omega)
 have q6 : ((n : Int) == 1) = false := beq_eq_false_iff_ne.2 (by omega)
 have exA := hx.addr (by omega)
 have eyA := hy.addr (by omega)
 obtain ⟨xA, xc, xb, xo⟩ := x
 obtain ⟨yA, yc, yb, yo⟩ := y
 simp only at exA eyA
 subst exA
 subst eyA
 have HA := Lib.hid (alias_any z ⟨some ⟨xb, xo, none⟩, xc, xb, xo⟩ nz m w hz hx.ok)
 have HA2 := Lib.hid (fun q => alias_any z ⟨some ⟨yb, yo, none⟩, yc, yb, yo⟩ nz n (w.drewN q) (hz.upd ((Upd.refl NoF w).drewN q)) (hy.ok.upd ((Upd.refl NoF w).drewN q)))
 have HX := Lib.hid (And.intro hx (And.intro hy (And.intro lx ly)))
 have HI := Lib.hid (And.intro HK IH)
 clear lx ly hx hy HK IH
 have HS := Lib.hid (And.intro hS (And.intro oz (And.intro ox (And.intro oy hT))))
 have HG := Lib.hid hG
 clear hS oz ox oy hG
 go_enter_defers Tryz.func70, Tryz.ntmps70
 go_upto_region 9 with fail
 go_cut [51] from 13 to 120 (fun s51 wx => s51 = .bool (aliasB z ⟨some ⟨xb, xo, none⟩, xc, xb, xo⟩ || aliasB z ⟨some ⟨yb, yo, none⟩, yc, yb, yo⟩) ∧ ∃ q : Nat, wx = w.drewN q)
 case first =>
  by_cases hal : aliasB z ⟨some ⟨xb, xo, none⟩, xc, xb, xo⟩ = true
  ·
   have HF := Lib.hid hal
   rw [hal] at HA
   clear hal
   go_wp2_with fail
   refine HA.out.mono ?_
   rintro e w1 ⟨rfl, q, rfl⟩
   go_wp2_with fail
   go_meet
   case rel => exact ⟨by rw [HF.out]; rfl, q, rfl⟩
  ·
   have hal0 : aliasB z ⟨some ⟨xb, xo, none⟩, xc, xb, xo⟩ = false := by simpa using hal
   rw [hal0] at HA
   have HF := Lib.hid hal0
   clear hal hal0
   go_wp2_with fail
   refine HA.out.mono ?_
   rintro e w1 ⟨rfl, q, rfl⟩
   go_wp2_with fail
   refine (HA2.out q).mono ?_
   rintro e w1 ⟨rfl, q', rfl⟩
   go_wp2_with fail
   go_meet
   case rel => exact ⟨by rw [HF.out]; rfl, q + q', rfl⟩
 case rest =>
  obtain ⟨rfl, q, rfl⟩ := hcut
  clear HA HA2
  go_upto_if 51 with fail
  go_cut [0] from 13 to 120 (fun s0 wx => (∃ nz' : Nat, s0 = .slice (free2 z ⟨some ⟨xb, xo, none⟩, xc, xb, xo⟩ ⟨some ⟨yb, yo, none⟩, yc, yb, yo⟩).A nz' (free2 z ⟨some ⟨xb, xo, none⟩, xc, xb, xo⟩ ⟨some ⟨yb, yo, none⟩, yc, yb, yo⟩).c) ∧ wx = w.drewN q)
  case first =>
   by_cases hal : (aliasB z ⟨some ⟨xb, xo, none⟩, xc, xb, xo⟩ || aliasB z ⟨some ⟨yb, yo, none⟩, yc, yb, yo⟩) = true
   ·
    have HF := Lib.hid hal
    rw [hal]
    clear hal
    go_wp2_with fail
    go_meet
    case rel => exact ⟨⟨0, by unfold free2; rw [HF.out]; rfl⟩, rfl⟩
   ·
    have hal0 : (aliasB z ⟨some ⟨xb, xo, none⟩, xc, xb, xo⟩ || aliasB z ⟨some ⟨yb, yo, none⟩, yc, yb, yo⟩) = false := by simpa using hal
    have HF := Lib.hid hal0
    rw [hal0]
    clear hal hal0
    go_wp2_with fail
    go_meet
    case rel => exact ⟨⟨nz, by unfold free2; rw [HF.out]; rfl⟩, rfl⟩
  case rest =>
   obtain ⟨⟨nz', rfl⟩, rfl⟩ := hcut
   obtain ⟨z', ez⟩ : ∃ z', free2 z ⟨some ⟨xb, xo, none⟩, xc, xb, xo⟩ ⟨some ⟨yb, yo, none⟩, yc, yb, yo⟩ = z' := ⟨_, rfl⟩
   have hz' : z'.Ok (w.drewN q) := by rw [← ez]; exact (free2_Ok hz).upd ((Upd.refl NoF w).drewN q)
   have hzz : z' = z ∨ z'.c = 0 := by rw [← ez]; exact free2_zero z ⟨some ⟨xb, xo, none⟩, xc, xb, xo⟩ ⟨some ⟨yb, yo, none⟩, yc, yb, yo⟩
   have hax : Apart z' ⟨some ⟨xb, xo, none⟩, xc, xb, xo⟩ := by rw [← ez]; exact free2_x rx
   have hay : Apart z' ⟨some ⟨yb, yo, none⟩, yc, yb, yo⟩ := by rw [← ez]; exact free2_y ry
   have hre : Apart z ⟨some ⟨xb, xo, none⟩, xc, xb, xo⟩ ∧ Apart z ⟨some ⟨yb, yo, none⟩, yc, yb, yo⟩ ∧ m + n ≤ z.c → z' = z ∧ m + n ≤ z.c := fun h => ⟨by rw [← ez]; exact free2_self h.1 h.2.1, h.2.2⟩
   rw [ez]
   have hu0 : Upd NoF w (w.drewN q) := (Upd.refl NoF w).drewN q
   have HZ := Lib.hid (And.intro hzz (And.intro hax (And.intro hay hre)))
   clear ez hzz hax hay hre rx ry hz
   go_wp2_with fail
   refine (make_pos z' nz' (m + n) _ _ hz' (by omega) (by omega) hm).mono ?_
   rintro e w1 ⟨b, o, c, rfl, hF, hO, hc, hU⟩
   have u1 : Upd NoF w w1 := hu0.trans hU
   have c9 := (hT.upd u1 (fun _ h => h)).cell
   have hF' : From w z' (Loc.mk1 b o c) (m + n) := hF
   have HF := Lib.hid (And.intro hF' (And.intro u1 hO))
   have hc63 := hO.1
   have p1 : (2 : Int) * (n : Int) ≤ (c : Int) := by omega
   have p2 : (n : Int) ≤ (xc : Int) := by have : xs.length ≤ xc := HX.out.1.le; have := HX.out.2.2.1; omega
   clear hF hF' hO hU u1 hu0 hz'
   have HP := Lib.hid (mul_pre (T := T) (J := J) HX.out.1 HX.out.2.1 HZ.out.2.1 HZ.out.2.2.1 HZ.out.1 HF.out.1 HF.out.2.1 HF.out.2.2 hT HS.out.1 HS.out.2.1 HS.out.2.2.1 HS.out.2.2.2.1 hc)
   clear hT
   have e1 : IntKind.i64.wrap ((2 : Int) * (n : Int)) = (2 : Int) * (n : Int) := by rw [IntKind.wrap_i64]; omega
   have e2 : (0 : Int) ≤ (2 : Int) * (n : Int) := by omega
   have e3 : ((2 : Int) * (n : Int)).toNat = 2 * n := by omega
   go_wp2_with fail
   go_still_tail 9, (by kernel_rfl)
   go_wp2_with fail
   refine (HI.out.1 (Loc.mk1 b o c) ⟨some ⟨xb, xo, none⟩, xc, xb, xo⟩ ⟨some ⟨yb, yo, none⟩, yc, yb, yo⟩ sb ns J (xs.take n) ys _ HP.out.2.2.2.1 (by simp only; omega) (HP.out.2.1.take n) HP.out.2.2.1 (by rw [List.length_take, HX.out.2.2.1]; omega) HX.out.2.2.2 (by omega)
    HP.out.1.ax HP.out.1.ay HP.out.2.2.2.2.1 HP.out.2.2.2.2.2 HP.out.1.oz HP.out.1.ox HP.out.1.oy (by have := HG.out; have := G_mono (a := 2 * n) (b := m + n) (by omega); omega)).mono ?_
   rintro e w2 ⟨rs, J2, rfl, hl, hR, hD, hv, u2, hS2, hJ2⟩
   have HK2 := Lib.hid (And.intro hl (And.intro hR (And.intro hD (And.intro hv (And.intro u2 (And.intro hS2 hJ2))))))
   have hL2 : Live w2 b (o + 2 * n) (m - n) := by
    have : Live w2 b o c := (HP.out.2.2.2.1.upd u2).live
    exact this.sub (2 * n) (m - n) (by omega)
   obtain ⟨i0, i1, i2, i3, i4⟩ := iWord
   have q7 : decide (n < m) = true := decide_eq_true hnm
   have q8 : 2 * n < c := by omega
   have q9 : (2 : Int) * (n : Int) ≤ (m : Int) + (n : Int) := by omega
   have q10 : m + n - 2 * n = m - n := by omega
   clear hl hR hD hv u2 hS2 hJ2 e1 p1 p2 c9
   go_wp2_with (with_reducible refine wpList_clear64 rfl (.tmp 86) 56 rfl 81 i0 uNat i1 i2 _ (m - n) _ b (o + 2 * n) rfl (fun _ => rfl) hL2 ?_; intro w3 hu3 hz3)
   have M := mid_start HP.out.1 (Nat.le_of_lt hnm) (by omega) HP.out.2.1 HP.out.2.2.1 HP.out.2.2.2.1 HP.out.2.2.2.2.1 HP.out.2.2.2.2.2 HK2.out.1 HK2.out.2.1 HK2.out.2.2.1 HK2.out.2.2.2.2.1 HK2.out.2.2.2.2.2.1 HK2.out.2.2.2.2.2.2 hu3 hz3
   have hv3 : val B64 (rs ++ List.replicate (m - n) 0) = val B64 (xs.take n) * val B64 ys := by rw [val_append, val_replicate, HK2.out.2.2.2.1]; simp
   have HM := Lib.hid (And.intro M hv3)
   clear M hv3 HK2 hu3 hz3 hL2
   refine (save_any sb ns J2 w3 HM.out.1.stk).mono ?_
   rintro e w4 ⟨rfl, hw4⟩
   cases hw4.symm
   have hN : Calls Tryz.prog 98 #[.pointer (some ⟨sb, 0, none⟩), .int .i64 ((2 : Int) * (n : Int))] w3 fun e w' => StkNat w3 sb ns (2 * n) J2 e w' := by
    rw [show (2 : Int) * (n : Int) = ((2 * n : Nat) : Int) from by omega]
    exact stk_nat_any sb ns (2 * n) J2 w3 HM.out.1.stk (by omega) (by have := HG.out; have := G_step (a := 2 * n) (b := m + n) (by omega); omega)
   have HN := Lib.hid hN
   clear hN hw4
   go_wp2_with fail
   refine HN.out.mono ?_
   clear HN
   rintro e w4 ⟨t, J3, n', rfl, ht1, ht2, ht3, ht4, hS4, hn1, hn2, hJ4, u4⟩
   have HL0 := Lib.hid (mid_nat (q := n) HP.out.1 HM.out.1 HM.out.2 (Nat.le_of_lt hnm) ht2 ht3 ht4 hS4 hn1 hJ4 u4 rfl)
   have HT := Lib.hid (And.intro HL0.out.2 ht1)
   clear hS4 hn1 hJ4 u4 ht1 ht2 ht3 ht4 HM
   go_wp2_with fail
   go_loopw [11, 12] (fun tv iv wr => ∃ (k nt : Nat) (J' : SI) (zs : List Nat), n ≤ k ∧ k < m + n ∧ iv = .int .i64 (k : Int) ∧ tv = .slice t.A nt t.c ∧ Hid (LoopI T w1.drew wr ⟨some ⟨xb, xo, none⟩, xc, xb, xo⟩ ⟨some ⟨yb, yo, none⟩, yc, yb, yo⟩ (Loc.mk1 b o c) t xs ys zs m n k sb ns n' J J'))
    (fun _ i _ => m + n - (intOf i).toNat)
   case atStart => exact ⟨n, 2 * n, J3, _, Nat.le_refl _, by omega, rfl, rfl, HL0.out.1⟩
   case round =>
    obtain ⟨k, nt, J', zs, hk1, hk2, rfl, rfl, HL⟩ := hrel
    by_cases hlt : k < m
    ·
     obtain ⟨p, hp⟩ : ∃ p, min (k + n) m = p := ⟨_, rfl⟩
     have ep : min ((k : Int) + (n : Int)) (m : Int) = (p : Int) := by omega
     have hp1 : k ≤ p := by omega
     have hp2 : p ≤ m := by omega
     have hp3 : p ≤ k + n := by omega
     have hxc : xs.length ≤ xc := HX.out.1.le
     have hxl := HX.out.2.2.1
     have hp4 : (p : Int) ≤ (xc : Int) := by omega
     have hkx : k < xc := by omega
     have hp5 : (k : Int) ≤ (p : Int) := by omega
     have hkc : k < c := by omega
     have hkm : (k : Int) ≤ (m : Int) + (n : Int) := by omega
     have ek : IntKind.i64.wrap ((k : Int) + (n : Int)) = ((k + n : Nat) : Int) := by rw [IntKind.wrap_i64]; omega
     have hA := HL.out.ask HP.out.1 HT.out.1 hkx (some ⟨xb, xo + k, none⟩)
     have HI2 := Lib.hid (HI.out.2 (p - k) n (by omega) t ⟨some ⟨xb, xo + k, none⟩, xc - k, xb, xo + k⟩ ⟨some ⟨yb, yo, none⟩, yc, yb, yo⟩ nt sb n' J' ((xs.drop k).take (p - k)) ys wr HL.out.tok ((HL.out.mid.vx.cut hkx).take _) HL.out.mid.vy
      (by rw [List.length_take, List.length_drop, hxl]; omega) HX.out.2.2.2 (Or.inr hA.1) (Or.inr hA.2.1) HL.out.mid.thr HL.out.mid.stk HL.out.toff hA.2.2.1 hA.2.2.2
      (by have := HG.out; have := G_step (a := 2 * n) (b := m + n) (by omega); have : G (p - k + n) ≤ G (2 * n) := by { unfold G; exact Nat.mul_le_mul (by omega) (by omega) }; omega))
     have HA := Lib.hid hA
     have HE := Lib.hid hp
     have hM : m + n - k = m + n - k := rfl
     clear hA hp hxl hxc hp3 hM
     go_wp2_with fail
     refine HI2.out.mono ?_
     clear HI2
     rintro e w5 ⟨r, ps, J4, rfl, hr1, hr2, hl5, hl6, hR5, hD5, hv5, hO5, u5, hS5, hJ5, ho5⟩
     have er : r = t := hr2 ⟨HA.out.1, HA.out.2.1, by have := HT.out.2; omega⟩
     subst r
     have hap := HE.out
     have HL5 := Lib.hid (HL.out.prod HP.out.1 HT.out.1 u5 hS5 hJ5 ho5)
     have HQ := Lib.hid (loop_addTo HP.out.1 HL5.out HT.out.1 HX.out.2.2.1 HX.out.2.2.2 hlt hm (by rw [hap]; exact hl5) hR5 hD5 hv5 hl6 (by rw [hap]))
     clear hr1 hr2 hl5 hl6 hR5 hD5 hv5 hO5 u5 hS5 hJ5 ho5 HA hap HL
     go_wp2_with fail
     refine HQ.out.mono ?_
     clear HQ
     rintro e w6 ⟨zs', rfl, hL6⟩
     have HL6 := Lib.hid hL6
     clear hL6 ep hp5 HL5
     go_wp2_with fail
     go_roundw
     case rel => exact ⟨k + n, _, J4, zs', by omega, by omega, rfl, rfl, HL6⟩
     case measure => simp [intOf]; omega
    ·
     have hmin : min k m = m := by omega
     have hvv : val B64 zs = val B64 xs * val B64 ys := by rw [HL.out.v, hmin, List.take_of_length_le (by rw [HX.out.2.2.1]; exact Nat.le_refl _)]
     have HV := Lib.hid hvv
     have hR := HL.out.mid.uz
     have hD := HL.out.mid.dz
     clear hmin hvv HL0
     go_wp2_with fail
     refine (norm_len b o c (m + n) zs wr HL.out.mid.lz hc hc63 hR hD).mono ?_
     rintro e w7 ⟨rfl, hw7⟩
     cases hw7.symm
     rw [HV.out]
     clear hR hD
     go_wp2_with fail
     refine leaves_cons (f := 96) (args := #[.pointer (some ⟨sb, 0, none⟩), .int .i64 (ns : Int)]) (by simp) (by simp [go_sem]) ?_
     refine (restore_d sb n' ns J' .returning wr HL.out.mid.stk HL.out.mid.nn).mono ?_
     rintro e u' w7 ⟨rfl, rfl, hS7, hU7⟩
     refine ⟨_, results_tmp rfl _ _ _, ?_⟩
     exact mid_end HP.out.1 HL.out.mid HV.out (by omega) HF.out.1 HZ.out.1 HZ.out.2.2.2 HF.out.2.1.drew hS7 hU7
set_option maxRecDepth 1000000 in
set_option maxHeartbeats 1600000 in
theorem mul_eq (T : Int) (m n : Nat) (hn : 2 ≤ n) (hnm : n = m) (hTn : ¬ (n : Int) < T) (HK : KaraSpec T n) : MulSpec T m n := by
 intro z x y nz sb ns J xs ys w hz hx hy lx ly rx ry hT hS oz ox oy hG
 have IH : True := trivial
 have hm : m + n ≤ 1099511627776 := by have := G_le (m + n); omega
 have q2 : decide (m < n) = false := decide_eq_false (by omega)
 have q4 : ((m : Int) == 0) = false := beq_eq_false_iff_ne.2 (by omega)
 have q5 : ((n : Int) == 0) = false := beq_eq_false_iff_ne.2 (by omega)
 have q6 : ((n : Int) == 1) = false := beq_eq_false_iff_ne.2 (by omega)
 have exA := hx.addr (by omega)
 have eyA := hy.addr (by omega)
 obtain ⟨xA, xc, xb, xo⟩ := x
 obtain ⟨yA, yc, yb, yo⟩ := y
 simp only at exA eyA
 subst exA
 subst eyA
 have HA := Lib.hid (alias_any z ⟨some ⟨xb, xo, none⟩, xc, xb, xo⟩ nz m w hz hx.ok)
 have HA2 := Lib.hid (fun q => alias_any z ⟨some ⟨yb, yo, none⟩, yc, yb, yo⟩ nz n (w.drewN q) (hz.upd ((Upd.refl NoF w).drewN q)) (hy.ok.upd ((Upd.refl NoF w).drewN q)))
 have HX := Lib.hid (And.intro hx (And.intro hy (And.intro lx ly)))
 have HI := Lib.hid (And.intro HK IH)
 clear lx ly hx hy HK IH
 have HS := Lib.hid (And.intro hS (And.intro oz (And.intro ox (And.intro oy hT))))
 have HG := Lib.hid hG
 have q7 : decide (n < m) = false := decide_eq_false (by omega)
 have HE := Lib.hid hnm
 have hle : n ≤ m := Nat.le_of_eq hnm
 clear hS oz ox oy hG hnm
 go_enter_defers Tryz.func70, Tryz.ntmps70
 go_upto_region 9 with fail
 go_cut [51] from 13 to 120 (fun s51 wx => s51 = .bool (aliasB z ⟨some ⟨xb, xo, none⟩, xc, xb, xo⟩ || aliasB z ⟨some ⟨yb, yo, none⟩, yc, yb, yo⟩) ∧ ∃ q : Nat, wx = w.drewN q)
 case first =>
  by_cases hal : aliasB z ⟨some ⟨xb, xo, none⟩, xc, xb, xo⟩ = true
  ·
   have HF := Lib.hid hal
   rw [hal] at HA
   clear hal
   go_wp2_with fail
   refine HA.out.mono ?_
   rintro e w1 ⟨rfl, q, rfl⟩
   go_wp2_with fail
   go_meet
   case rel => exact ⟨by rw [HF.out]; rfl, q, rfl⟩
  ·
   have hal0 : aliasB z ⟨some ⟨xb, xo, none⟩, xc, xb, xo⟩ = false := by simpa using hal
   rw [hal0] at HA
   have HF := Lib.hid hal0
   clear hal hal0
   go_wp2_with fail
   refine HA.out.mono ?_
   rintro e w1 ⟨rfl, q, rfl⟩
   go_wp2_with fail
   refine (HA2.out q).mono ?_
   rintro e w1 ⟨rfl, q', rfl⟩
   go_wp2_with fail
   go_meet
   case rel => exact ⟨by rw [HF.out]; rfl, q + q', rfl⟩
 case rest =>
  obtain ⟨rfl, q, rfl⟩ := hcut
  clear HA HA2
  go_upto_if 51 with fail
  go_cut [0] from 13 to 120 (fun s0 wx => (∃ nz' : Nat, s0 = .slice (free2 z ⟨some ⟨xb, xo, none⟩, xc, xb, xo⟩ ⟨some ⟨yb, yo, none⟩, yc, yb, yo⟩).A nz' (free2 z ⟨some ⟨xb, xo, none⟩, xc, xb, xo⟩ ⟨some ⟨yb, yo, none⟩, yc, yb, yo⟩).c) ∧ wx = w.drewN q)
  case first =>
   by_cases hal : (aliasB z ⟨some ⟨xb, xo, none⟩, xc, xb, xo⟩ || aliasB z ⟨some ⟨yb, yo, none⟩, yc, yb, yo⟩) = true
   ·
    have HF := Lib.hid hal
    rw [hal]
    clear hal
    go_wp2_with fail
    go_meet
    case rel => exact ⟨⟨0, by unfold free2; rw [HF.out]; rfl⟩, rfl⟩
   ·
    have hal0 : (aliasB z ⟨some ⟨xb, xo, none⟩, xc, xb, xo⟩ || aliasB z ⟨some ⟨yb, yo, none⟩, yc, yb, yo⟩) = false := by simpa using hal
    have HF := Lib.hid hal0
    rw [hal0]
    clear hal hal0
    go_wp2_with fail
    go_meet
    case rel => exact ⟨⟨nz, by unfold free2; rw [HF.out]; rfl⟩, rfl⟩
  case rest =>
   obtain ⟨⟨nz', rfl⟩, rfl⟩ := hcut
   obtain ⟨z', ez⟩ : ∃ z', free2 z ⟨some ⟨xb, xo, none⟩, xc, xb, xo⟩ ⟨some ⟨yb, yo, none⟩, yc, yb, yo⟩ = z' := ⟨_, rfl⟩
   have hz' : z'.Ok (w.drewN q) := by rw [← ez]; exact (free2_Ok hz).upd ((Upd.refl NoF w).drewN q)
   have hzz : z' = z ∨ z'.c = 0 := by rw [← ez]; exact free2_zero z ⟨some ⟨xb, xo, none⟩, xc, xb, xo⟩ ⟨some ⟨yb, yo, none⟩, yc, yb, yo⟩
   have hax : Apart z' ⟨some ⟨xb, xo, none⟩, xc, xb, xo⟩ := by rw [← ez]; exact free2_x rx
   have hay : Apart z' ⟨some ⟨yb, yo, none⟩, yc, yb, yo⟩ := by rw [← ez]; exact free2_y ry
   have hre : Apart z ⟨some ⟨xb, xo, none⟩, xc, xb, xo⟩ ∧ Apart z ⟨some ⟨yb, yo, none⟩, yc, yb, yo⟩ ∧ m + n ≤ z.c → z' = z ∧ m + n ≤ z.c := fun h => ⟨by rw [← ez]; exact free2_self h.1 h.2.1, h.2.2⟩
   rw [ez]
   have hu0 : Upd NoF w (w.drewN q) := (Upd.refl NoF w).drewN q
   have HZ := Lib.hid (And.intro hzz (And.intro hax (And.intro hay hre)))
   clear ez hzz hax hay hre rx ry hz
   go_wp2_with fail
   refine (make_pos z' nz' (m + n) _ _ hz' (by omega) (by omega) hm).mono ?_
   rintro e w1 ⟨b, o, c, rfl, hF, hO, hc, hU⟩
   have u1 : Upd NoF w w1 := hu0.trans hU
   have c9 := (hT.upd u1 (fun _ h => h)).cell
   have hF' : From w z' (Loc.mk1 b o c) (m + n) := hF
   have HF := Lib.hid (And.intro hF' (And.intro u1 hO))
   have hc63 := hO.1
   have p1 : (2 : Int) * (n : Int) ≤ (c : Int) := by omega
   have p2 : (n : Int) ≤ (xc : Int) := by have : xs.length ≤ xc := HX.out.1.le; have := HX.out.2.2.1; omega
   clear hF hF' hO hU u1 hu0 hz'
   have HP := Lib.hid (mul_pre (T := T) (J := J) HX.out.1 HX.out.2.1 HZ.out.2.1 HZ.out.2.2.1 HZ.out.1 HF.out.1 HF.out.2.1 HF.out.2.2 hT HS.out.1 HS.out.2.1 HS.out.2.2.1 HS.out.2.2.2.1 hc)
   clear hT
   have e1 : IntKind.i64.wrap ((2 : Int) * (n : Int)) = (2 : Int) * (n : Int) := by rw [IntKind.wrap_i64]; omega
   have e2 : (0 : Int) ≤ (2 : Int) * (n : Int) := by omega
   have e3 : ((2 : Int) * (n : Int)).toNat = 2 * n := by omega
   go_wp2_with fail
   go_still_tail 9, (by kernel_rfl)
   go_wp2_with fail
   refine (HI.out.1 (Loc.mk1 b o c) ⟨some ⟨xb, xo, none⟩, xc, xb, xo⟩ ⟨some ⟨yb, yo, none⟩, yc, yb, yo⟩ sb ns J (xs.take n) ys _ HP.out.2.2.2.1 (by simp only; omega) (HP.out.2.1.take n) HP.out.2.2.1 (by rw [List.length_take, HX.out.2.2.1]; omega) HX.out.2.2.2 (by omega)
    HP.out.1.ax HP.out.1.ay HP.out.2.2.2.2.1 HP.out.2.2.2.2.2 HP.out.1.oz HP.out.1.ox HP.out.1.oy (by have := HG.out; have := G_mono (a := 2 * n) (b := m + n) (by omega); omega)).mono ?_
   rintro e w2 ⟨rs, J2, rfl, hl, hR, hD, hv, u2, hS2, hJ2⟩
   have HK2 := Lib.hid (And.intro hl (And.intro hR (And.intro hD (And.intro hv (And.intro u2 (And.intro hS2 hJ2))))))
   have hrs : rs ++ List.replicate (m - n) 0 = rs := by rw [show m - n = 0 from by have := HE.out; omega]; exact List.append_nil _
   have M := mid_start HP.out.1 hle (by omega) HP.out.2.1 HP.out.2.2.1 HP.out.2.2.2.1 HP.out.2.2.2.2.1 HP.out.2.2.2.2.2 HK2.out.1 HK2.out.2.1 HK2.out.2.2.1 HK2.out.2.2.2.2.1 HK2.out.2.2.2.2.2.1 HK2.out.2.2.2.2.2.2 (Upd.refl _ w2) (by rw [show m - n = 0 from by have := HE.out; omega]; exact U64.nil _ _ _)
   rw [hrs] at M
   have hvv : val B64 rs = val B64 xs * val B64 ys := by rw [HK2.out.2.2.2.1, List.take_of_length_le (by rw [HX.out.2.2.1, HE.out]; exact Nat.le_refl _)]
   have HM := Lib.hid (And.intro M hvv)
   clear hl hR hD hv u2 hS2 hJ2 hrs M hvv
   have hR := HM.out.1.uz
   have hD := HM.out.1.dz
   go_wp2_with fail
   refine (norm_len b o c (m + n) rs w2 HM.out.1.lz hc hc63 hR hD).mono ?_
   rintro e w7 ⟨rfl, hw7⟩
   cases hw7.symm
   rw [HM.out.2]
   clear hR hD
   go_wp2_with fail
   refine ⟨_, results_tmp rfl _ _ _, ?_⟩
   exact mid_end HP.out.1 HM.out.1 HM.out.2 (by omega) HF.out.1 HZ.out.1 HZ.out.2.2.2 HF.out.2.1.drew HM.out.1.stk (Upd.refl _ _)
end Go.Proofs.YthkklkjldpcbkaaGreatDoor
namespace Go.Proofs.YthkklkjldpcbkaaGreatDoor
open Go.RowKit
theorem mul_pre0 {T : Int} {w w1 w2 : World} {x y z' : Loc} {xs ys : List Nat} {b o c m n sb : Nat} (vx : VecV w x xs) (vy : VecV w y ys) (hax : Apart z' x) (hay : Apart z' y)
  (hF : From w z' (Loc.mk1 b o c) (m + n)) (u1 : Upd NoF w w1) (hO : (Loc.mk1 b o c).Ok w1) (hT : Thr w T) (u2 : Upd NoF w1 w2) (hsb : sb = w1.heap.size) (hS : StkV w2 sb 0 .none) (hc : m + n ≤ c) :
  MidS w2.drew x y (Loc.mk1 b o c) m n sb 0 .none ∧ VecV w2.drew x xs ∧ VecV w2.drew y ys ∧ (Loc.mk1 b o c).Ok w2.drew ∧ Thr w2.drew T ∧ StkV w2.drew sb 0 .none := by
 have u12 : Upd NoF w1 w2.drew := u2.drew
 have u1' : Upd NoF w w2.drew := u1.trans u12
 have off : ∀ {l : Loc}, l.Ok w1 → Off .none sb 0 l := fun hl i hi hk => by
  have := hl.lt (by omega)
  have hk' : _ = sb := hk
  omega
 have vx1 := vx.upd0 u1
 have vy1 := vy.upd0 u1
 refine ⟨⟨hc, ?_, ?_, off vx1.ok, off vy1.ok, off hO, fun h => (vx.upd0 u1').ok.lt h, fun h => (vy.upd0 u1').ok.lt h, fun h => (hO.upd u12).lt h⟩, vx.upd0 u1', vy.upd0 u1', hO.upd u12, hT.upd u1' (fun _ h => h), hS.upd0 (Upd.refl NoF w2).drew⟩
 ·
  rcases hF with ⟨h1, h2⟩ | ⟨h1, h2, h3⟩
  · rw [h2]; exact hax
  ·
   by_cases h0 : x.c = 0
   · exact Or.inr (Or.inl h0)
   ·
    have := vx.ok.lt (by omega)
    simp only at h2
    exact Or.inr (Or.inr (Or.inl (by simp only; omega)))
 ·
  rcases hF with ⟨h1, h2⟩ | ⟨h1, h2, h3⟩
  · rw [h2]; exact hay
  ·
   by_cases h0 : y.c = 0
   · exact Or.inr (Or.inl h0)
   ·
    have := vy.ok.lt (by omega)
    simp only at h2
    exact Or.inr (Or.inr (Or.inl (by simp only; omega)))
def MulSpec0 (T : Int) (m n : Nat) : Prop := ∀ (z x y : Loc) (nz : Nat) (xs ys : List Nat) (w : World), z.Ok w → VecV w x xs → VecV w y ys → xs.length = m → ys.length = n → Rel z x → Rel z y → Thr w T → G (m + n) ≤ 1099511627776 →
 Calls Tryz.prog 70 #[.slice z.A nz z.c, .pointer none, .slice x.A m x.c, .slice y.A n y.c] w fun e w' => MulRes w z (Apart z x ∧ Apart z y ∧ m + n ≤ z.c) (m + n) (val B64 xs * val B64 ys) NoF e w'
set_option maxRecDepth 1000000 in
set_option maxHeartbeats 1600000 in
theorem mul_gt0 (T : Int) (m n : Nat) (hn : 2 ≤ n) (hnm : n < m) (hTn : ¬ (n : Int) < T) (HK : KaraSpec T n) (IH : ∀ m' n', m' + n' < m + n → MulSpec T m' n') : MulSpec0 T m n := by
 intro z x y nz xs ys w hz hx hy lx ly rx ry hT hG
 have hm : m + n ≤ 1099511627776 := by have := G_le (m + n); omega
 have q2 : decide (m < n) = false := decide_eq_false (by omega)
 have q4 : ((m : Int) == 0) = false := beq_eq_false_iff_ne.2 (by omega)
 have q5 : ((n : Int) == 0) = false := beq_eq_false_iff_ne.2 (by omega)
 have q6 : ((n : Int) == 1) = false := beq_eq_false_iff_ne.2 (by omega)
 have exA := hx.addr (by omega)
 have eyA := hy.addr (by omega)
 obtain ⟨xA, xc, xb, xo⟩ := x
 obtain ⟨yA, yc, yb, yo⟩ := y
 simp only at exA eyA
 subst exA
 subst eyA
 have HA := Lib.hid (alias_any z ⟨some ⟨xb, xo, none⟩, xc, xb, xo⟩ nz m w hz hx.ok)
 have HA2 := Lib.hid (fun q => alias_any z ⟨some ⟨yb, yo, none⟩, yc, yb, yo⟩ nz n (w.drewN q) (hz.upd ((Upd.refl NoF w).drewN q)) (hy.ok.upd ((Upd.refl NoF w).drewN q)))
 have HX := Lib.hid (And.intro hx (And.intro hy (And.intro lx ly)))
 have HI := Lib.hid (And.intro HK IH)
 clear lx ly hx hy HK IH
 have HG := Lib.hid (show 0 + G (m + n) ≤ 1099511627776 by omega)
 clear hG
 go_enter_defers Tryz.func70, Tryz.ntmps70
 go_upto_region 9 with fail
 go_cut [51] from 13 to 120 (fun s51 wx => s51 = .bool (aliasB z ⟨some ⟨xb, xo, none⟩, xc, xb, xo⟩ || aliasB z ⟨some ⟨yb, yo, none⟩, yc, yb, yo⟩) ∧ ∃ q : Nat, wx = w.drewN q)
 case first =>
  by_cases hal : aliasB z ⟨some ⟨xb, xo, none⟩, xc, xb, xo⟩ = true
  ·
   have HF := Lib.hid hal
   rw [hal] at HA
   clear hal
   go_wp2_with fail
   refine HA.out.mono ?_
   rintro e w1 ⟨rfl, q, rfl⟩
   go_wp2_with fail
   go_meet
   case rel => exact ⟨by rw [HF.out]; rfl, q, rfl⟩
  ·
   have hal0 : aliasB z ⟨some ⟨xb, xo, none⟩, xc, xb, xo⟩ = false := by simpa using hal
   rw [hal0] at HA
   have HF := Lib.hid hal0
   clear hal hal0
   go_wp2_with fail
   refine HA.out.mono ?_
   rintro e w1 ⟨rfl, q, rfl⟩
   go_wp2_with fail
   refine (HA2.out q).mono ?_
   rintro e w1 ⟨rfl, q', rfl⟩
   go_wp2_with fail
   go_meet
   case rel => exact ⟨by rw [HF.out]; rfl, q + q', rfl⟩
 case rest =>
  obtain ⟨rfl, q, rfl⟩ := hcut
  clear HA HA2
  go_upto_if 51 with fail
  go_cut [0] from 13 to 120 (fun s0 wx => (∃ nz' : Nat, s0 = .slice (free2 z ⟨some ⟨xb, xo, none⟩, xc, xb, xo⟩ ⟨some ⟨yb, yo, none⟩, yc, yb, yo⟩).A nz' (free2 z ⟨some ⟨xb, xo, none⟩, xc, xb, xo⟩ ⟨some ⟨yb, yo, none⟩, yc, yb, yo⟩).c) ∧ wx = w.drewN q)
  case first =>
   by_cases hal : (aliasB z ⟨some ⟨xb, xo, none⟩, xc, xb, xo⟩ || aliasB z ⟨some ⟨yb, yo, none⟩, yc, yb, yo⟩) = true
   ·
    have HF := Lib.hid hal
    rw [hal]
    clear hal
    go_wp2_with fail
    go_meet
    case rel => exact ⟨⟨0, by unfold free2; rw [HF.out]; rfl⟩, rfl⟩
   ·
    have hal0 : (aliasB z ⟨some ⟨xb, xo, none⟩, xc, xb, xo⟩ || aliasB z ⟨some ⟨yb, yo, none⟩, yc, yb, yo⟩) = false := by simpa using hal
    have HF := Lib.hid hal0
    rw [hal0]
    clear hal hal0
    go_wp2_with fail
    go_meet
    case rel => exact ⟨⟨nz, by unfold free2; rw [HF.out]; rfl⟩, rfl⟩
  case rest =>
   obtain ⟨⟨nz', rfl⟩, rfl⟩ := hcut
   obtain ⟨z', ez⟩ : ∃ z', free2 z ⟨some ⟨xb, xo, none⟩, xc, xb, xo⟩ ⟨some ⟨yb, yo, none⟩, yc, yb, yo⟩ = z' := ⟨_, rfl⟩
   have hz' : z'.Ok (w.drewN q) := by rw [← ez]; exact (free2_Ok hz).upd ((Upd.refl NoF w).drewN q)
   have hzz : z' = z ∨ z'.c = 0 := by rw [← ez]; exact free2_zero z ⟨some ⟨xb, xo, none⟩, xc, xb, xo⟩ ⟨some ⟨yb, yo, none⟩, yc, yb, yo⟩
   have hax : Apart z' ⟨some ⟨xb, xo, none⟩, xc, xb, xo⟩ := by rw [← ez]; exact free2_x rx
   have hay : Apart z' ⟨some ⟨yb, yo, none⟩, yc, yb, yo⟩ := by rw [← ez]; exact free2_y ry
   have hre : Apart z ⟨some ⟨xb, xo, none⟩, xc, xb, xo⟩ ∧ Apart z ⟨some ⟨yb, yo, none⟩, yc, yb, yo⟩ ∧ m + n ≤ z.c → z' = z ∧ m + n ≤ z.c := fun h => ⟨by rw [← ez]; exact free2_self h.1 h.2.1, h.2.2⟩
   rw [ez]
   have hu0 : Upd NoF w (w.drewN q) := (Upd.refl NoF w).drewN q
   have HZ := Lib.hid (And.intro hzz (And.intro hax (And.intro hay hre)))
   clear ez hzz hax hay hre rx ry hz
   go_wp2_with fail
   refine (make_pos z' nz' (m + n) _ _ hz' (by omega) (by omega) hm).mono ?_
   rintro e w1 ⟨b, o, c, rfl, hF, hO, hc, hU⟩
   have u1 : Upd NoF w w1 := hu0.trans hU
   have c9 := (hT.upd u1 (fun _ h => h)).cell
   have hF' : From w z' (Loc.mk1 b o c) (m + n) := hF
   have HF := Lib.hid (And.intro hF' (And.intro u1 hO))
   have hc63 := hO.1
   have p1 : (2 : Int) * (n : Int) ≤ (c : Int) := by omega
   have p2 : (n : Int) ≤ (xc : Int) := by have : xs.length ≤ xc := HX.out.1.le; have := HX.out.2.2.1; omega
   clear hF hF' hO hU u1 hu0 hz'
   go_wp2_with fail
   refine (getStack_any w1).mono ?_
   rintro e wS ⟨sb, rfl, hsb, uS, hS⟩
   have HP := Lib.hid (mul_pre0 (T := T) HX.out.1 HX.out.2.1 HZ.out.2.1 HZ.out.2.2.1 HF.out.1 HF.out.2.1 HF.out.2.2 hT uS hsb hS hc)
   have HB := Lib.hid (And.intro (show w.heap.size ≤ sb by have := HF.out.2.1.size; omega) (HF.out.2.1.trans uS.drew))
   clear hT hsb uS hS
   have e1 : IntKind.i64.wrap ((2 : Int) * (n : Int)) = (2 : Int) * (n : Int) := by rw [IntKind.wrap_i64]; omega
   have e2 : (0 : Int) ≤ (2 : Int) * (n : Int) := by omega
   have e3 : ((2 : Int) * (n : Int)).toNat = 2 * n := by omega
   go_wp2_with fail
   go_still_tail 9, (by kernel_rfl)
   go_wp2_with fail
   refine (HI.out.1 (Loc.mk1 b o c) ⟨some ⟨xb, xo, none⟩, xc, xb, xo⟩ ⟨some ⟨yb, yo, none⟩, yc, yb, yo⟩ sb 0 .none (xs.take n) ys _ HP.out.2.2.2.1 (by simp only; omega) (HP.out.2.1.take n) HP.out.2.2.1 (by rw [List.length_take, HX.out.2.2.1]; omega) HX.out.2.2.2 (by omega)
    HP.out.1.ax HP.out.1.ay HP.out.2.2.2.2.1 HP.out.2.2.2.2.2 HP.out.1.oz HP.out.1.ox HP.out.1.oy (by have := HG.out; have := G_mono (a := 2 * n) (b := m + n) (by omega); omega)).mono ?_
   rintro e w2 ⟨rs, J2, rfl, hl, hR, hD, hv, u2, hS2, hJ2⟩
   have HK2 := Lib.hid (And.intro hl (And.intro hR (And.intro hD (And.intro hv (And.intro u2 (And.intro hS2 hJ2))))))
   have hL2 : Live w2 b (o + 2 * n) (m - n) := by
    have : Live w2 b o c := (HP.out.2.2.2.1.upd u2).live
    exact this.sub (2 * n) (m - n) (by omega)
   obtain ⟨i0, i1, i2, i3, i4⟩ := iWord
   have q7 : decide (n < m) = true := decide_eq_true hnm
   have q8 : 2 * n < c := by omega
   have q9 : (2 : Int) * (n : Int) ≤ (m : Int) + (n : Int) := by omega
   have q10 : m + n - 2 * n = m - n := by omega
   clear hl hR hD hv u2 hS2 hJ2 e1 p1 p2 c9
   go_wp2_with (with_reducible refine wpList_clear64 rfl (.tmp 86) 56 rfl 81 i0 uNat i1 i2 _ (m - n) _ b (o + 2 * n) rfl (fun _ => rfl) hL2 ?_; intro w3 hu3 hz3)
   have M := mid_start HP.out.1 (Nat.le_of_lt hnm) (by omega) HP.out.2.1 HP.out.2.2.1 HP.out.2.2.2.1 HP.out.2.2.2.2.1 HP.out.2.2.2.2.2 HK2.out.1 HK2.out.2.1 HK2.out.2.2.1 HK2.out.2.2.2.2.1 HK2.out.2.2.2.2.2.1 HK2.out.2.2.2.2.2.2 hu3 hz3
   have hv3 : val B64 (rs ++ List.replicate (m - n) 0) = val B64 (xs.take n) * val B64 ys := by rw [val_append, val_replicate, HK2.out.2.2.2.1]; simp
   have HM := Lib.hid (And.intro M hv3)
   clear M hv3 HK2 hu3 hz3 hL2
   refine (save_any sb 0 J2 w3 HM.out.1.stk).mono ?_
   rintro e w4 ⟨rfl, hw4⟩
   cases hw4.symm
   have hN : Calls Tryz.prog 98 #[.pointer (some ⟨sb, 0, none⟩), .int .i64 ((2 : Int) * (n : Int))] w3 fun e w' => StkNat w3 sb 0 (2 * n) J2 e w' := by
    rw [show (2 : Int) * (n : Int) = ((2 * n : Nat) : Int) from by omega]
    exact stk_nat_any sb 0 (2 * n) J2 w3 HM.out.1.stk (by omega) (by have := HG.out; have := G_step (a := 2 * n) (b := m + n) (by omega); omega)
   have HN := Lib.hid hN
   clear hN hw4
   go_wp2_with fail
   refine HN.out.mono ?_
   clear HN
   rintro e w4 ⟨t, J3, n', rfl, ht1, ht2, ht3, ht4, hS4, hn1, hn2, hJ4, u4⟩
   have HL0 := Lib.hid (mid_nat (q := n) HP.out.1 HM.out.1 HM.out.2 (Nat.le_of_lt hnm) ht2 ht3 ht4 hS4 hn1 hJ4 u4 rfl)
   have HT := Lib.hid (And.intro HL0.out.2 ht1)
   clear hS4 hn1 hJ4 u4 ht1 ht2 ht3 ht4 HM
   go_wp2_with fail
   go_loopw [11, 12] (fun tv iv wr => ∃ (k nt : Nat) (J' : SI) (zs : List Nat), n ≤ k ∧ k < m + n ∧ iv = .int .i64 (k : Int) ∧ tv = .slice t.A nt t.c ∧ Hid (LoopI T wS.drew wr ⟨some ⟨xb, xo, none⟩, xc, xb, xo⟩ ⟨some ⟨yb, yo, none⟩, yc, yb, yo⟩ (Loc.mk1 b o c) t xs ys zs m n k sb 0 n' .none J'))
    (fun _ i _ => m + n - (intOf i).toNat)
   case atStart => exact ⟨n, 2 * n, J3, _, Nat.le_refl _, by omega, rfl, rfl, HL0.out.1⟩
   case round =>
    obtain ⟨k, nt, J', zs, hk1, hk2, rfl, rfl, HL⟩ := hrel
    by_cases hlt : k < m
    ·
     obtain ⟨p, hp⟩ : ∃ p, min (k + n) m = p := ⟨_, rfl⟩
     have ep : min ((k : Int) + (n : Int)) (m : Int) = (p : Int) := by omega
     have hp1 : k ≤ p := by omega
     have hp2 : p ≤ m := by omega
     have hp3 : p ≤ k + n := by omega
     have hxc : xs.length ≤ xc := HX.out.1.le
     have hxl := HX.out.2.2.1
     have hp4 : (p : Int) ≤ (xc : Int) := by omega
     have hkx : k < xc := by omega
     have hp5 : (k : Int) ≤ (p : Int) := by omega
     have hkc : k < c := by omega
     have hkm : (k : Int) ≤ (m : Int) + (n : Int) := by omega
     have ek : IntKind.i64.wrap ((k : Int) + (n : Int)) = ((k + n : Nat) : Int) := by rw [IntKind.wrap_i64]; omega
     have hA := HL.out.ask HP.out.1 HT.out.1 hkx (some ⟨xb, xo + k, none⟩)
     have HI2 := Lib.hid (HI.out.2 (p - k) n (by omega) t ⟨some ⟨xb, xo + k, none⟩, xc - k, xb, xo + k⟩ ⟨some ⟨yb, yo, none⟩, yc, yb, yo⟩ nt sb n' J' ((xs.drop k).take (p - k)) ys wr HL.out.tok ((HL.out.mid.vx.cut hkx).take _) HL.out.mid.vy
      (by rw [List.length_take, List.length_drop, hxl]; omega) HX.out.2.2.2 (Or.inr hA.1) (Or.inr hA.2.1) HL.out.mid.thr HL.out.mid.stk HL.out.toff hA.2.2.1 hA.2.2.2
      (by have := HG.out; have := G_step (a := 2 * n) (b := m + n) (by omega); have : G (p - k + n) ≤ G (2 * n) := by { unfold G; exact Nat.mul_le_mul (by omega) (by omega) }; omega))
     have HA := Lib.hid hA
     have HE := Lib.hid hp
     have hM : m + n - k = m + n - k := rfl
     clear hA hp hxl hxc hp3 hM
     go_wp2_with fail
     refine HI2.out.mono ?_
     clear HI2
     rintro e w5 ⟨r, ps, J4, rfl, hr1, hr2, hl5, hl6, hR5, hD5, hv5, hO5, u5, hS5, hJ5, ho5⟩
     have er : r = t := hr2 ⟨HA.out.1, HA.out.2.1, by have := HT.out.2; omega⟩
     subst r
     have hap := HE.out
     have HL5 := Lib.hid (HL.out.prod HP.out.1 HT.out.1 u5 hS5 hJ5 ho5)
     have HQ := Lib.hid (loop_addTo HP.out.1 HL5.out HT.out.1 HX.out.2.2.1 HX.out.2.2.2 hlt hm (by rw [hap]; exact hl5) hR5 hD5 hv5 hl6 (by rw [hap]))
     clear hr1 hr2 hl5 hl6 hR5 hD5 hv5 hO5 u5 hS5 hJ5 ho5 HA hap HL
     go_wp2_with fail
     refine HQ.out.mono ?_
     clear HQ
     rintro e w6 ⟨zs', rfl, hL6⟩
     have HL6 := Lib.hid hL6
     clear hL6 ep hp5 HL5
     go_wp2_with fail
     go_roundw
     case rel => exact ⟨k + n, _, J4, zs', by omega, by omega, rfl, rfl, HL6⟩
     case measure => simp [intOf]; omega
    ·
     have hmin : min k m = m := by omega
     have hvv : val B64 zs = val B64 xs * val B64 ys := by rw [HL.out.v, hmin, List.take_of_length_le (by rw [HX.out.2.2.1]; exact Nat.le_refl _)]
     have HV := Lib.hid hvv
     have hR := HL.out.mid.uz
     have hD := HL.out.mid.dz
     clear hmin hvv HL0
     go_wp2_with fail
     refine (norm_len b o c (m + n) zs wr HL.out.mid.lz hc hc63 hR hD).mono ?_
     rintro e w7 ⟨rfl, hw7⟩
     cases hw7.symm
     rw [HV.out]
     clear hR hD
     go_wp2_with fail
     refine leaves_cons (f := 96) (args := #[.pointer (some ⟨sb, 0, none⟩), .int .i64 ((0 : Nat) : Int)]) (by simp) (by simp [go_sem]) ?_
     refine (restore_d sb n' 0 J' .returning wr HL.out.mid.stk (Nat.zero_le _)).mono ?_
     rintro e u' w7 ⟨rfl, rfl, hS7, hU7⟩
     refine leaves_cons (f := 86) (args := #[.pointer (some ⟨sb, 0, none⟩)]) (by simp [settle]) (by simp [go_sem]) ?_
     refine (free_d sb 0 J' _ w7 hS7).mono ?_
     rintro e u' w8 ⟨rfl, rfl, hS8, hU8⟩
     refine ⟨_, results_tmp rfl _ _ _, ?_⟩
     exact mid_end0 HP.out.1 HL.out.mid HV.out (by omega) HF.out.1 HZ.out.1 HZ.out.2.2.2 HB.out.2 HB.out.1 ((hU7.weak (fun b i h => h.mono (Nat.zero_le _))).trans hU8)
set_option maxRecDepth 1000000 in
set_option maxHeartbeats 1600000 in
theorem mul_eq0 (T : Int) (m n : Nat) (hn : 2 ≤ n) (hnm : n = m) (hTn : ¬ (n : Int) < T) (HK : KaraSpec T n) : MulSpec0 T m n := by
 intro z x y nz xs ys w hz hx hy lx ly rx ry hT hG
 have IH : True := trivial
 have hm : m + n ≤ 1099511627776 := by have := G_le (m + n); omega
 have q2 : decide (m < n) = false := decide_eq_false (by omega)
 have q4 : ((m : Int) == 0) = false := beq_eq_false_iff_ne.2 (by omega)
 have q5 : ((n : Int) == 0) = false := beq_eq_false_iff_ne.2 (by omega)
 have q6 : ((n : Int) == 1) = false := beq_eq_false_iff_ne.2 (by omega)
 have exA := hx.addr (by omega)
 have eyA := hy.addr (by omega)
 obtain ⟨xA, xc, xb, xo⟩ := x
 obtain ⟨yA, yc, yb, yo⟩ := y
 simp only at exA eyA
 subst exA
 subst eyA
 have HA := Lib.hid (alias_any z ⟨some ⟨xb, xo, none⟩, xc, xb, xo⟩ nz m w hz hx.ok)
 have HA2 := Lib.hid (fun q => alias_any z ⟨some ⟨yb, yo, none⟩, yc, yb, yo⟩ nz n (w.drewN q) (hz.upd ((Upd.refl NoF w).drewN q)) (hy.ok.upd ((Upd.refl NoF w).drewN q)))
 have HX := Lib.hid (And.intro hx (And.intro hy (And.intro lx ly)))
 have HI := Lib.hid (And.intro HK IH)
 clear lx ly hx hy HK IH
 have HG := Lib.hid (show 0 + G (m + n) ≤ 1099511627776 by omega)
 have q7 : decide (n < m) = false := decide_eq_false (by omega)
 have HE := Lib.hid hnm
 have hle : n ≤ m := Nat.le_of_eq hnm
 clear hG hnm
 go_enter_defers Tryz.func70, Tryz.ntmps70
 go_upto_region 9 with fail
 go_cut [51] from 13 to 120 (fun s51 wx => s51 = .bool (aliasB z ⟨some ⟨xb, xo, none⟩, xc, xb, xo⟩ || aliasB z ⟨some ⟨yb, yo, none⟩, yc, yb, yo⟩) ∧ ∃ q : Nat, wx = w.drewN q)
 case first =>
  by_cases hal : aliasB z ⟨some ⟨xb, xo, none⟩, xc, xb, xo⟩ = true
  ·
   have HF := Lib.hid hal
   rw [hal] at HA
   clear hal
   go_wp2_with fail
   refine HA.out.mono ?_
   rintro e w1 ⟨rfl, q, rfl⟩
   go_wp2_with fail
   go_meet
   case rel => exact ⟨by rw [HF.out]; rfl, q, rfl⟩
  ·
   have hal0 : aliasB z ⟨some ⟨xb, xo, none⟩, xc, xb, xo⟩ = false := by simpa using hal
   rw [hal0] at HA
   have HF := Lib.hid hal0
   clear hal hal0
   go_wp2_with fail
   refine HA.out.mono ?_
   rintro e w1 ⟨rfl, q, rfl⟩
   go_wp2_with fail
   refine (HA2.out q).mono ?_
   rintro e w1 ⟨rfl, q', rfl⟩
   go_wp2_with fail
   go_meet
   case rel => exact ⟨by rw [HF.out]; rfl, q + q', rfl⟩
 case rest =>
  obtain ⟨rfl, q, rfl⟩ := hcut
  clear HA HA2
  go_upto_if 51 with fail
  go_cut [0] from 13 to 120 (fun s0 wx => (∃ nz' : Nat, s0 = .slice (free2 z ⟨some ⟨xb, xo, none⟩, xc, xb, xo⟩ ⟨some ⟨yb, yo, none⟩, yc, yb, yo⟩).A nz' (free2 z ⟨some ⟨xb, xo, none⟩, xc, xb, xo⟩ ⟨some ⟨yb, yo, none⟩, yc, yb, yo⟩).c) ∧ wx = w.drewN q)
  case first =>
   by_cases hal : (aliasB z ⟨some ⟨xb, xo, none⟩, xc, xb, xo⟩ || aliasB z ⟨some ⟨yb, yo, none⟩, yc, yb, yo⟩) = true
   ·
    have HF := Lib.hid hal
    rw [hal]
    clear hal
    go_wp2_with fail
    go_meet
    case rel => exact ⟨⟨0, by unfold free2; rw [HF.out]; rfl⟩, rfl⟩
   ·
    have hal0 : (aliasB z ⟨some ⟨xb, xo, none⟩, xc, xb, xo⟩ || aliasB z ⟨some ⟨yb, yo, none⟩, yc, yb, yo⟩) = false := by simpa using hal
    have HF := Lib.hid hal0
    rw [hal0]
    clear hal hal0
    go_wp2_with fail
    go_meet
    case rel => exact ⟨⟨nz, by unfold free2; rw [HF.out]; rfl⟩, rfl⟩
  case rest =>
   obtain ⟨⟨nz', rfl⟩, rfl⟩ := hcut
   obtain ⟨z', ez⟩ : ∃ z', free2 z ⟨some ⟨xb, xo, none⟩, xc, xb, xo⟩ ⟨some ⟨yb, yo, none⟩, yc, yb, yo⟩ = z' := ⟨_, rfl⟩
   have hz' : z'.Ok (w.drewN q) := by rw [← ez]; exact (free2_Ok hz).upd ((Upd.refl NoF w).drewN q)
   have hzz : z' = z ∨ z'.c = 0 := by rw [← ez]; exact free2_zero z ⟨some ⟨xb, xo, none⟩, xc, xb, xo⟩ ⟨some ⟨yb, yo, none⟩, yc, yb, yo⟩
   have hax : Apart z' ⟨some ⟨xb, xo, none⟩, xc, xb, xo⟩ := by rw [← ez]; exact free2_x rx
   have hay : Apart z' ⟨some ⟨yb, yo, none⟩, yc, yb, yo⟩ := by rw [← ez]; exact free2_y ry
   have hre : Apart z ⟨some ⟨xb, xo, none⟩, xc, xb, xo⟩ ∧ Apart z ⟨some ⟨yb, yo, none⟩, yc, yb, yo⟩ ∧ m + n ≤ z.c → z' = z ∧ m + n ≤ z.c := fun h => ⟨by rw [← ez]; exact free2_self h.1 h.2.1, h.2.2⟩
   rw [ez]
   have hu0 : Upd NoF w (w.drewN q) := (Upd.refl NoF w).drewN q
   have HZ := Lib.hid (And.intro hzz (And.intro hax (And.intro hay hre)))
   clear ez hzz hax hay hre rx ry hz
   go_wp2_with fail
   refine (make_pos z' nz' (m + n) _ _ hz' (by omega) (by omega) hm).mono ?_
   rintro e w1 ⟨b, o, c, rfl, hF, hO, hc, hU⟩
   have u1 : Upd NoF w w1 := hu0.trans hU
   have c9 := (hT.upd u1 (fun _ h => h)).cell
   have hF' : From w z' (Loc.mk1 b o c) (m + n) := hF
   have HF := Lib.hid (And.intro hF' (And.intro u1 hO))
   have hc63 := hO.1
   have p1 : (2 : Int) * (n : Int) ≤ (c : Int) := by omega
   have p2 : (n : Int) ≤ (xc : Int) := by have : xs.length ≤ xc := HX.out.1.le; have := HX.out.2.2.1; omega
   clear hF hF' hO hU u1 hu0 hz'
   go_wp2_with fail
   refine (getStack_any w1).mono ?_
   rintro e wS ⟨sb, rfl, hsb, uS, hS⟩
   have HP := Lib.hid (mul_pre0 (T := T) HX.out.1 HX.out.2.1 HZ.out.2.1 HZ.out.2.2.1 HF.out.1 HF.out.2.1 HF.out.2.2 hT uS hsb hS hc)
   have HB := Lib.hid (And.intro (show w.heap.size ≤ sb by have := HF.out.2.1.size; omega) (HF.out.2.1.trans uS.drew))
   clear hT hsb uS hS
   have e1 : IntKind.i64.wrap ((2 : Int) * (n : Int)) = (2 : Int) * (n : Int) := by rw [IntKind.wrap_i64]; omega
   have e2 : (0 : Int) ≤ (2 : Int) * (n : Int) := by omega
   have e3 : ((2 : Int) * (n : Int)).toNat = 2 * n := by omega
   go_wp2_with fail
   go_still_tail 9, (by kernel_rfl)
   go_wp2_with fail
   refine (HI.out.1 (Loc.mk1 b o c) ⟨some ⟨xb, xo, none⟩, xc, xb, xo⟩ ⟨some ⟨yb, yo, none⟩, yc, yb, yo⟩ sb 0 .none (xs.take n) ys _ HP.out.2.2.2.1 (by simp only; omega) (HP.out.2.1.take n) HP.out.2.2.1 (by rw [List.length_take, HX.out.2.2.1]; omega) HX.out.2.2.2 (by omega)
    HP.out.1.ax HP.out.1.ay HP.out.2.2.2.2.1 HP.out.2.2.2.2.2 HP.out.1.oz HP.out.1.ox HP.out.1.oy (by have := HG.out; have := G_mono (a := 2 * n) (b := m + n) (by omega); omega)).mono ?_
   rintro e w2 ⟨rs, J2, rfl, hl, hR, hD, hv, u2, hS2, hJ2⟩
   have HK2 := Lib.hid (And.intro hl (And.intro hR (And.intro hD (And.intro hv (And.intro u2 (And.intro hS2 hJ2))))))
   have hrs : rs ++ List.replicate (m - n) 0 = rs := by rw [show m - n = 0 from by have := HE.out; omega]; exact List.append_nil _
   have M := mid_start HP.out.1 hle (by omega) HP.out.2.1 HP.out.2.2.1 HP.out.2.2.2.1 HP.out.2.2.2.2.1 HP.out.2.2.2.2.2 HK2.out.1 HK2.out.2.1 HK2.out.2.2.1 HK2.out.2.2.2.2.1 HK2.out.2.2.2.2.2.1 HK2.out.2.2.2.2.2.2 (Upd.refl _ w2) (by rw [show m - n = 0 from by have := HE.out; omega]; exact U64.nil _ _ _)
   rw [hrs] at M
   have hvv : val B64 rs = val B64 xs * val B64 ys := by rw [HK2.out.2.2.2.1, List.take_of_length_le (by rw [HX.out.2.2.1, HE.out]; exact Nat.le_refl _)]
   have HM := Lib.hid (And.intro M hvv)
   clear hl hR hD hv u2 hS2 hJ2 hrs M hvv
   have hR := HM.out.1.uz
   have hD := HM.out.1.dz
   go_wp2_with fail
   refine (norm_len b o c (m + n) rs w2 HM.out.1.lz hc hc63 hR hD).mono ?_
   rintro e w7 ⟨rfl, hw7⟩
   cases hw7.symm
   rw [HM.out.2]
   clear hR hD
   go_wp2_with fail
   refine leaves_cons (f := 86) (args := #[.pointer (some ⟨sb, 0, none⟩)]) (by simp) (by simp [go_sem]) ?_
   refine (free_d sb 0 J2 .returning w2 HM.out.1.stk).mono ?_
   rintro e u' w8 ⟨rfl, rfl, hS8, hU8⟩
   refine ⟨_, results_tmp rfl _ _ _, ?_⟩
   exact mid_end0 HP.out.1 HM.out.1 HM.out.2 (by omega) HF.out.1 HZ.out.1 HZ.out.2.2.2 HB.out.2 HB.out.1 hU8
end Go.Proofs.YthkklkjldpcbkaaGreatDoor
namespace Go.Proofs.YthkklkjldpcbkaaGreatDoor
open Go.RowKit
theorem iInt3 : (Tryz.prog.info? 58).map (fun i => i.size) = some 2 := by kernel_rfl
theorem uPInt : Tryz.prog.underlying 54 = some (.pointer 58) := by kernel_rfl
theorem eql_ints {w : World} {b b' : Nat} (ha : Free w b) (hb : Free w b') {r : Bool} (hr : ((⟨b, 0, none⟩ : Addr) == ⟨b', 0, none⟩) = r) :
  (binOp .eql 54 (.pointer (some ⟨b, 0, none⟩)) (.pointer (some ⟨b', 0, none⟩))).run Tryz.prog w = .ok (.bool r) w := by
 obtain ⟨i, hi⟩ : ∃ i, Tryz.prog.info? 58 = some i ∧ i.size = 2 := by
  have h := iInt3
  cases hq : Tryz.prog.info? 58 with
  | none => rw [hq] at h; cases h
  | some i => exact ⟨i, rfl, by rw [hq] at h; simpa using h⟩
 exact run_eql_ptr (a := ⟨b, 0, none⟩) (b := ⟨b', 0, none⟩) uPInt hi.1 (by omega) ha hb hr
theorem sign_mul {X Y : Int} {sx sy : Bool} (hx : decide (X < 0) = sx) (hy : decide (Y < 0) = sy) (h0 : X.natAbs * Y.natAbs ≠ 0) : decide (X * Y < 0) = (sx != sy) := by
 have hX : X ≠ 0 := by intro h; subst h; simp at h0
 have hY : Y ≠ 0 := by intro h; subst h; simp at h0
 subst hx; subst hy
 rcases Int.lt_or_gt_of_ne hX with h1 | h1 <;> rcases Int.lt_or_gt_of_ne hY with h2 | h2
 ·
  have := Int.mul_pos_of_neg_of_neg h1 h2
  simp [h1, h2]; omega
 ·
  have := Int.mul_neg_of_neg_of_pos h1 h2
  have h3 : ¬ Y < 0 := by omega
  simp [h1, h3, this]
 ·
  have := Int.mul_neg_of_pos_of_neg h1 h2
  have h3 : ¬ X < 0 := by omega
  simp [h2, h3, this]
 ·
  have := Int.mul_pos h1 h2
  have h3 : ¬ X < 0 := by omega
  have h4 : ¬ Y < 0 := by omega
  simp [h3, h4]; omega
set_option maxRecDepth 1000000 in
set_option maxHeartbeats 1600000 in
theorem Int_mul_gen (zb xb yb : Nat) (lz lx ly : Loc) (sz : Bool) (nz : Nat) (X Y : Int) (S : Value) (w : World) (hz : IntD w zb lz sz nz) (hx : IntV w xb lx X) (hy : IntV w yb ly Y) (hne : xb ≠ yb) (Q : Loc → World → Prop)
  (HM : ∀ w', Upd NoF w w' → Calls Tryz.prog 70 #[.slice lz.A nz lz.c, S, .slice lx.A (digs X.natAbs).length lx.c, .slice ly.A (digs Y.natAbs).length ly.c] w' fun e w1 => ∃ r : Loc, e = .returned (.slice r.A (digs (X.natAbs * Y.natAbs)).length r.c) ∧ Q r w1)
  (hQ : ∀ r w1, Q r w1 → IntD w1 zb lz sz nz ∧ CellT 58 w1 xb 0 (.bool (decide (X < 0))) ∧ CellT 58 w1 yb 0 (.bool (decide (Y < 0)))) :
  Calls Tryz.prog 57 #[.pointer (some ⟨zb, 0, none⟩), S, .pointer (some ⟨xb, 0, none⟩), .pointer (some ⟨yb, 0, none⟩)] w fun e w' => e = .returned (.tuple #[]) ∧
   ∃ (r : Loc) (w1 : World) (k : Nat), Q r w1 ∧ w' = ((w1.setCell ⟨zb, 1, none⟩ (.slice r.A (digs (X.natAbs * Y.natAbs)).length r.c)).setCell ⟨zb, 0, none⟩ (.bool (decide (X * Y < 0)))).drewN k := by
 have c1 := hz.neg.cell
 have c2 := hz.neg.frozen
 have c3 := hz.abs.cell
 have c4 := hz.abs.frozen
 have c6 := hx.abs.cell
 have c8 := hy.abs.cell
 have heq := eql_ints hx.neg.free hy.neg.free (r := false) (by rw [addr_beq]; exact decide_eq_false (fun h => hne h.1))
 obtain ⟨sx, hsx⟩ : ∃ s, decide (X < 0) = s := ⟨_, rfl⟩
 obtain ⟨sy, hsy⟩ : ∃ s, decide (Y < 0) = s := ⟨_, rfl⟩
 rw [hsx, hsy] at hQ
 have HSX := Lib.hid (And.intro hsx hsy)
 have HH := Lib.hid (And.intro HM hQ)
 clear hsx hsy HM hQ hx hy
 go_enter Tryz.func57, Tryz.ntmps57
 go_wp2_with fail
 refine wp_region_pre_tail 1 14 (by kernel_rfl) (by kernel_rfl) ?_
 simp only [List.take_succ_cons, List.take_zero, List.drop_succ_cons, List.drop_zero]
 repeat (refine wpPure_step ?_ (fun _ _ _ h => h) (by rfl) (by intro _; go_simp; with_reducible rfl) ?_; (try simp only [Act.put, List.setIfInBounds_toArray, List.set_cons_zero, List.set_cons_succ]))
 refine wpPure_nil ?_
 repeat still_step
 refine wpStill_nil ?_
 go_wp2_with fail
 refine (HH.out.1 _ ((Upd.refl NoF w).drew)).mono ?_
 rintro e w1 ⟨r, rfl, hq⟩
 obtain ⟨g1, g2, g3⟩ := HH.out.2 r w1 hq
 have d1 := g1.abs.cell
 have d2 := g1.abs.frozen
 have HQ := Lib.hid hq
 clear heq c1 c2 c3 c4 c6 c8 hq
 go_wp2_with fail
 have k1 := (g1.abs.set (.slice r.A (digs (X.natAbs * Y.natAbs)).length r.c))
 have k2 := (g1.neg.far (b' := zb) (i' := 1) (.slice r.A (digs (X.natAbs * Y.natAbs)).length r.c) (by omega))
 have k3 := (g2.far (b' := zb) (i' := 1) (.slice r.A (digs (X.natAbs * Y.natAbs)).length r.c) (by omega))
 have k4 := (g3.far (b' := zb) (i' := 1) (.slice r.A (digs (X.natAbs * Y.natAbs)).length r.c) (by omega))
 obtain ⟨w2, hw2⟩ : ∃ w2, w1.setCell ⟨zb, 1, none⟩ (.slice r.A (digs (X.natAbs * Y.natAbs)).length r.c) = w2 := ⟨_, rfl⟩
 rw [hw2] at k1 k2 k3 k4 ⊢
 have d3 := k1.cell
 have d4 := k2.cell
 have d5 := k2.frozen
 have d6 := k3.cell
 have d7 := k4.cell
 have HW := Lib.hid hw2
 clear hw2 k1 k2 k3 k4 d1 d2 g1 g2 g3
 by_cases h0 : X.natAbs * Y.natAbs = 0
 ·
  have q0 : decide (0 < (digs (X.natAbs * Y.natAbs)).length) = false := decide_eq_false (by rw [digs_len_eq_zero.2 h0]; omega)
  have e1 : decide (X * Y < 0) = false := decide_eq_false (by rw [← Int.natAbs_mul] at h0; omega)
  have HE := Lib.hid e1
  clear e1 h0
  go_region
  all_goals
   go_wp2
   go_end0
   refine ⟨rfl, r, w1, 1, HQ.out, ?_⟩
   rw [HE.out, HW.out]; rfl
 ·
  have q0 : decide (0 < (digs (X.natAbs * Y.natAbs)).length) = true := decide_eq_true (by have := mt digs_len_eq_zero.1 h0; omega)
  have e1 := sign_mul HSX.out.1 HSX.out.2 h0
  have HE := Lib.hid e1
  clear e1 h0
  go_region
  all_goals
   go_wp2
   go_end0
   refine ⟨rfl, r, w1, 1, HQ.out, ?_⟩
   rw [HE.out, HW.out]; rfl
end Go.Proofs.YthkklkjldpcbkaaGreatDoor
namespace Go.Proofs.YthkklkjldpcbkaaGreatDoor
open Go.RowKit
structure MulOut (w : World) (z : Loc) (reuse : Prop) (need N sb ns : Nat) (J : SI) (r : Loc) (rs : List Nat) (J' : SI) (w' : World) : Prop where
 at_ : r = z ∨ w.heap.size ≤ r.b
 re : reuse → r = z
 ln : rs.length ≤ need
 lc : rs.length ≤ r.c
 u : U64 w' r.b r.o rs
 d : Digs B64 rs
 v : val B64 rs = N
 ok : r.Ok w'
 stk : StkV w' sb ns J'
 le : SI.Le w sb J J'
 off : Off J' sb ns r
theorem blk_upd (w : World) (zb k : Nat) (u v : Value) : Upd (Blk zb) w (((w.setCell ⟨zb, 1, none⟩ u).setCell ⟨zb, 0, none⟩ v).drewN k) :=
 (((Upd.refl (Blk zb) w).setCell (fun _ => rfl) _).setCell (fun _ => rfl) _).drewN k
theorem Int_mul_stk (T : Int) (zb xb yb : Nat) (lz lx ly : Loc) (sz : Bool) (nz : Nat) (X Y : Int) (sb ns : Nat) (J : SI) (w : World) (hM : MulSpec T (digs X.natAbs).length (digs Y.natAbs).length) (hz : IntD w zb lz sz nz) (hx : IntV w xb lx X) (hy : IntV w yb ly Y) (hne : xb ≠ yb)
  (rx : Rel lz lx) (ry : Rel lz ly) (hT : Thr w T) (hS : StkV w sb ns J) (oz : Off J sb ns lz) (ox : Off J sb ns lx) (oy : Off J sb ns ly) (hG : ns + G ((digs X.natAbs).length + (digs Y.natAbs).length) ≤ 1099511627776) :
  Calls Tryz.prog 57 #[.pointer (some ⟨zb, 0, none⟩), .pointer (some ⟨sb, 0, none⟩), .pointer (some ⟨xb, 0, none⟩), .pointer (some ⟨yb, 0, none⟩)] w fun e w' => e = .returned (.tuple #[]) ∧
   ∃ (r : Loc) (rs : List Nat) (J' : SI), MulOut w lz (Apart lz lx ∧ Apart lz ly ∧ (digs X.natAbs).length + (digs Y.natAbs).length ≤ lz.c) ((digs X.natAbs).length + (digs Y.natAbs).length) (X.natAbs * Y.natAbs) sb ns J r rs J' w' ∧
    IntV w' zb r (X * Y) ∧ Upd (Or2 (Blk zb) (Or2 (ZF lz rs.length) (J.K sb ns))) w w' := by
 have hno : ∀ (k : Nat) {b i : Nat} {v : Value}, CellT 58 w b i v → ∀ j, ¬ Or2 (ZF lz k) (J.K sb ns) b j := fun k b i v hc j h => by
  rcases h with h | h
  · exact ZF.no hz.ok hc (by decide) k j h
  · exact hS.no hc (by decide) (by decide) (by decide) j h
 refine (Int_mul_gen zb xb yb lz lx ly sz nz X Y _ w hz hx hy hne
  (fun r w1 => ∃ rs J', MulOut w lz (Apart lz lx ∧ Apart lz ly ∧ (digs X.natAbs).length + (digs Y.natAbs).length ≤ lz.c) ((digs X.natAbs).length + (digs Y.natAbs).length) (X.natAbs * Y.natAbs) sb ns J r rs J' w1 ∧ Upd (Or2 (ZF lz rs.length) (J.K sb ns)) w w1)
  (fun w' u => ?_) (fun r w1 ⟨rs, J', _, hu⟩ => ?_)).mono ?_
 ·
  have hs := u.size
  refine (hM lz lx ly nz sb ns J _ _ w' (hz.ok.upd u) (hx.nat.upd0 u) (hy.nat.upd0 u) rfl rfl rx ry (hT.upd u (fun _ h => h)) (hS.upd0 u) oz ox oy hG).mono ?_
  rintro e w1 ⟨r, rs, J', rfl, h1, h2, h3, h4, h5, h6, h7, h8, h9, h10, h11, h12⟩
  rw [val_digs, val_digs] at h7 ⊢
  exact ⟨r, rfl, rs, J', ⟨h1.imp id (fun h => by omega), h2, h3, h4, h5, h6, h7, h8, h10, fun n b i hb h => h11 n b i (by omega) h, h12⟩, u.then h9 (fun _ _ _ h => h.elim) (fun _ _ _ h => h)⟩
 · exact ⟨⟨hz.neg.upd hu (hno _ hz.neg _), hz.abs.upd hu (hno _ hz.abs _), hz.ok.upd hu⟩, hx.neg.upd hu (hno _ hx.neg _), hy.neg.upd hu (hno _ hy.neg _)⟩
 ·
  rintro e w' ⟨rfl, r, w1, k, ⟨rs, J', hO, hu⟩, rfl⟩
  have hu2 := blk_upd w1 zb k (.slice r.A (digs (X.natAbs * Y.natAbs)).length r.c) (.bool (decide (X * Y < 0)))
  have hzn := hz.neg.upd hu (hno _ hz.neg _)
  have hza := hz.abs.upd hu (hno _ hz.abs _)
  have hnb : ∀ i, i < rs.length → ¬ Blk zb r.b (r.o + i) := fun i hi h => hzn.neW (hO.u i hi) (by decide) h.symm
  refine ⟨rfl, r, rs, J', ⟨hO.at_, hO.re, hO.ln, hO.lc, hO.u.upd hu2 hnb, hO.d, hO.v, hO.ok.upd hu2, hO.stk.upd hu2 (fun b i h => h ▸ hO.stk.no hzn (by decide) (by decide) (by decide) i), hO.le, hO.off⟩, ⟨?_, ?_, ?_⟩,
   (hu.mono (fun _ _ _ h => Or.inr h)).trans (hu2.mono (fun _ _ _ h => Or.inl h))⟩
  · exact (hzn.far _ (by omega)).set _
  ·
   rw [Int.natAbs_mul]
   exact (hza.set _).far _ (by omega)
  ·
   rw [Int.natAbs_mul]
   have hv : VecV w1 r rs := ⟨hO.ok, hO.lc, hO.u, hO.d⟩
   have hn := hv.norm
   rw [hO.v] at hn
   refine hn.upd hu2 (fun i hi => hnb i ?_)
   have := digs_len_le hO.d
   rw [hO.v] at this
   omega
end Go.Proofs.YthkklkjldpcbkaaGreatDoor
