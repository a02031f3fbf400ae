/- For the claim of laws.The program's symbol is Jacobi's (FnJacobi).: Mul, StkD, MulM, MulK, MulK0, IntMul, IntMulK. -/
import Derived.Test.YtefeijofhocnpaaGreatDoorKlA5
import Derived.Deep.DeepCutAuto
import Derived.Defers
import Derived.StillTailTactics
import Derived.BigRegion
set_option linter.unusedVariables false
set_option linter.unusedSimpArgs false
namespace Go.Proofs.YtefeijofhocnpaaGreatDoor
open Go.RowKit
def Apart (z x : Loc) : Prop := z.c = 0 ∨ x.c = 0 ∨ x.b ≠ z.b ∨ x.o + x.c ≤ z.o ∨ z.o + z.c ≤ x.o
def Rel (z x : Loc) : Prop := z = x ∨ Apart z x
theorem Apart.alias {z x : Loc} (h : Apart z x) : aliasB z x = false := by
  unfold aliasB
  rw [decide_eq_false_iff_not]
  rintro ⟨h1, h2, h3, h4⟩
  unfold Apart at h
  omega
theorem Rel.up {z x : Loc} {n : Nat} (h : Rel z x) (hn : n ≤ x.c) (h0 : 0 < z.c) : UpOk z.b z.o x.b x.o n := by
  rcases h with rfl | h
  · exact UpOk.self _ _ _
  · unfold Apart at h
    unfold UpOk
    omega
theorem Apart.zf {l m : Loc} {k i : Nat} (h : Apart l m) (hi : i < m.c) : ¬ ZF l k m.b (m.o + i) := by
  rintro ⟨h1, h2, h3, h4⟩
  unfold Apart at h; omega
def Thr (w : World) (T : Int) : Prop := CellT 3 w 2 0 (.int .i64 T)
set_option maxRecDepth 1000000 in
set_option maxHeartbeats 1600000 in
theorem mul_one (z x y : Loc) (S : Value) (nz m : Nat) (xs ys : List Nat) (w : World) (hz : z.Ok w) (hx : VecV w x xs) (hy : VecV w y ys) (lx : xs.length = m) (ly : ys.length = 1) (hm0 : 0 < m) (hm : m + 1 ≤ 1099511627776) (rx : Rel z x) :
    Calls Tryz.prog 92 #[.slice z.A nz z.c, S, .slice x.A m x.c, .slice y.A 1 y.c] w fun e w' => MulRes w z (m + 1 ≤ z.c) (m + 1) (val B64 xs * val B64 ys) NoF e w' := by
  obtain ⟨y0, rfl⟩ : ∃ y0, ys = [y0] := by
    match ys, ly with
    | [y0], _ => exact ⟨y0, rfl⟩
  have e1 := hy.addr (by simp)
  have hy0 := (hy.at_ 0 (by simp)).cell
  simp only [Nat.add_zero, List.getElem_cons_zero] at hy0
  have hyB := hy.dig.head
  have HW := Lib.hid (mulW_any z x nz m y0 xs w hz hx lx hm0 hm hyB (fun h => rx.up (by rw [← lx]; exact hx.le) (by omega)))
  have hv : val B64 [y0] = y0 := by simp
  rw [hv]
  obtain ⟨yA, yc, yb, yo⟩ := y
  simp only at e1 hy0
  subst e1
  have q2 : decide (m < 1) = false := decide_eq_false (by omega)
  have q4 : ((m : Int) == 0) = false := beq_eq_false_iff_ne.2 (by omega)
  have q5 : ((1 : Int) == 0) = false := rfl
  have q6 : ((1 : Int) == 1) = true := rfl
  clear hx hy rx lx hv ly hyB
  go_enter Tryz.func92, Tryz.ntmps92
  go_wp2_with fail
  refine HW.out.mono ?_
  clear HW
  rintro e w1 ⟨r, rs, rfl, h⟩
  go_wp2
  go_ret
  exact ⟨r, rs, rfl, h⟩
theorem MulRes.made {w w1 w2 : World} {z z' : Loc} {b o c n N : Nat} {rs : List Nat} {reuse : Prop} (hF : From w z' (Loc.mk1 b o c) n) (hz' : z' = z ∨ z'.c = 0) (hre : reuse → z' = z ∧ n ≤ z.c) (h0 : 0 < n) (u1 : Upd NoF w w1) (u2 : Upd (Rg b o (o + n)) w1 w2)
    (hO : (Loc.mk1 b o c).Ok w1) (hc : n ≤ c) (hl : rs.length = n) (hR : U64 w2 b o rs) (hD : Digs B64 rs) (hv : val B64 rs = N) {F : Nat → Nat → Prop} :
    MulRes w z reuse n N F (.returned (.slice (some ⟨b, o, none⟩) (digs N).length c)) w2 := by
  have hr : Loc.mk1 b o c = z ∧ n ≤ z.c ∨ w.heap.size ≤ b := by
    rcases hF with ⟨h1, h2⟩ | ⟨_, h, _⟩
    · rcases hz' with h | h
      · rw [h] at h1 h2; exact Or.inl ⟨h2, h1⟩
      · omega
    · exact Or.inr h
  refine ⟨Loc.mk1 b o c, rs, rfl, ?_, ?_, by omega, by simp only; omega, hR, hD, hv, hO.upd u2, ?_⟩
  · rcases hr with ⟨h, _⟩ | h
    · exact Or.inl h
    · exact Or.inr h
  · intro h
    obtain ⟨h1, h2⟩ := hre h
    rcases hF with ⟨_, h'⟩ | ⟨h', _, _⟩
    · rw [h', h1]
    · rw [h1] at h'; omega
  · refine u1.then u2 (fun _ _ _ h => h.elim) ?_
    rintro b' i hb ⟨rfl, g1, g2⟩
    rcases hr with ⟨h, h'⟩ | h
    · subst h; exact Or.inl ⟨rfl, g1, by simp only; omega, by simp only; omega⟩
    · omega
theorem Rel.alias {z x : Loc} (h : Rel z x) (h0 : aliasB z x = false) : Apart z x := by
  rcases h with rfl | h
  · have : z.c = 0 := by unfold aliasB at h0; rw [decide_eq_false_iff_not] at h0; omega
    exact Or.inl this
  · exact h
theorem From.apart {w : World} {z' x : Loc} {b o c need n : Nat} (hF : From w z' (Loc.mk1 b o c) need) (ha : need ≤ z'.c → Apart z' x) (hn : n ≤ x.c) (h0 : 0 < n) (hlt : x.b < w.heap.size) (hp : 0 < need) :
    x.b ≠ b ∨ x.o + n ≤ o ∨ o + need ≤ x.o := by
  rcases hF with ⟨h1, h2⟩ | ⟨_, h, _⟩
  · have := ha h1
    subst h2
    unfold Apart at this
    simp only at *
    omega
  · simp only at h; omega
end Go.Proofs.YtefeijofhocnpaaGreatDoor
namespace Go.Proofs.YtefeijofhocnpaaGreatDoor
open Go.RowKit
theorem restore_d (sb n k : Nat) (J : SI) (u : FrameMode) (w : World) (h : StkV w sb n J) (hk : k ≤ n) :
    CallsD Tryz.prog 118 #[.pointer (some ⟨sb, 0, none⟩), .int .i64 (k : Int)] u w fun e u' w' => u' = u ∧ (e = .returned (.tuple #[]) ∧ StkV w' sb k J ∧ Upd (J.K sb n) w w') := by
  cases J with
  | none =>
    obtain ⟨rfl, h1⟩ := h
    have hk0 : k = 0 := by omega
    subst hk0
    have c0 := h1.cell
    go_enter_d Tryz.func118, Tryz.ntmps118
    go_wp2
    refine bodyPost_ret (results_none rfl _ _ _) rfl ?_
    exact ⟨rfl, ⟨rfl, h1⟩, Upd.refl _ _⟩
  | some ib l =>
    have c0 := h.2.1.cell
    go_enter_d Tryz.func118, Tryz.ntmps118
    go_wp2_with (go_at_call 147; refine (si_restore_any ib n k l w h.2.2.1 hk h.2.2.2.1).mono ?_; rintro e w' ⟨rfl, rfl⟩)
    go_end0
    exact ⟨rfl, h.cut hk, (Upd.refl _ w).setCell (fun _ => Or.inr (Or.inl rfl)) _⟩
theorem free_d (sb n : Nat) (J : SI) (u : FrameMode) (w : World) (h : StkV w sb n J) :
    CallsD Tryz.prog 105 #[.pointer (some ⟨sb, 0, none⟩)] u w fun e u' w' => u' = u ∧ (e = .returned (.tuple #[]) ∧ StkV w' sb 0 J ∧ Upd (J.K sb n) w w') := by
  cases J with
  | none =>
    obtain ⟨rfl, h1⟩ := h
    have c0 := h1.cell
    go_enter_d Tryz.func105, Tryz.ntmps105
    go_wp2
    go_end0
    exact ⟨rfl, ⟨rfl, h1⟩, Upd.refl _ _⟩
  | some ib l =>
    have c0 := h.2.1.cell
    go_enter_d Tryz.func105, Tryz.ntmps105
    go_wp2_with (go_at_call 133; refine (si_free_any ib n l w h.2.2.1).mono ?_; rintro e w' ⟨rfl, rfl⟩)
    go_end0
    exact ⟨rfl, h.cut (Nat.zero_le _), (Upd.refl _ w).setCell (fun _ => Or.inr (Or.inl rfl)) _⟩
def Off (J : SI) (sb n : Nat) (l : Loc) : Prop := ∀ i, i < l.c → ¬ J.K sb n l.b (l.o + i)
theorem StkV.lt {w : World} {sb n : Nat} {J : SI} {b i : Nat} (h : StkV w sb n J) (k : J.K sb n b i) : b < w.heap.size := by
  cases J with
  | none => exact k ▸ h.2.lt
  | some ib l =>
    rcases k with k | k | ⟨k, _, hc⟩
    · exact k ▸ h.2.1.lt
    · exact k ▸ h.2.2.1.lt
    · have := ((h.2.2.2.2.2.1.2 hc).2.free hc).lt
      exact k ▸ this
theorem StkV.no {w : World} {sb n : Nat} {J : SI} (h : StkV w sb n J) {T : TypeId} {b i : Nat} {v : Value} (c : CellT T w b i v) (h1 : T ≠ 146) (h2 : T ≠ 158) (h3 : T ∈ special) (j : Nat) : ¬ J.K sb n b j := by
  intro k
  cases J with
  | none =>
    have : b = sb := k
    subst this
    exact (c.ne h.2 h1) rfl
  | some ib l =>
    rcases k with k | k | ⟨k, _, hc⟩
    · subst k; exact (c.ne h.2.1 h1) rfl
    · subst k; exact (c.ne h.2.2.1 h2) rfl
    · obtain ⟨u, hu⟩ := (h.2.2.2.2.2.1.2 hc).2 0 hc
      subst k; exact (c.neW hu h3) rfl
theorem Off.new {w : World} {sb n : Nat} {J : SI} (h : StkV w sb n J) {l : Loc} (hb : w.heap.size ≤ l.b) : Off J sb n l := fun _ _ k => by have := h.lt k; omega
theorem Off.le {w : World} {sb n : Nat} {J J' : SI} {l : Loc} (h : Off J sb n l) (hl : l.Ok w) (hJ : SI.Le w sb J J') : Off J' sb n l := fun i hi k =>
  h i hi (hJ _ _ _ ((hl.free (by omega)).lt) k)
theorem Off.up {J : SI} {sb n m : Nat} {l : Loc} (h : Off J sb n l) (hnm : n ≤ m) : Off J sb m l := fun i hi k => h i hi (k.mono hnm)
theorem Off.cut {J : SI} {sb n : Nat} {l : Loc} (h : Off J sb n l) (A : Option Addr) (k : Nat) : Off J sb n ⟨A, l.c - k, l.b, l.o + k⟩ := fun i hi hk => by
  simp only at hi hk
  exact h (k + i) (by omega) (by rw [← Nat.add_assoc]; exact hk)
def G (k : Nat) : Nat := (k + 4) * (k + 4)
theorem G_mono {a b : Nat} (h : a ≤ b) : G a ≤ G b := Nat.mul_le_mul (by omega) (by omega)
theorem G_le (k : Nat) : k + 4 ≤ G k := by unfold G; exact Nat.le_mul_of_pos_left _ (by omega)
def MulPost (w : World) (z : Loc) (reuse : Prop) (need N sb ns : Nat) (J : SI) (e : Ending) (w' : World) : Prop :=
  ∃ (r : Loc) (rs : List Nat) (J' : SI), e = .returned (.slice r.A (digs N).length r.c) ∧ (r = z ∨ w.heap.size ≤ r.b) ∧ (reuse → r = z) ∧ rs.length ≤ need ∧ rs.length ≤ r.c ∧ U64 w' r.b r.o rs ∧ Digs B64 rs ∧ val B64 rs = N ∧ r.Ok w' ∧
    Upd (Or2 (ZF z rs.length) (J.K sb ns)) w w' ∧ StkV w' sb ns J' ∧ SI.Le w sb J J' ∧ Off J' sb ns r
theorem Off.zf {J : SI} {sb n k : Nat} {l : Loc} (h : Off J sb n l) : ∀ b i, ZF l k b i → ¬ J.K sb n b i := by
  rintro b i ⟨rfl, h1, h2, h3⟩ hk
  obtain ⟨j, rfl⟩ : ∃ j, i = l.o + j := ⟨i - l.o, by omega⟩
  exact h j (by omega) hk
theorem MulRes.stk {w w' : World} {z : Loc} {reuse : Prop} {need N sb ns : Nat} {J : SI} {e : Ending} (h : MulRes w z reuse need N NoF e w') (hs : StkV w sb ns J) (ho : Off J sb ns z) : MulPost w z reuse need N sb ns J e w' := by
  obtain ⟨r, rs, h1, h2, h3, h4, h5, h6, h7, h8, h9, h10⟩ := h
  have u : Upd (ZF z rs.length) w w' := h10.mono (fun _ _ _ h => h.elim id (fun h => h.elim))
  refine ⟨r, rs, J, h1, h2, h3, h4, h5, h6, h7, h8, h9, h10.mono (fun _ _ _ h => h.imp id (fun h => h.elim)), hs.upd u ho.zf, SI.Le.refl _ _ _, ?_⟩
  rcases h2 with rfl | h2
  · exact ho
  · exact Off.new hs h2
def MulSpec (T : Int) (m n : Nat) : Prop := ∀ (z x y : Loc) (nz sb ns : Nat) (J : SI) (xs ys : List Nat) (w : World), z.Ok w → VecV w x xs → VecV w y ys → xs.length = m → ys.length = n → Rel z x → Rel z y → Thr w T →
  StkV w sb ns J → Off J sb ns z → Off J sb ns x → Off J sb ns y → ns + G (m + n) ≤ 1099511627776 →
  Calls Tryz.prog 92 #[.slice z.A nz z.c, .pointer (some ⟨sb, 0, none⟩), .slice x.A m x.c, .slice y.A n y.c] w (MulPost w z (Apart z x ∧ Apart z y ∧ m + n ≤ z.c) (m + n) (val B64 xs * val B64 ys) sb ns J)
end Go.Proofs.YtefeijofhocnpaaGreatDoor
namespace Go.Proofs.YtefeijofhocnpaaGreatDoor
open Go.RowKit
theorem Upd.weak {F G : Nat → Nat → Prop} {w w' : World} (h : Upd F w w') (k : ∀ b i, F b i → G b i) : Upd G w w' := h.mono (fun b i _ => k b i)
theorem Loc.Ok.lt {w : World} {l : Loc} (h : l.Ok w) (h0 : 0 < l.c) : l.b < w.heap.size := (h.free h0).lt
theorem Apart.symm {x y : Loc} (h : Apart x y) : Apart y x := by unfold Apart at *; omega
theorem Apart.cut {z x : Loc} (h : Apart z x) (A : Option Addr) {k : Nat} (hk : k ≤ x.c) : Apart z ⟨A, x.c - k, x.b, x.o + k⟩ := by unfold Apart at *; simp only; omega
theorem VecV.take {w : World} {l : Loc} {xs : List Nat} (h : VecV w l xs) (k : Nat) : VecV w l (xs.take k) :=
  ⟨h.ok, by rw [List.length_take]; exact Nat.le_trans (Nat.min_le_right _ _) h.le, h.at_.take k, h.dig.take k⟩
theorem Loc.Ok.cut {w : World} {l : Loc} (h : l.Ok w) {k : Nat} (hk : k < l.c) : Loc.Ok w ⟨some ⟨l.b, l.o + k, none⟩, l.c - k, l.b, l.o + k⟩ :=
  ⟨by simp only; have := h.1; omega, fun _ => ⟨rfl, h.live.sub k _ (by simp only; omega)⟩⟩
theorem VecV.cut {w : World} {l : Loc} {xs : List Nat} (h : VecV w l xs) {k : Nat} (hk : k < l.c) : VecV w ⟨some ⟨l.b, l.o + k, none⟩, l.c - k, l.b, l.o + k⟩ (xs.drop k) :=
  ⟨h.ok.cut hk, by rw [List.length_drop]; have := h.le; simp only; omega, h.at_.drop k, h.dig.drop k⟩
def Wr (w1 : World) (z1 : Loc) (k sb ns : Nat) (J : SI) : Nat → Nat → Prop := fun b i => (b = z1.b ∧ z1.o ≤ i ∧ i < z1.o + k) ∨ J.K sb ns b i ∨ w1.heap.size ≤ b
theorem Wr.vec {w1 w w' : World} {z1 x : Loc} {k sb ns : Nat} {J : SI} {xs : List Nat} {F : Nat → Nat → Prop} (h : VecV w x xs) (u : Upd F w w') (hF : ∀ b i, F b i → Wr w1 z1 k sb ns J b i) (ox : Off J sb ns x) (hb : 0 < x.c → x.b < w1.heap.size) (ha : Apart z1 x)
    (hk : k ≤ z1.c) : VecV w' x xs := h.upd u (fun i hi hf => by
  have hle := h.le
  rcases hF _ _ hf with ⟨e, h1, h2⟩ | h1 | h1
  · unfold Apart at ha; omega
  · exact ox i (by omega) h1
  · have := hb (by omega); omega)
structure MidS (w1 : World) (x y z1 : Loc) (m n sb ns : Nat) (J : SI) : Prop where
  hk : m + n ≤ z1.c
  ax : Apart z1 x
  ay : Apart z1 y
  ox : Off J sb ns x
  oy : Off J sb ns y
  oz : Off J sb ns z1
  bx : 0 < x.c → x.b < w1.heap.size
  b_y : 0 < y.c → y.b < w1.heap.size
  bz : 0 < z1.c → z1.b < w1.heap.size
structure Mid (T : Int) (w1 w : World) (x y z1 : Loc) (xs ys zs : List Nat) (m n sb ns n' : Nat) (J J' : SI) : Prop where
  vx : VecV w x xs
  vy : VecV w y ys
  ok : z1.Ok w
  uz : U64 w z1.b z1.o zs
  lz : zs.length = m + n
  dz : Digs B64 zs
  thr : Thr w T
  stk : StkV w sb n' J'
  upd : Upd (Or2 (Rg z1.b z1.o (z1.o + (m + n))) (J.K sb ns)) w1 w
  le : SI.Le w1 sb J J'
  nn : ns ≤ n'
theorem Off.old {w1 : World} {sb ns n' : Nat} {J J' : SI} {l : Loc} (h : Off J sb ns l) (hb : 0 < l.c → l.b < w1.heap.size) (hJ : SI.Le w1 sb J J') (hn : ns ≤ n') : Off J' sb n' l := fun i hi k =>
  h i hi (hJ _ _ _ (hb (by omega)) (k.mono hn))
theorem Mid.step {T : Int} {w1 w w' : World} {x y z1 : Loc} {xs ys zs : List Nat} {m n sb ns n' n'' : Nat} {J J' J'' : SI} {F : Nat → Nat → Prop} (S : MidS w1 x y z1 m n sb ns J) (M : Mid T w1 w x y z1 xs ys zs m n sb ns n' J J')
    (u : Upd F w w') (hF : ∀ b i, F b i → J.K sb ns b i ∨ w1.heap.size ≤ b) (hT : Thr w' T) (hS : StkV w' sb n'' J'') (hJ : SI.Le w1 sb J J'') (hn : ns ≤ n'') : Mid T w1 w' x y z1 xs ys zs m n sb ns n'' J J'' where
  vx := Wr.vec (w1 := w1) (z1 := z1) (k := m + n) M.vx u (fun b i h => Or.inr (hF b i h)) S.ox S.bx S.ax S.hk
  vy := Wr.vec (w1 := w1) (z1 := z1) (k := m + n) M.vy u (fun b i h => Or.inr (hF b i h)) S.oy S.b_y S.ay S.hk
  ok := M.ok.upd u
  uz := M.uz.upd u (fun i hi hf => by
    have := M.lz
    have := S.hk
    rcases hF _ _ hf with h | h
    · exact S.oz i (by omega) h
    · have := S.bz (by omega); omega)
  lz := M.lz
  dz := M.dz
  thr := hT
  stk := hS
  upd := M.upd.then u (fun _ _ _ h => h) (fun b i hb h => by
    rcases hF _ _ h with h | h
    · exact Or.inr h
    · omega)
  le := hJ
  nn := hn
theorem Mid.put {T : Int} {w1 w w' : World} {x y z1 : Loc} {xs ys zs rs : List Nat} {m n sb ns n' k : Nat} {J J' : SI} (S : MidS w1 x y z1 m n sb ns J) (M : Mid T w1 w x y z1 xs ys zs m n sb ns n' J J')
    (hk : k ≤ m + n) (u : Upd (Rg z1.b (z1.o + k) (z1.o + (m + n))) w w') (hR : U64 w' z1.b (z1.o + k) rs) (hl : rs.length = m + n - k) (hD : Digs B64 rs) (hT : Thr w' T) : Mid T w1 w' x y z1 xs ys (zs.take k ++ rs) m n sb ns n' J J' where
  vx := Wr.vec (w1 := w1) (z1 := z1) (k := m + n) M.vx u (fun b i ⟨h1, h2, h3⟩ => Or.inl ⟨h1, by omega, h3⟩) S.ox S.bx S.ax S.hk
  vy := Wr.vec (w1 := w1) (z1 := z1) (k := m + n) M.vy u (fun b i ⟨h1, h2, h3⟩ => Or.inl ⟨h1, by omega, h3⟩) S.oy S.b_y S.ay S.hk
  ok := M.ok.upd u
  uz := by
    have hlt : (zs.take k).length = k := by rw [List.length_take, M.lz]; omega
    refine U64.append ((M.uz.take k).updR u (by rw [hlt]; omega)) ?_
    rw [hlt]; exact hR
  lz := by rw [List.length_append, List.length_take, M.lz, hl]; omega
  dz := (M.dz.take k).append hD
  thr := hT
  stk := M.stk.upd u (fun b i ⟨h1, h2, h3⟩ hk => by
    subst h1
    have h4 := S.hk
    obtain ⟨j, rfl⟩ : ∃ j, i = z1.o + j := ⟨i - z1.o, by omega⟩
    exact (S.oz.old S.bz M.le M.nn) j (by omega) hk)
  upd := M.upd.then u (fun _ _ _ h => h) (fun b i _ ⟨h1, h2, h3⟩ => Or.inl ⟨h1, by omega, h3⟩)
  le := M.le
  nn := M.nn
theorem Thr.upd {w w' : World} {T : Int} {F : Nat → Nat → Prop} (h : Thr w T) (u : Upd F w w') (hF : ∀ i, ¬ F 2 i) : Thr w' T := CellT.upd h u (hF 0)
theorem Thr.rg {w w' : World} {T : Int} {z1 : Loc} {lo hi : Nat} (h : Thr w T) (ok : z1.Ok w) (h0 : 0 < z1.c) (u : Upd (Rg z1.b lo hi) w w') : Thr w' T := h.upd u (fun i ⟨e, _⟩ => by
  obtain ⟨v, hv⟩ := ok.live 0 h0
  exact h.neW hv (by decide) e)
theorem Thr.K {w w' : World} {T : Int} {sb n : Nat} {J : SI} (h : Thr w T) (hs : StkV w sb n J) (u : Upd (J.K sb n) w w') : Thr w' T := h.upd u (fun i => hs.no h (by decide) (by decide) (by decide) i)
theorem ZF.noThr {w : World} {T : Int} {l : Loc} (hl : l.Ok w) (h : Thr w T) (need i : Nat) : ¬ ZF l need 2 i := ZF.no hl h (by decide) need i
def TJ (w1 : World) (t : Loc) (sb ns : Nat) (J : SI) : Prop := ∀ i, i < t.c → J.K sb ns t.b (t.o + i) ∨ w1.heap.size ≤ t.b
theorem TJ.apart {w1 : World} {t x : Loc} {sb ns : Nat} {J : SI} (h : TJ w1 t sb ns J) (ox : Off J sb ns x) (bx : 0 < x.c → x.b < w1.heap.size) : Apart t x := by
  unfold Apart
  rcases Nat.lt_or_ge 0 t.c with ht | ht
  · rcases Nat.lt_or_ge 0 x.c with hx | hx
    · by_cases hb : x.b = t.b
      · by_cases h1 : x.o + x.c ≤ t.o
        · omega
        · by_cases h2 : t.o + t.c ≤ x.o
          · omega
          · exfalso
            have := bx hx
            rcases Nat.lt_or_ge t.o x.o with h3 | h3
            · have k := h (x.o - t.o) (by omega)
              have k2 := ox 0 hx
              rw [show t.o + (x.o - t.o) = x.o from by omega] at k
              rw [Nat.add_zero, hb] at k2
              rcases k with k | k
              · exact k2 k
              · omega
            · have k := h 0 ht
              have k2 := ox (t.o - x.o) (by omega)
              rw [show x.o + (t.o - x.o) = t.o from by omega, hb] at k2
              rw [Nat.add_zero] at k
              rcases k with k | k
              · exact k2 k
              · omega
      · omega
    · omega
  · omega
theorem TJ.zf {w1 : World} {t : Loc} {sb ns k : Nat} {J : SI} (h : TJ w1 t sb ns J) : ∀ b i, ZF t k b i → J.K sb ns b i ∨ w1.heap.size ≤ b := by
  rintro b i ⟨rfl, h1, h2, h3⟩
  have := h (i - t.o) (by omega)
  rwa [show t.o + (i - t.o) = i from by omega] at this
structure LoopI (T : Int) (w1 w : World) (x y z1 t : Loc) (xs ys zs : List Nat) (m n k sb ns n' : Nat) (J J' : SI) : Prop where
  mid : Mid T w1 w x y z1 xs ys zs m n sb ns n' J J'
  tok : t.Ok w
  toff : Off J' sb n' t
  v : val B64 zs = val B64 (xs.take (min k m)) * val B64 ys
theorem mul_sum {m n k p p' : Nat} {xs ys zs rs : List Nat} {N c : Nat} (lx : xs.length = m) (ly : ys.length = n) (dx : Digs B64 xs) (dy : Digs B64 ys) (lz : zs.length = m + n) (hk : k < m) (hp : p = k) (hp' : p' = min (k + n) m)
    (hz : val B64 zs = val B64 (xs.take p) * val B64 ys) (hN : N = val B64 ((xs.drop k).take (p' - k)) * val B64 ys) (hc : val B64 (zs.drop k) + N = val B64 rs + c * B64 ^ (m + n - k)) :
    val B64 (zs.take k ++ rs) = val B64 (xs.take p') * val B64 ys := by
  have h1 : val B64 zs = val B64 (zs.take k) + B64 ^ k * val B64 (zs.drop k) := val_take_drop zs k (by omega)
  have e1 : xs.take p' = xs.take k ++ (xs.drop k).take (p' - k) := by
    rw [← List.take_add, show k + (p' - k) = p' from by omega]
  have h2 : val B64 (xs.take p') = val B64 (xs.take k) + B64 ^ k * val B64 ((xs.drop k).take (p' - k)) := by
    rw [e1, val_append, List.length_take, Nat.min_eq_left (by omega)]
  have h3 : val B64 (xs.take p') < B64 ^ p' := by
    have := val_lt _ (dx.take p')
    rwa [List.length_take, Nat.min_eq_left (by omega)] at this
  have h4 : val B64 ys < B64 ^ n := by have := val_lt _ dy; rwa [ly] at this
  have h5 : val B64 (xs.take p') * val B64 ys < B64 ^ (m + n) := by
    have a1 : val B64 (xs.take p') < B64 ^ m := Nat.lt_of_lt_of_le h3 (Nat.pow_le_pow_right B64_pos (by omega))
    rw [Nat.pow_add]
    exact Nat.mul_lt_mul_of_lt_of_le a1 (Nat.le_of_lt h4) (by have := B64_pos; exact Nat.pow_pos this)
  have e2 : val B64 (zs.take k ++ rs) = val B64 (zs.take k) + B64 ^ k * val B64 rs := by
    rw [val_append, List.length_take, Nat.min_eq_left (by omega)]
  have e3 : B64 ^ (m + n) = B64 ^ k * B64 ^ (m + n - k) := by rw [← Nat.pow_add]; congr 1; omega
  subst hp
  have key : val B64 (xs.take p') * val B64 ys = val B64 (zs.take p ++ rs) + c * B64 ^ (m + n) := by
    rw [e2, e3, h2, Nat.add_mul, ← hz, h1, Nat.mul_assoc, ← hN]
    have : B64 ^ p * (val B64 (zs.drop p) + N) = B64 ^ p * (val B64 rs + c * B64 ^ (m + n - p)) := by rw [hc]
    grind
  rcases Nat.eq_zero_or_pos c with h0 | h0
  · rw [h0] at key; omega
  · have : B64 ^ (m + n) ≤ c * B64 ^ (m + n) := Nat.le_mul_of_pos_left _ h0
    omega
theorem LoopI.add {T : Int} {w1 w w' : World} {x y z1 t : Loc} {xs ys zs rs : List Nat} {m n k sb ns n' N c : Nat} {J J' : SI} (S : MidS w1 x y z1 m n sb ns J) (L : LoopI T w1 w x y z1 t xs ys zs m n k sb ns n' J J')
    (lx : xs.length = m) (ly : ys.length = n) (hk : k < m) (u : Upd (Rg z1.b (z1.o + k) (z1.o + k + (m + n - k))) w w') (hR : U64 w' z1.b (z1.o + k) rs) (hl : rs.length = m + n - k) (hD : Digs B64 rs)
    (hN : N = val B64 ((xs.drop k).take (min (k + n) m - k)) * val B64 ys) (hc : val B64 (zs.drop k) + N = val B64 rs + c * B64 ^ (m + n - k)) :
    LoopI T w1 w' x y z1 t xs ys (zs.take k ++ rs) m n (k + n) sb ns n' J J' := by
  have hk1 := S.hk
  have u' : Upd (Rg z1.b (z1.o + k) (z1.o + (m + n))) w w' := u.weak (fun b i ⟨h1, h2, h3⟩ => ⟨h1, h2, by omega⟩)
  refine ⟨L.mid.put S (by omega) u' hR hl hD (L.mid.thr.rg L.mid.ok (by omega) u), L.tok.upd u, L.toff, ?_⟩
  have hv := L.v
  rw [Nat.min_eq_left (by omega)] at hv
  exact mul_sum lx ly L.mid.vx.dig L.mid.vy.dig L.mid.lz hk rfl rfl hv hN hc
end Go.Proofs.YtefeijofhocnpaaGreatDoor
namespace Go.Proofs.YtefeijofhocnpaaGreatDoor
open Go.RowKit
theorem iInt3 : (Tryz.prog.info? 80).map (fun i => i.size) = some 2 := by kernel_rfl
theorem uPInt : Tryz.prog.underlying 76 = some (.pointer 80) := by kernel_rfl
theorem eql_ints {w : World} {b b' : Nat} (ha : Free w b) (hb : Free w b') {r : Bool} (hr : ((⟨b, 0, none⟩ : Addr) == ⟨b', 0, none⟩) = r) :
    (binOp .eql 76 (.pointer (some ⟨b, 0, none⟩)) (.pointer (some ⟨b', 0, none⟩))).run Tryz.prog w = .ok (.bool r) w := by
  obtain ⟨i, hi⟩ : ∃ i, Tryz.prog.info? 80 = some i ∧ i.size = 2 := by
    have h := iInt3
    cases hq : Tryz.prog.info? 80 with
    | none => rw [hq] at h; cases h
    | some i => exact ⟨i, rfl, by rw [hq] at h; simpa using h⟩
  exact run_eql_ptr (a := ⟨b, 0, none⟩) (b := ⟨b', 0, none⟩) uPInt hi.1 (by omega) ha hb hr
theorem eql_intsO {w : World} {b b' o' : Nat} (ha : Free w b) (hb : Free w b') {r : Bool} (hr : ((⟨b, 0, none⟩ : Addr) == ⟨b', o', none⟩) = r) :
    (binOp .eql 76 (.pointer (some ⟨b, 0, none⟩)) (.pointer (some ⟨b', o', none⟩))).run Tryz.prog w = .ok (.bool r) w := by
  obtain ⟨i, hi⟩ : ∃ i, Tryz.prog.info? 80 = some i ∧ i.size = 2 := by
    have h := iInt3
    cases hq : Tryz.prog.info? 80 with
    | none => rw [hq] at h; cases h
    | some i => exact ⟨i, rfl, by rw [hq] at h; simpa using h⟩
  exact run_eql_ptr (a := ⟨b, 0, none⟩) (b := ⟨b', o', none⟩) uPInt hi.1 (by omega) ha hb hr
end Go.Proofs.YtefeijofhocnpaaGreatDoor
namespace Go.Proofs.YtefeijofhocnpaaGreatDoor
open Go.RowKit
theorem blk_upd (w : World) (zb k : Nat) (u v : Value) : Upd (Blk zb) w (((w.setCell ⟨zb, 1, none⟩ u).setCell ⟨zb, 0, none⟩ v).drewN k) :=
  (((Upd.refl (Blk zb) w).setCell (fun _ => rfl) _).setCell (fun _ => rfl) _).drewN k
end Go.Proofs.YtefeijofhocnpaaGreatDoor
