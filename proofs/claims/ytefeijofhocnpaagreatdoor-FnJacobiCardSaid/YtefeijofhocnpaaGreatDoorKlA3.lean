/- For the claim of laws.The program's symbol is Jacobi's (FnJacobi).: MulW, MulB, AddTo, Grow, Stack, Region. -/
import Derived.Test.YtefeijofhocnpaaGreatDoorKlA2
import Derived.Deep.RegionHeld3
import Derived.StillTailTactics
import Derived.Test.YtefeijofhocnpaaGreatDoorKlShelf
import Derived.Shelf.Spec.SlicesGrow
import Derived.Lib.QuoteBits
import Derived.Test.YtefeijofhocnpaaGreatDoorKlA1
set_option linter.unusedVariables false
set_option linter.unusedSimpArgs false
namespace Go.Proofs.YtefeijofhocnpaaGreatDoor
open Go.RowKit Go.Shelf
theorem Live.cells {w : World} {b c : Nat} (h : Live w b 0 c) : ∃ cs : List Value, cs.length = c ∧ ∀ j v, cs[j]? = some v → w.cell? (Addr.add ⟨b, 0, none⟩ j) = some v := by
  induction c with
  | zero => exact ⟨[], rfl, fun j v hj => by simp at hj⟩
  | succ c ih =>
    obtain ⟨cs, hl, hc⟩ := ih (h.le (by omega))
    obtain ⟨v, hv⟩ := h c (by omega)
    refine ⟨cs ++ [v], by simp [hl], fun j u hj => ?_⟩
    by_cases hjc : j < cs.length
    · rw [List.getElem?_append_left hjc] at hj
      exact hc j u hj
    · rw [List.getElem?_append_right (by omega)] at hj
      have : j = c := by
        have := (List.getElem?_eq_some_iff.1 hj).1
        simp at this; omega
      subst this
      rw [hl, Nat.sub_self] at hj
      simp at hj
      subst hj
      rw [Addr.add_lit]; exact hv.cell
theorem Live.new (w : World) (xs : Array Value) : Live (w.alloc (.cells xs 102)) w.heap.size 0 xs.size := fun i hi =>
  ⟨xs[i], CellT.word ⟨xs, heap_alloc_new w _, by simp [hi]⟩⟩
def Grown (w : World) (z : Loc) (need : Nat) (r : Loc) (w' : World) : Prop :=
  (r = z ∧ w' = w) ∨ (r.b = w.heap.size ∧ r.o = 0 ∧ need ≤ r.c ∧ r.Ok w' ∧ Upd NoF w w')
theorem grown_any {f : Nat} {ρ : Ren} (L : Lays8.n4 Tryz.prog ρ) (hf : ρ.f 4 = f) (ht : ρ.t 25 = 102) (z : Loc) (l n : Nat) (w : World) (hz : z.Ok w) (h0 : z.o = 0) (hlc : l ≤ z.c) (hN : z.c = 0 → z.A = none)
    (hln : l + n ≤ 1099511627776) :
    Calls Tryz.prog f #[.slice z.A l z.c, .int .i64 n] w fun e w' => ∃ r : Loc, e = .returned (.slice r.A l r.c) ∧ l + n ≤ r.c ∧ Grown w z (l + n) r w' := by
  subst hf
  obtain ⟨i0, i1, i2, i3, i4⟩ := iWord
  by_cases hroom : l + n ≤ z.c
  · refine (Any8.slices_Grow_room L z.A l z.c n w hlc hz.1 (by omega) hroom).mono ?_
    rintro e w' ⟨rfl, rfl⟩
    exact ⟨z, rfl, hroom, Or.inl ⟨rfl, rfl⟩⟩
  · obtain ⟨cs, hcl, hcs⟩ : ∃ cs : List Value, cs.length = z.c ∧ ∀ a, z.A = some a → ∀ j v, cs[j]? = some v → w.cell? (a.add j) = some v := by
      by_cases hc : z.c = 0
      · exact ⟨[], hc.symm, fun a ha => by rw [hN hc] at ha; cases ha⟩
      · obtain ⟨hA, hL⟩ := hz.2 (by omega)
        rw [h0] at hL hA
        obtain ⟨cs, h1, h2⟩ := hL.cells
        exact ⟨cs, h1, fun a ha => by rw [hA] at ha; cases ha; exact h2⟩
    have hg := grownCap_ge w (l + n) z.c 102
    have hg2 := grownCap_le_maxLen w (l + n) z.c 102 (by simp only [maxLen]; omega)
    simp only [maxLen] at hg2
    refine (Any8.slices_Grow_grow L i0 (.int .u64 0) (by rw [ht]; exact i1) i2 (by omega) z.A l z.c n cs w hlc (by omega) (by rw [i4]; omega) (by omega) (by rw [i3, hcl]; omega) ?_ hcs).mono ?_
    · intro h
      by_cases hc : z.c = 0
      · exact hc
      · rw [(hz.2 (by omega)).1] at h; cases h
    · rintro e w' ⟨rfl, rfl⟩
      rw [ht]
      generalize grownCap w (l + n) z.c 102 = g at hg hg2
      have hsz : (cs.toArray ++ Builtin.zeroCells (Value.int .u64 0).cells (l + n - z.c) ++ Builtin.zeroCells (Value.int .u64 0).cells (g - (l + n))).size = g := by
        have z1 : ∀ k, (Builtin.zeroCells (Value.int .u64 0).cells k).size = k := fun k => by
          have := congrArg List.length (zeroCells_one k); simpa [vals, Value.cells] using this
        simp only [Array.size_append, z1, List.size_toArray, hcl]; omega
      refine ⟨Loc.mk1 w.heap.size 0 g, rfl, hg, Or.inr ⟨rfl, rfl, hg, Loc.Ok.mk1 (by omega) ?_, ((Upd.refl NoF w).drew).alloc _⟩⟩
      have := Live.new w.drew (cs.toArray ++ Builtin.zeroCells (Value.int .u64 0).cells (l + n - z.c) ++ Builtin.zeroCells (Value.int .u64 0).cells (g - (l + n)))
      rw [hsz] at this
      exact this
end Go.Proofs.YtefeijofhocnpaaGreatDoor
namespace Go.Proofs.YtefeijofhocnpaaGreatDoor
open Go.RowKit Go.Shelf
inductive SI where
  | none
  | some (ib : Nat) (l : Loc)
def SI.K (sb n : Nat) : SI → Nat → Nat → Prop
  | .none, b, _ => b = sb
  | .some ib l, b, i => b = sb ∨ b = ib ∨ (b = l.b ∧ n ≤ i ∧ 0 < l.c)
def StkV (w : World) (sb n : Nat) : SI → Prop
  | .none => n = 0 ∧ CellT 146 w sb 0 (.pointer Option.none)
  | .some ib l => ib ≠ sb ∧ CellT 146 w sb 0 (.pointer (Option.some ⟨ib, 0, Option.none⟩)) ∧ CellT 158 w ib 0 (.slice l.A n l.c) ∧ n ≤ l.c ∧ l.o = 0 ∧ l.Ok w ∧ (l.c = 0 → l.A = Option.none) ∧ (0 < l.c → l.b ≠ sb ∧ l.b ≠ ib)
def SI.Le (w : World) (sb : Nat) (J J' : SI) : Prop := ∀ n b i, b < w.heap.size → J'.K sb n b i → J.K sb n b i
theorem SI.Le.refl (w : World) (sb : Nat) (J : SI) : SI.Le w sb J J := fun _ _ _ _ h => h
theorem SI.Le.trans {w w' : World} {sb : Nat} {J J' J'' : SI} (h : SI.Le w sb J J') (k : SI.Le w' sb J' J'') (hs : w.heap.size ≤ w'.heap.size) : SI.Le w sb J J'' :=
  fun n b i hb h3 => h n b i hb (k n b i (by omega) h3)
theorem SI.K.mono {sb n m : Nat} {J : SI} {b i : Nat} (h : J.K sb m b i) (hnm : n ≤ m) : J.K sb n b i := by
  cases J with
  | none => exact h
  | some ib l => exact h.imp id (Or.imp id (fun h => ⟨h.1, by omega, h.2.2⟩))
theorem SI.K.sb (sb n i : Nat) (J : SI) : J.K sb n sb i := by
  cases J with
  | none => rfl
  | some ib l => exact Or.inl rfl
theorem StkV.upd {F : Nat → Nat → Prop} {w w' : World} {sb n : Nat} {J : SI} (h : StkV w sb n J) (u : Upd F w w') (hF : ∀ b i, F b i → ¬ J.K sb n b i) : StkV w' sb n J := by
  cases J with
  | none => exact ⟨h.1, h.2.upd u (fun hf => hF _ _ hf rfl)⟩
  | some ib l =>
    obtain ⟨h1, h2, h3, h4, h5, h6, h7, h8⟩ := h
    exact ⟨h1, h2.upd u (fun hf => hF _ _ hf (Or.inl rfl)), h3.upd u (fun hf => hF _ _ hf (Or.inr (Or.inl rfl))), h4, h5, h6.upd u, h7, h8⟩
theorem StkV.upd0 {w w' : World} {sb n : Nat} {J : SI} (h : StkV w sb n J) (u : Upd NoF w w') : StkV w' sb n J := h.upd u (fun _ _ h => h.elim)
theorem getStack_any (w : World) : Calls Tryz.prog 104 #[] w fun e w' => ∃ sb, e = .returned (.pointer (some ⟨sb, 0, none⟩)) ∧ sb = w.heap.size ∧ Upd NoF w w' ∧ StkV w' sb 0 .none := by
  go_enter Tryz.func104, Tryz.ntmps104
  go_wp2
  go_ret
  exact ⟨_, rfl, rfl, (Upd.refl _ _).alloc _, rfl, ⟨_, heap_alloc_new w _, by simp⟩⟩
theorem si_save_any (ib n c : Nat) (A : Option Addr) (w : World) (h : CellT 158 w ib 0 (.slice A n c)) :
    Calls Tryz.prog 148 #[.pointer (some ⟨ib, 0, none⟩)] w fun e w' => e = .returned (.int .i64 (n : Int)) ∧ w' = w := by
  have c0 := h.cell
  go_enter Tryz.func148, Tryz.ntmps148
  go_wp2
  go_ret
  exact ⟨rfl, rfl⟩
theorem save_any (sb n : Nat) (J : SI) (w : World) (h : StkV w sb n J) :
    Calls Tryz.prog 119 #[.pointer (some ⟨sb, 0, none⟩)] w fun e w' => e = .returned (.int .i64 (n : Int)) ∧ w' = w := by
  cases J with
  | none =>
    obtain ⟨rfl, h1⟩ := h
    have c0 := h1.cell
    go_enter Tryz.func119, Tryz.ntmps119
    go_wp2
    go_ret
    exact ⟨rfl, rfl⟩
  | some ib l =>
    obtain ⟨h1, h2, h3, h4⟩ := h
    have c0 := h2.cell
    go_enter Tryz.func119, Tryz.ntmps119
    go_wp2_with (go_at_call 148; refine (si_save_any ib n _ _ w h3).mono ?_; rintro e w' ⟨rfl, rfl⟩)
    go_ret
    exact ⟨rfl, rfl⟩
theorem StkV.cut {w : World} {sb n k ib : Nat} {l : Loc} (h : StkV w sb n (.some ib l)) (hk : k ≤ n) : StkV (w.setCell ⟨ib, 0, none⟩ (.slice l.A k l.c)) sb k (.some ib l) := by
  obtain ⟨h1, h2, h3, h4, h5, h6, h7, h8⟩ := h
  exact ⟨h1, h2.far _ (by omega), h3.set _, by omega, h5, h6.upd ((Upd.refl (fun _ _ => True) w).setCell (fun _ => trivial) _), h7, h8⟩
theorem si_restore_any (ib n k : Nat) (l : Loc) (w : World) (h : CellT 158 w ib 0 (.slice l.A n l.c)) (hk : k ≤ n) (hn : n ≤ l.c) :
    Calls Tryz.prog 147 #[.pointer (some ⟨ib, 0, none⟩), .int .i64 (k : Int)] w fun e w' => e = .returned (.tuple #[]) ∧ w' = w.setCell ⟨ib, 0, none⟩ (.slice l.A k l.c) := by
  have c0 := h.cell
  have c1 := h.frozen
  have q1 : (k : Int) ≤ (l.c : Int) := by omega
  go_enter Tryz.func147, Tryz.ntmps147
  go_wp2
  go_end0
  exact ⟨rfl, rfl⟩
theorem si_free_any (ib n : Nat) (l : Loc) (w : World) (h : CellT 158 w ib 0 (.slice l.A n l.c)) :
    Calls Tryz.prog 133 #[.pointer (some ⟨ib, 0, none⟩)] w fun e w' => e = .returned (.tuple #[]) ∧ w' = w.setCell ⟨ib, 0, none⟩ (.slice l.A 0 l.c) := by
  have c0 := h.cell
  have c1 := h.frozen
  have q1 : (0 : Int) ≤ (l.c : Int) := by omega
  go_enter Tryz.func133, Tryz.ntmps133
  go_wp2
  go_end0
  refine ⟨rfl, ?_⟩
  cases l.A <;> simp
theorem andNot_three (i : Nat) (h : i < 9223372036854775804) : bits .andNot .i64 (i : Int) 3 = ((i / 4 * 4 : Nat) : Int) := by
  show IntKind.i64.wrap ((BitVec.ofInt 64 (i : Int) &&& ~~~BitVec.ofInt 64 ((3 : Nat) : Int)).toNat : Int) = _
  rw [BitVec.toNat_and, BitVec.toNat_not, ofInt_u64 i (by omega), ofInt_u64 3 (by omega)]
  have e : 2 ^ 64 - 1 - 3 = 18446744073709551612 := by decide
  rw [e, nat_hi64_2, Nat.mod_eq_of_lt (by omega)]
  exact Lib.wrap_i64_small _ (by omega)
theorem si_nat_any (ib n m : Nat) (l : Loc) (w : World) (h : CellT 158 w ib 0 (.slice l.A n l.c)) (hl : l.Ok w) (hn : n ≤ l.c) (h0 : l.o = 0) (hN : l.c = 0 → l.A = none) (hb : 0 < l.c → l.b ≠ ib) (hm0 : 0 < m) (hm : n + m + 3 ≤ 1099511627776) :
    Calls Tryz.prog 150 #[.pointer (some ⟨ib, 0, none⟩), .int .i64 (m : Int)] w fun e w' => ∃ (r : Loc) (n' : Nat),
      e = .returned (.slice (some ⟨r.b, n, none⟩) m m) ∧ n + m ≤ n' ∧ n' ≤ n + m + 3 ∧ n' ≤ r.c ∧ r.o = 0 ∧ (r = l ∨ w.heap.size ≤ r.b) ∧ r.Ok w' ∧ r.b ≠ ib ∧ CellT 158 w' ib 0 (.slice r.A n' r.c) ∧
      Upd (fun b i => b = ib ∨ (b = l.b ∧ n ≤ i ∧ 0 < l.c)) w w' := by
  have c0 := h.cell
  have c1 := h.frozen
  obtain ⟨k, ek, k1, k2⟩ : ∃ k : Nat, bits .andNot .i64 ((m : Int) + 3) 3 = (k : Int) ∧ m ≤ k ∧ k ≤ m + 3 := ⟨(m + 3) / 4 * 4, andNot_three (m + 3) (by omega), by omega, by omega⟩
  have p0 : (0 : Int) < (m : Int) := by omega
  go_enter Tryz.func150, Tryz.ntmps150
  go_wp2_with fail
  clear ek
  refine (grown_any Tryz.growW rfl rfl l n k w hl h0 hn hN (by omega)).mono ?_
  rintro e w1 ⟨r, rfl, hrc, hg⟩
  have hr : r.Ok w1 ∧ r.o = 0 ∧ (r = l ∨ w.heap.size ≤ r.b) ∧ r.b ≠ ib ∧ Upd NoF w w1 := by
    rcases hg with ⟨rfl, rfl⟩ | ⟨g1, g2, g3, g4, g5⟩
    · exact ⟨hl, h0, Or.inl rfl, hb (by omega), Upd.refl _ _⟩
    · exact ⟨g4, g2, Or.inr (by omega), by have := h.lt; omega, g5⟩
  obtain ⟨hO, ho, hbb, hbi, hU⟩ := hr
  have h1 := h.upd hU (fun h => h)
  obtain ⟨hA, hL⟩ := hO.2 (by omega)
  obtain ⟨A, c, b, o⟩ := r
  simp only at hA ho hrc hL hbi hbb
  subst ho
  subst hA
  have c2 := h1.cell
  have c3 := h1.frozen
  have q1 : (n : Int) + (k : Int) ≤ (c : Int) := by omega
  have q2 : (0 : Int) ≤ (n : Int) + (k : Int) := by omega
  have q3 : n < c := by omega
  have q4 : (n : Int) + (m : Int) ≤ (c : Int) := by omega
  have q5 : (n : Int) ≤ (n : Int) + (m : Int) := by omega
  have q6 : n < n + m := by omega
  have q7 : n + m - n = m := by omega
  obtain ⟨v0, k3, k4, k5⟩ := hL.at_ (k := n) q3
  simp only [Nat.zero_add] at k3 k4 k5
  have hb0 := h.lt
  have hin : b < w.heap.size → (b = l.b ∧ 0 < l.c) := by
    intro hh
    rcases hbb with e | e
    · subst e; exact ⟨rfl, by simp only; omega⟩
    · omega
  have HI := Lib.hid (And.intro hin hbb)
  clear hg h c0 c1 hin hbb q6 q7
  have hfin : Ending.returned (Value.slice (some (cutA ⟨b, 0, none⟩ n (n + m) 1)) (n + m - n) (n + m - n)) = .returned (.slice (some ⟨b, n, none⟩) m m) := by
    rw [cutA_lt (by omega), Nat.add_sub_cancel_left, Nat.zero_add]
  go_wp2_with fail
  go_ret
  have u1 : Upd (fun b i => b = ib ∨ (b = l.b ∧ n ≤ i ∧ 0 < l.c)) w ((w1.setCell ⟨ib, 0, none⟩ (.slice (some ⟨b, 0, none⟩) n c)).setCell ⟨ib, 0, none⟩ (.slice (some ⟨b, 0, none⟩) (n + k) c)) :=
    (((hU.mono (fun _ _ _ h => h.elim)).setCell (fun _ => Or.inl rfl) _).setCell (fun _ => Or.inl rfl) _)
  refine ⟨⟨some ⟨b, 0, none⟩, c, b, 0⟩, n + k, hfin, by omega, by omega, hrc, rfl, HI.out.2, ?_, hbi, ?_, u1.setCell (fun hh => Or.inr ⟨(HI.out.1 hh).1, Nat.le_refl _, (HI.out.1 hh).2⟩) _⟩
  · exact hO.upd (((Upd.refl (fun _ _ => True) w1).setCell (fun _ => trivial) _).setCell (fun _ => trivial) _ |>.setCell (fun _ => trivial) _)
  · exact ((h1.set _).set _).far _ (by omega)
def StkNat (w : World) (sb n m : Nat) (J : SI) (e : Ending) (w' : World) : Prop :=
  ∃ (t : Loc) (J' : SI) (n' : Nat), e = .returned (.slice t.A m t.c) ∧ m ≤ t.c ∧ t.Ok w' ∧ ((∀ i, i < t.c → J.K sb n t.b (t.o + i)) ∨ w.heap.size ≤ t.b) ∧ (∀ i, i < t.c → ¬ J'.K sb n' t.b (t.o + i)) ∧
    StkV w' sb n' J' ∧ n ≤ n' ∧ n' ≤ n + m + 3 ∧ SI.Le w sb J J' ∧ Upd (J.K sb n) w w'
theorem stk_nat_some (sb n m ib : Nat) (l : Loc) (w : World) (h : StkV w sb n (.some ib l)) (hm0 : 0 < m) (hm : n + m + 3 ≤ 1099511627776) :
    Calls Tryz.prog 120 #[.pointer (some ⟨sb, 0, none⟩), .int .i64 (m : Int)] w fun e w' => StkNat w sb n m (.some ib l) e w' := by
  obtain ⟨h1, h2, h3, h4, h5, h6, h7, h8⟩ := h
  have c0 := h2.cell
  have HS := si_nat_any ib n m l w h3 h6 h4 h5 h7 (fun h => (h8 h).2) hm0 hm
  go_enter Tryz.func120, Tryz.ntmps120
  go_wp2_with fail
  refine HS.mono ?_
  rintro e w1 ⟨r, n', rfl, g1, g2, g3, g4, g5, g6, g7, g8, g9⟩
  have hsb : r.b ≠ sb := by
    rcases g5 with rfl | g5
    · exact (h8 (by omega)).1
    · have := h2.lt; omega
  have hres : StkNat w sb n m (.some ib l) (.returned (.slice (some ⟨r.b, n, none⟩) m m)) w1 := by
    refine ⟨⟨some ⟨r.b, n, none⟩, m, r.b, n⟩, .some ib r, n', rfl, Nat.le_refl _, ⟨by simp only; omega, fun _ => ⟨rfl, ?_⟩⟩, ?_, ?_, ⟨h1, h2.upd g9 ?_, g8, g3, g4, g6, ?_, fun _ => ⟨hsb, g7⟩⟩, by omega, g2, ?_, g9.mono ?_⟩
    · have := (g6.2 (by omega)).2
      rw [g4] at this
      have := this.sub n m (by omega)
      rwa [Nat.zero_add] at this
    · rcases g5 with rfl | g5
      · left; intro i hi; exact Or.inr (Or.inr ⟨rfl, Nat.le_add_right _ _, by simp only at *; omega⟩)
      · right; exact g5
    · rintro i hi (h | h | ⟨_, h, _⟩)
      · exact hsb h
      · exact g7 h
      · simp only at hi h; omega
    · rintro (h | ⟨h, _, h9⟩)
      · exact h1 h.symm
      · exact (h8 h9).1 h.symm
    · intro h; omega
    · rintro _ b i hb (h | h | ⟨h, h', h''⟩)
      · exact Or.inl h
      · exact Or.inr (Or.inl h)
      · rcases g5 with rfl | g5
        · exact Or.inr (Or.inr ⟨h, h', h''⟩)
        · omega
    · rintro b i _ (h | h)
      · exact Or.inr (Or.inl h)
      · exact Or.inr (Or.inr h)
  clear HS h1 h2 h3 h4 h5 h6 h7 h8 g1 g2 g3 g4 g5 g6 g7 g8 g9 hsb
  go_wp2
  go_ret
  exact hres
theorem stk_nat_none (sb n m : Nat) (w : World) (h : StkV w sb n .none) (hm0 : 0 < m) (hm : n + m + 3 ≤ 1099511627776) :
    Calls Tryz.prog 120 #[.pointer (some ⟨sb, 0, none⟩), .int .i64 (m : Int)] w fun e w' => StkNat w sb n m .none e w' := by
  obtain ⟨rfl, h2⟩ := h
  have c0 := h2.cell
  have c1 := h2.frozen
  by_cases h4 : m ≤ 4
  · have q0 : decide (m ≤ 4) = true := decide_eq_true h4
    have q1 : (m : Int) ≤ 4 := by omega
    have p0 : (0 : Int) < (m : Int) := by omega
    have HG := grown_any Tryz.growN rfl rfl ⟨none, 0, 0, 0⟩ 0 m w (Loc.Ok.nil w 0 0) rfl (Nat.le_refl _) (fun _ => rfl) (by omega)
    simp only at HG
    go_enter Tryz.func120, Tryz.ntmps120
    go_wp2_with fail
    refine HG.mono ?_
    rintro e w1 ⟨r, rfl, hrc, hg⟩
    have hr : r.Ok w1 ∧ r.o = 0 ∧ w.heap.size ≤ r.b ∧ Upd NoF w w1 := by
      rcases hg with ⟨rfl, _⟩ | ⟨g1, g2, g3, g4, g5⟩
      · simp only at hrc; omega
      · exact ⟨g4, g2, by omega, g5⟩
    obtain ⟨hO, ho, hbb, hU⟩ := hr
    obtain ⟨hA, hL⟩ := hO.2 (by omega)
    obtain ⟨A, c, b, o⟩ := r
    simp only at hA ho hrc hL hbb
    subst ho
    subst hA
    obtain ⟨v0, k3, k4, k5⟩ := hL.at_ (k := 0) (by omega)
    simp only [Nat.add_zero] at k3 k4 k5
    have q2 : (m : Int) ≤ (c : Int) := by omega
    have hsb := h2.lt
    have hu : Upd (SI.none.K sb 0) w (w1.setCell ⟨b, 0, none⟩ (.int .u64 11259375)) := (hU.mono (fun _ _ _ h => h.elim)).setCell (fun h => by omega) _
    have hres : StkNat w sb 0 m .none (.returned (.slice (some ⟨b, 0, none⟩) m c)) (w1.setCell ⟨b, 0, none⟩ (.int .u64 11259375)) :=
      ⟨⟨some ⟨b, 0, none⟩, c, b, 0⟩, .none, 0, rfl, by simp only; omega, hO.upd ((Upd.refl (fun _ _ => True) w1).setCell (fun _ => trivial) _), Or.inr hbb,
        fun i _ h => (by have : b = sb := h; omega), ⟨rfl, (h2.upd hU (fun h => h)).far _ (by omega)⟩, Nat.le_refl _, by omega, SI.Le.refl _ _ _, hu⟩
    clear HG hg h2 c0 c1 hO hL hu h4 hrc
    go_wp2
    go_ret
    exact hres
  · have q0 : decide (m ≤ 4) = false := decide_eq_false h4
    have q1 : ¬ (m : Int) ≤ 4 := by omega
    have hlt := h2.lt
    have e1 : ∀ v, (w.setCell ⟨sb, 0, none⟩ v).heap.size = w.heap.size := fun v => World.size_setCell _ _ _
    have hu1 : Upd (SI.none.K sb 0) w ((w.setCell ⟨sb, 0, none⟩ (.pointer (some ⟨w.heap.size, 0, none⟩))).alloc (.cells #[.slice none 0 0] 158)) :=
      ((Upd.refl (SI.none.K sb 0) w).setCell (fun _ => rfl) _).alloc _
    have hc1 : CellT 158 ((w.setCell ⟨sb, 0, none⟩ (.pointer (some ⟨w.heap.size, 0, none⟩))).alloc (.cells #[.slice none 0 0] 158)) w.heap.size 0 (.slice none 0 0) := by
      refine ⟨#[.slice none 0 0], ?_, by simp⟩
      have := heap_alloc_new (w.setCell ⟨sb, 0, none⟩ (.pointer (some ⟨w.heap.size, 0, none⟩))) (.cells #[.slice none 0 0] 158)
      rwa [e1] at this
    have hc2 : CellT 146 ((w.setCell ⟨sb, 0, none⟩ (.pointer (some ⟨w.heap.size, 0, none⟩))).alloc (.cells #[.slice none 0 0] 158)) sb 0 (.pointer (some ⟨w.heap.size, 0, none⟩)) :=
      (h2.set _).upd ((Upd.refl NoF _).alloc _) (fun h => h)
    have HS := si_nat_any w.heap.size 0 m ⟨none, 0, 0, 0⟩ _ hc1 (Loc.Ok.nil _ 0 0) (Nat.le_refl _) rfl (fun _ => rfl) (fun h => absurd h (Nat.lt_irrefl 0)) hm0 (by omega)
    simp only at HS
    clear hc1
    have HC := Lib.hid (And.intro hu1 hc2)
    clear hu1 hc2
    go_enter Tryz.func120, Tryz.ntmps120
    go_wp2_with fail
    refine HS.mono ?_
    clear HS
    rintro e w1 ⟨r, n', rfl, g1, g2, g3, g4, g5, g6, g7, g8, g9⟩
    have hu1 := HC.out.1
    have hc2 := HC.out.2
    have hs := hu1.size
    have hb : w.heap.size ≤ r.b := by
      rcases g5 with rfl | g5
      · simp only at g3; omega
      · omega
    have hN : ((w.setCell ⟨sb, 0, none⟩ (.pointer (some ⟨w.heap.size, 0, none⟩))).alloc (.cells #[.slice none 0 0] 158)).heap.size = w.heap.size + 1 := by rw [World.size_alloc, e1]
    have hres : StkNat w sb 0 m .none (.returned (.slice (some ⟨r.b, 0, none⟩) m m)) w1 := by
      refine ⟨⟨some ⟨r.b, 0, none⟩, m, r.b, 0⟩, .some w.heap.size r, n', rfl, Nat.le_refl _, ⟨by simp only; omega, fun _ => ⟨rfl, ?_⟩⟩, Or.inr hb, ?_, ⟨by omega, hc2.upd g9 ?_, g8, g3, g4, g6, ?_, fun _ => ⟨by omega, g7⟩⟩, by omega, by omega, ?_, hu1.then g9 (fun _ _ _ h => h) ?_⟩
      · have := (g6.2 (by omega)).2
        rw [g4] at this
        exact this.le (by simp only; omega)
      · rintro i hi (h | h | ⟨_, h, _⟩)
        · simp only at h; omega
        · exact g7 h
        · simp only at hi h; omega
      · rintro (h | ⟨_, _, h⟩)
        · omega
        · exact absurd h (Nat.lt_irrefl 0)
      · intro h; omega
      · rintro _ b i hb' (h | h | ⟨h, _, _⟩)
        · exact h
        · omega
        · omega
      · rintro b i hb' (h | ⟨_, _, h⟩)
        · omega
        · exact absurd h (Nat.lt_irrefl 0)
    clear HC g1 g2 g3 g4 g5 g6 g7 g8 g9 hu1 hc2 hN e1 h2 c0 c1
    go_wp2
    go_ret
    exact hres
theorem stk_nat_any (sb n m : Nat) (J : SI) (w : World) (h : StkV w sb n J) (hm0 : 0 < m) (hm : n + m + 3 ≤ 1099511627776) :
    Calls Tryz.prog 120 #[.pointer (some ⟨sb, 0, none⟩), .int .i64 (m : Int)] w fun e w' => StkNat w sb n m J e w' := by
  cases J with
  | none => exact stk_nat_none sb n m w h hm0 hm
  | some ib l => exact stk_nat_some sb n m ib l w h hm0 hm
end Go.Proofs.YtefeijofhocnpaaGreatDoor
namespace Go.Proofs.YtefeijofhocnpaaGreatDoor
open Go.RowKit
section
variable {P : Program} {ops : Array Oper} {md : Region.Mode} {w : World}
def sinkFrom (md : Region.Mode) (ops : Array Oper) (p n : Nat) : Bool := (List.range n).all fun i => decide (i < p) || (List.range (n + 1)).any fun j => decide (i < j) && Region.waitsFor md ops j i
def Waits (md : Region.Mode) (ops : Array Oper) (p n : Nat) : Prop := ∀ (listed : Array Bool), HeadInv md ops n listed → (∃ i, p ≤ i ∧ i < n ∧ listed.getD i true = false) → ∀ t, n ≤ t → t ∉ Region.ready md ops listed
theorem waits_of {p n : Nat} (hs : sinkFrom md ops p n = true) (hc : Region.chainB md ops n = true) (hn : n < ops.size) : Waits md ops p n := by
  intro listed inv
  suffices H : ∀ (d i : Nat), n - i ≤ d → p ≤ i → i < n → listed.getD i true = false → ∀ t, n ≤ t → t ∉ Region.ready md ops listed by
    rintro ⟨i, h1, h2, h3⟩
    exact H (n - i) i (Nat.le_refl _) h1 h2 h3
  intro d
  induction d with
  | zero => intro i hd _ hi; omega
  | succ d ih =>
    intro i hd hpi hi hun t ht hr
    obtain ⟨_, ot, hot, hall⟩ := mem_ready.1 hr
    have htlt : t < ops.size := (Array.getElem?_eq_some_iff.1 hot).1
    have notyet : ∀ j, Region.waitsFor md ops t j = true → listed.getD j false = true := fun j hj => by
      obtain ⟨o', ho', e, he, hb, hon⟩ := Region.waitsFor_spec hj
      have : o' = ot := Option.some.inj (ho'.symm.trans hot)
      subst this
      rw [← hon]; exact hall e he hb
    rcases Nat.lt_or_ge n t with hlt | hge
    · have h1 := List.all_eq_true.1 hc t (List.mem_range.2 htlt)
      simp only [Bool.or_eq_true, decide_eq_true_eq] at h1
      rcases h1 with h1 | h1
      · omega
      · have := notyet _ h1
        rw [getD_both (inv.tail (t - 1) (by omega) (by omega))] at this
        cases this
    · have htn : t = n := by omega
      subst htn
      have h1 := List.all_eq_true.1 hs i (List.mem_range.2 hi)
      simp only [Bool.or_eq_true, decide_eq_true_eq] at h1
      rcases h1 with h1 | h1
      · omega
      obtain ⟨j, hj, hj2⟩ := List.any_eq_true.1 h1
      simp only [Bool.and_eq_true, decide_eq_true_eq] at hj2
      have hjle := List.mem_range.1 hj
      by_cases hjt : j = t
      · subst hjt
        have := notyet _ hj2.2
        rw [getD_both hun] at this
        cases this
      · obtain ⟨oj, hoj, e, he, hb, hon⟩ := Region.waitsFor_spec hj2.2
        cases hl : listed.getD j false with
        | true =>
          have h2 := inv.closed j oj hoj hl e he hb
          rw [hon, getD_both hun] at h2
          cases h2
        | false => exact ih j (by omega) (by omega) (by omega) (getD_in (by rw [inv.size]; omega) hl) t ht hr
theorem mid_first {p n i : Nat} {oi : Oper} {v : Value} {L : Array Bool → Act → Prop} (hi : ops[i]? = some oi) (hsel : ∀ (j : Nat) (o : Oper) cs b, ops[j]? = some o → o.op ≠ .select cs b)
    (hW : Waits md ops p n) (hpi : p ≤ i) (hin : i < n) (hdone : ∀ listed a, L listed a → ∀ j ∈ Region.ready md ops listed, n ≤ j) :
    ∀ (f : Nat) (listed : Array Bool) (a : Act), HeadInv md ops n listed →
      (∀ j oj, ops[j]? = some oj → j ≠ i → listed.getD j true = false → (∀ e ∈ oj.after, Region.binds md e = true → e.on ≠ i) → oi.apart ops oj = true) →
      i ∈ Region.ready md ops listed → YieldsAt P ops w oi v a →
      wpAnyL P md ops w n L f (listed.setIfInBounds i true) (a.put oi.dst v) → wpAnyL P md ops w n L (f + 1) listed a := by
  intro f
  induction f with
  | zero =>
    intro listed a inv _ hr hy H
    refine ⟨fun h => absurd (h ▸ hr) (by simp), fun j hj => ?_⟩
    have hun := (mem_ready.1 hr).1
    have hjn : j < n := Nat.lt_of_not_le fun h => hW listed inv ⟨i, hpi, hin, hun⟩ j h hj
    by_cases hji : j = i
    · rw [hji]; exact ⟨hin, hy.stOp hi H⟩
    · exact absurd (hdone _ _ H j (ready_mono hj hji)) (by omega)
  | succ f ih =>
    intro listed a inv hfree hr hy H
    refine ⟨fun h => absurd (h ▸ hr) (by simp), fun j hj => ?_⟩
    have hun := (mem_ready.1 hr).1
    have hjn : j < n := Nat.lt_of_not_le fun h => hW listed inv ⟨i, hpi, hin, hun⟩ j h hj
    refine ⟨hjn, ?_⟩
    by_cases hji : j = i
    · rw [hji]; exact hy.stOp hi H
    obtain ⟨hjun, oj, hoj, hall⟩ := mem_ready.1 hj
    have hnot : ∀ e ∈ oj.after, Region.binds md e = true → e.on ≠ i := fun e he hb heq => by
      have h1 := hall e he hb
      rw [heq, getD_both hun] at h1
      cases h1
    refine stOp_mono (fun a' h3 => ih (listed.setIfInBounds j true) a' (inv.set hj hjn) ?_ (ready_mono hr (Ne.symm hji)) h3.1 ?_)
      (stOp_put hoj (hfree j oj hoj hji hjun hnot) (fun cs b => hsel i oi cs b hi) (fun cs b => hsel j oj cs b hoj) hy (H.2 j (ready_mono hj hji)).2)
    · intro k ok hk hki hkun hno
      refine hfree k ok hk hki ?_ hno
      by_cases hjk : j = k
      · rw [← hjk]; exact hjun
      · rwa [getD_set_ne true hjk] at hkun
    · rw [Array.setIfInBounds_comm _ _ hji]
      exact h3.2
theorem mid_lex {p n g : Nat} {Lq : Act → Prop} (hsel : Region.noSelect ops = true) (hW : Waits md ops p n) :
    ∀ (l : List Oper) (k : Nat) (listed : Array Bool) (a : Act), (∀ j, j < l.length → l[j]? = ops[k + j]?) → k + l.length = n → p ≤ k → HeadInv md ops n listed →
    Region.lexHead md ops g l.length k listed = true → wpStill P ops w Lq l a →
    wpAnyL P md ops w n (fun listed' a' => Region.seqB md ops g n listed' = true ∧ Lq a') l.length listed a := by
  intro l
  induction l with
  | nil =>
    intro k listed a _ hk _ _ hB h
    have hkn : k = n := by simpa using hk
    exact ⟨by simpa [Region.lexHead, hkn] using hB, h⟩
  | cons o l ih =>
    intro k listed a hl hk hpk inv hB h
    have h0 : ops[k]? = some o := by simpa using (hl 0 (by simp)).symm
    simp only [List.length_cons, Region.lexHead, Bool.and_eq_true] at hB
    obtain ⟨⟨hr, hf⟩, hB'⟩ := hB
    have hkn : k < n := by simp only [List.length_cons] at hk; omega
    have hr' : k ∈ Region.ready md ops listed := by simpa using hr
    have hst : stOp P ops w k (wpStill P ops w Lq l) a := by unfold stOp; simp only [h0]; exact h
    obtain ⟨v, hy, hK⟩ := yieldsAt_of_stOp h0 hst
    refine mid_first h0 (Region.noSelect_spec hsel) hW hpk hkn (fun listed' a' hL => seqB_ready hL.1) l.length listed a inv (Region.free_spec h0 hf) hr' hy ?_
    exact ih (k + 1) _ _ (fun j hj => by have := hl (j + 1) (by simp; omega); simpa [Nat.add_assoc, Nat.add_comm 1 j] using this) (by simp only [List.length_cons] at hk; omega) (by omega) (inv.set hr' hkn) hB' hK
def wpPure (P : Program) (ops : Array Oper) (Q : Exit → Act → World → Prop) (L : Act → Prop) : List Oper → Act → Prop
  | [], a => L a
  | o :: l, a => ∃ v, (∀ c a w, Q (.panic c) (Act.put a o.dst v) w → Q (.panic c) a w) ∧ Yields P ops o v a ∧ wpPure P ops Q L l (a.put o.dst v)
theorem wpPure_nil {Q : Exit → Act → World → Prop} {L : Act → Prop} {a : Act} (h : L a) : wpPure P ops Q L [] a := h
theorem wpPure_step {Q : Exit → Act → World → Prop} {L : Act → Prop} {a : Act} {o : Oper} {l : List Oper} (v : Value) (hQ : ∀ c a w, Q (.panic c) (Act.put a o.dst v) w → Q (.panic c) a w) (hw : Region.wanted o (yielded ops a.tmps) = true)
    (hv : ∀ w, (execOp a.eval o).run P w = .ok (.value v) w) (h : wpPure P ops Q L l (a.put o.dst v)) : wpPure P ops Q L (o :: l) a := ⟨v, hQ, Or.inl ⟨hw, hv⟩, h⟩
def pureB (md : Region.Mode) (ops : Array Oper) (last : Array Bool → Bool) : Nat → Nat → Array Bool → Bool
  | 0, _, listed => last listed
  | f + 1, k, listed => (Region.ready md ops listed).contains k && Region.free md ops listed k && pureB md ops last f (k + 1) (listed.setIfInBounds k true)
theorem pure_lex {n fuel : Nat} {Q : Exit → Act → World → Prop} {L : Act → Prop} {last : Array Bool → Bool} (hsel : Region.noSelect ops = true)
    (hlast : ∀ listed a, last listed = true → HeadInv md ops n listed → L a → wpAny P md ops Q fuel listed a w) :
    ∀ (l : List Oper) (k : Nat) (listed : Array Bool) (a : Act), (∀ j, j < l.length → l[j]? = ops[k + j]?) → k + l.length ≤ n → HeadInv md ops n listed →
    pureB md ops last l.length k listed = true → wpPure P ops Q L l a → wpAny P md ops Q (l.length + fuel) listed a w := by
  intro l
  induction l with
  | nil =>
    intro k listed a _ _ inv hB h
    rw [List.length_nil, Nat.zero_add]
    exact hlast listed a hB inv h
  | cons o l ih =>
    intro k listed a hl hk inv hB h
    have h0 : ops[k]? = some o := by simpa using (hl 0 (by simp)).symm
    simp only [List.length_cons] at hk
    simp only [List.length_cons, pureB, Bool.and_eq_true] at hB
    obtain ⟨⟨hr, hf⟩, hB'⟩ := hB
    obtain ⟨v, hQ, hy, hK⟩ := h
    rw [List.length_cons, show l.length + 1 + fuel = (l.length + fuel) + 1 by omega]
    refine wpAny_take h0 hsel hf hr hQ hy ?_
    exact ih (k + 1) _ _ (fun j hj => by have := hl (j + 1) (by simp; omega); simpa [Nat.add_assoc, Nat.add_comm 1 j] using this) (by omega) (inv.set (by simpa using hr) (by omega)) hB' hK
def preTailB (md : Region.Mode) (ops : Array Oper) (p n : Nat) : Bool :=
  Region.noSelect ops && decide (p ≤ n) && decide (n < ops.size) && sinkFrom md ops p n && Region.chainB md ops n &&
    pureB md ops (fun listed => Region.lexHead md ops (ops.size - n) (n - p) p listed) p 0 (Array.replicate ops.size false)
theorem wp_region_pre_tail {id : Nat} {Q : Exit → Act → World → Prop} {a : Act} {w : World} {l : List Oper} (p n : Nat) (hm : P.follows .mixedOrders = true) (hB : preTailB .any l.toArray p n = true)
    (h : wpPure P l.toArray Q (fun a1 => wpStill P l.toArray w.drew (fun a' => wpList P l.toArray Q (l.drop n) a' w.drew) ((l.take n).drop p) a1) (l.take p) a) : (Code.region id l.toArray true).wp P Q a w := by
  simp only [preTailB, Bool.and_eq_true, decide_eq_true_eq] at hB
  obtain ⟨⟨⟨⟨⟨hsel, hpn⟩, hn⟩, hs⟩, hc⟩, hpure⟩ := hB
  have hn' : n < l.length := by simpa using hn
  have hW := waits_of hs hc hn
  have inv0 : HeadInv .any l.toArray n (Array.replicate l.toArray.size false) :=
    ⟨by simp, fun j oj _ hl => (by rw [getD_replicate_false] at hl; cases hl), fun t _ ht => getD_in (by simpa using ht) (getD_replicate_false _ _)⟩
  refine wp_region_any hm ?_
  have hpl : (l.take p).length = p := by rw [List.length_take]; omega
  have hml : ((l.take n).drop p).length = n - p := by rw [List.length_drop, List.length_take]; omega
  have hdl : (l.drop n).length = l.toArray.size - n := by simp
  have key := pure_lex (P := P) (w := w.drew) (fuel := (n - p) + (l.toArray.size - n)) (Q := Q) (n := n) (last := fun listed => Region.lexHead .any l.toArray (l.toArray.size - n) (n - p) p listed)
    (L := fun a1 => wpStill P l.toArray w.drew (fun a' => wpList P l.toArray Q (l.drop n) a' w.drew) ((l.take n).drop p) a1) hsel ?_ (l.take p) 0 _ a (fun j hj => by
      rw [hpl] at hj; simp [hj]) (by rw [hpl]; omega) inv0 (by rw [hpl]; exact hpure) h
  · rw [hpl, show p + (n - p + (l.toArray.size - n)) = l.toArray.size by omega] at key
    exact key
  · intro listed a1 hlex inv hL
    have H := mid_lex (P := P) (w := w.drew) (g := l.toArray.size - n) hsel hW ((l.take n).drop p) p listed a1 (fun j hj => by
      rw [hml] at hj
      rw [List.getElem?_drop, List.getElem?_take_of_lt (by omega)]; simp) (by rw [hml]; omega) (Nat.le_refl _) inv (by rw [hml]; exact hlex) hL
    rw [hml] at H
    refine wpAny_of_head (Q' := Q) (g := l.toArray.size - n) (fun listed' a' hL' => ?_) _ _ _ H
    have := wpAny_of_seq (md := .any) (Q' := Q) (l.drop n) n listed' a' w.drew (fun j => by simp [List.getElem?_drop]) (by rw [hdl]; exact hL'.1) hL'.2
    rwa [hdl] at this
end
end Go.Proofs.YtefeijofhocnpaaGreatDoor
