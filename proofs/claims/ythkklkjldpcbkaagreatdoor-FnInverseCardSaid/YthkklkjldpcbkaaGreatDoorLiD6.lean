/- For the claim of laws.FnInverse: DivN, DivF, DivG, DivB1, DivL, DivL1, DivO. -/
import Derived.Test.YthkklkjldpcbkaaGreatDoorLiD1
import Derived.Test.YthkklkjldpcbkaaGreatDoorLiD2
import Derived.Test.YthkklkjldpcbkaaGreatDoorLiA6
import Derived.Deep.DeepCutAuto
import Derived.Deep.LoopGhost
import Derived.StillTailTactics
set_option linter.unusedVariables false
set_option linter.unusedSimpArgs false
set_option maxHeartbeats 16000000
set_option maxRecDepth 1000000
namespace Go.Proofs.YthkklkjldpcbkaaGreatDoor
theorem drop_at {b : Nat} {xs : List Nat} {k x : Nat} (hx : xs[k]? = some x) : val b (xs.drop k) = x + b * val b (xs.drop (k + 1)) := by
 obtain ⟨hk, rfl⟩ := List.getElem?_eq_some_iff.1 hx
 rw [List.drop_eq_getElem_cons hk]; rfl
theorem val_le_drop {xs : List Nat} {k : Nat} (hk : k <= xs.length) : B64 ^ k * val B64 (xs.drop k) <= val B64 xs := by
 rw [Zq xs k hk]; omega
theorem drop_zero_of_lt {xs : List Nat} {k : Nat} (h : val B64 xs < B64 ^ k) : val B64 (xs.drop k) = 0 := by
 rcases Nat.lt_or_ge xs.length k with h1 | h1
 . rw [List.drop_eq_nil_of_le (by omega)]; rfl
 .
  have := val_le_drop (xs := xs) (k := k) h1
  rcases Nat.eq_zero_or_pos (val B64 (xs.drop k)) with h0 | h0
  . exact h0
  .
   have : B64 ^ k * 1 <= B64 ^ k * val B64 (xs.drop k) := Nat.mul_le_mul_left _ h0
   omega
theorem two_top {ws : List Nat} {n x1 x2 : Nat} (hn : 2 <= n) (h1 : ws[n - 1]? = some x1) (h2 : ws[n - 2]? = some x2) (D : Digs B64 ws) :
  ∃ wl, wl < B64 ^ (n - 2) /\ val B64 ws = ((val B64 (ws.drop n) * B64 + x1) * B64 + x2) * B64 ^ (n - 2) + wl := by
 obtain ⟨hl, _⟩ := List.getElem?_eq_some_iff.1 h1
 refine ⟨val B64 (ws.take (n - 2)), ?_, ?_⟩
 .
  have := val_lt _ (D.take (n - 2))
  rwa [List.length_take, Nat.min_eq_left (by omega)] at this
 .
  rw [Zq ws (n - 2) (by omega), drop_at h2, show n - 2 + 1 = n - 1 by omega, drop_at h1, show n - 1 + 1 = n by omega]
  generalize val B64 (ws.drop n) = a
  generalize val B64 (ws.take (n - 2)) = c
  generalize B64 ^ (n - 2) = S
  generalize B64 = B
  grind
section
variable {n m j : Nat} {us vs : List Nat} {v1 v2 : Nat}
theorem next_lt {V u : Nat} (hR : val B64 (us.drop (j + 1)) < V) (hu : us[j]? = some u) (D : Digs B64 us) : val B64 (us.drop j) < B64 * V := by
 rw [drop_at hu]
 obtain ⟨hk, rfl⟩ := List.getElem?_eq_some_iff.1 hu
 have h1 := D.get j hk
 have h2 : B64 * (val B64 (us.drop (j + 1)) + 1) <= B64 * V := Nat.mul_le_mul_left _ hR
 rw [Nat.mul_add] at h2
 omega
theorem head_le {W V S wl vl a x1 x2 : Nat} (hW : W < B64 * V) (eW : W = ((a * B64 + x1) * B64 + x2) * S + wl) (eV : V = (v1 * B64 + v2) * S + vl) (hv2 : v2 < B64) (hvl : vl < S) : a <= v1 := by
 have h1 : V < (v1 + 1) * (B64 * S) := by
  have : (v1 * B64 + v2 + 1) * S <= (v1 + 1) * B64 * S := Nat.mul_le_mul_right _ (by rw [Nat.add_mul]; omega)
  rw [Nat.add_mul (v1 * B64 + v2) 1] at this
  rw [<- Nat.mul_assoc]; omega
 have h2 : a * (B64 * (B64 * S)) <= W := by
  rw [eW]
  have : a * (B64 * (B64 * S)) = a * B64 * B64 * S := by grind
  rw [this]
  have h3 : a * B64 * B64 * S <= ((a * B64 + x1) * B64 + x2) * S := Nat.mul_le_mul_right _ (by
   have : a * B64 * B64 <= (a * B64 + x1) * B64 := Nat.mul_le_mul_right _ (by omega)
   omega)
  omega
 have h4 : B64 * V < (v1 + 1) * (B64 * (B64 * S)) := by
  have : B64 * V < B64 * ((v1 + 1) * (B64 * S)) := Nat.mul_lt_mul_of_pos_left h1 Zy
  have e : B64 * ((v1 + 1) * (B64 * S)) = (v1 + 1) * (B64 * (B64 * S)) := by grind
  omega
 have h5 : a * (B64 * (B64 * S)) < (v1 + 1) * (B64 * (B64 * S)) := by omega
 have := Nat.lt_of_mul_lt_mul_right h5
 omega
end
structure Rnd (n W V a x1 x2 v1 v2 : Nat) : Prop where
 n2 : 2 <= n
 vv : ∃ vl, vl < B64 ^ (n - 2) /\ V = (v1 * B64 + v2) * B64 ^ (n - 2) + vl
 ww : ∃ wl, wl < B64 ^ (n - 2) /\ W = ((a * B64 + x1) * B64 + x2) * B64 ^ (n - 2) + wl
 top : B64 <= 2 * v1
 v1B : v1 < B64
 v2B : v2 < B64
 x1B : x1 < B64
 x2B : x2 < B64
 aB : a <= v1
 lt : W < B64 * V
section
variable {n W V a x1 x2 v1 v2 q r : Nat}
theorem B64_two : 2 <= B64 := by decide
theorem Rnd.v1pos (h : Rnd n W V a x1 x2 v1 v2) : 0 < v1 := by have := h.top; have := B64_two; omega
theorem Rnd.pos (h : Rnd n W V a x1 x2 v1 v2) : 0 < V := by have := h.lt; rcases Nat.eq_zero_or_pos V with h0 | h0; (subst h0; simp at this); exact h0
theorem Rnd.S (_h : Rnd n W V a x1 x2 v1 v2) : 0 < B64 ^ (n - 2) := Nat.pow_pos Zy
theorem Rnd.quo (h : Rnd n W V a x1 x2 v1 v2) : W / V < B64 := by
 rw [Nat.div_lt_iff_lt_mul h.pos]; exact h.lt
theorem Rnd.start (h : Rnd n W V a x1 x2 v1 v2) : W / V <= (a * B64 + x1) / v1 := by
 obtain ⟨vl, hvl, hV⟩ := h.vv
 obtain ⟨wl, hwl, hW⟩ := h.ww
 rw [hV, hW]
 exact guess_start h.v1pos h.S h.x2B hwl
theorem Rnd.down (h : Rnd n W V a x1 x2 v1 v2) (hI : q * v1 + r = a * B64 + x1) (hc : r * B64 + x2 < q * v2) : W / V < q := by
 obtain ⟨vl, hvl, hV⟩ := h.vv
 obtain ⟨wl, hwl, hW⟩ := h.ww
 rw [hV, hW]
 exact guess_down hI (by rw [<- hV]; exact h.pos) hwl hc
theorem Rnd.stop (h : Rnd n W V a x1 x2 v1 v2) (hI : q * v1 + r = a * B64 + x1) (hq : q < B64) (hc : q * v2 <= r * B64 + x2) : q <= W / V + 1 := by
 obtain ⟨vl, hvl, hV⟩ := h.vv
 obtain ⟨wl, hwl, hW⟩ := h.ww
 rw [hV, hW]
 refine guess_stop hI (by rw [<- hV]; exact h.pos) hvl ?_ hc
 have := Nat.mul_le_mul_right B64 h.v1pos
 omega
theorem Rnd.over (h : Rnd n W V a x1 x2 v1 v2) (hI : q * v1 + r = a * B64 + x1) (hq : q < B64) (hr : B64 <= r) : q <= W / V + 1 := by
 refine h.stop hI hq ?_
 have h1 : q * v2 <= B64 * B64 := Nat.mul_le_mul (by omega) (by have := h.v2B; omega)
 have h2 : B64 * B64 <= r * B64 := Nat.mul_le_mul_right _ hr
 omega
theorem Rnd.same (h : Rnd n W V v1 x1 x2 v1 v2) : W / V <= B64 - 1 /\ B64 - 1 <= W / V + 1 := by
 have h1 := h.quo
 refine ⟨by omega, ?_⟩
 obtain ⟨vl, hvl, hV⟩ := h.vv
 obtain ⟨wl, hwl, hW⟩ := h.ww
 have := guess_top (B := B64) (S := B64 ^ (n - 2)) (v1 := v1) (v2 := v2) (vl := vl) (u1 := x1) (u2 := x2) (wl := wl) h.top h.v2B hvl B64_two
 rw [<- hV, <- hW] at this
 omega
theorem Rnd.one (h : Rnd n W V 0 x1 x2 v1 v2) (hI : q * v1 + r = 0 * B64 + x1) : q <= 1 := by
 rcases Nat.lt_or_ge 1 q with h1 | h1
 .
  have : 2 * v1 <= q * v1 := Nat.mul_le_mul_right _ h1
  have := h.top
  have := h.x1B
  omega
 . exact h1
end
theorem sub_good {W V q ps N P c : Nat} (hV : 0 < V) (h1 : W / V <= q) (h2 : q <= W / V + 1) (hp : ps = q * V) (hs : W + c * P = ps + N) (hc : c = 0) : W / V = q /\ W % V = N := by
 subst hc; subst hp
 rw [Nat.zero_mul] at hs
 obtain ⟨a, b⟩ := (digit_fix hV h1 h2).1 (by omega)
 exact ⟨a, by omega⟩
theorem sub_bad {W V q ps N P c : Nat} (hV : 0 < V) (h1 : W / V <= q) (h2 : q <= W / V + 1) (hp : ps = q * V) (hs : W + c * P = ps + N) (hc : c = 1) (hN : N < P) : W / V = q - 1 /\ 0 < q /\ N + V = W % V + P := by
 subst hc; subst hp
 rw [Nat.one_mul] at hs
 have hlt : W < q * V := by omega
 obtain ⟨a, b, c⟩ := (digit_fix hV h1 h2).2 hlt
 have h3 := Nat.div_mul_le_self W V
 rw [a] at h3
 obtain ⟨p, rfl⟩ : ∃ p, q = p + 1 := ⟨q - 1, by omega⟩
 rw [Nat.add_sub_cancel] at h3
 rw [Nat.add_mul, Nat.one_mul] at hlt c hs
 exact ⟨a, b, by omega⟩
theorem add_back {rs rs2 : List Nat} {n R V c2 d : Nat} (hl : rs.length = n + 1) (hl2 : rs2.length = n) (D2 : Digs B64 rs2) (hd : rs[n]? = some d) (hdB : d < B64) (hc2 : c2 <= 1) (hN : val B64 rs + V = R + B64 ^ (n + 1)) (ha : val B64 (rs.take n) + V = val B64 rs2 + c2 * B64 ^ n) :
  val B64 rs2 = R /\ d + c2 = B64 := by
 have e1 : val B64 rs = val B64 (rs.take n) + B64 ^ n * (d + B64 * 0) := by
  have := Zq (b := B64) rs n (by omega)
  rw [drop_at hd, List.drop_eq_nil_of_le (by omega)] at this
  exact this
 have h2 := val_lt _ D2
 rw [hl2] at h2
 have e3 : B64 ^ (n + 1) = B64 * B64 ^ n := by rw [Nat.pow_succ, Nat.mul_comm]
 have e4 : val B64 rs2 + (d + c2) * B64 ^ n = R + B64 * B64 ^ n := by
  rw [e1, e3] at hN
  have : (d + c2) * B64 ^ n = B64 ^ n * (d + B64 * 0) + c2 * B64 ^ n := by grind
  omega
 generalize B64 ^ n = P at *
 have h5 : d + c2 = B64 := by
  rcases Nat.lt_trichotomy (d + c2) B64 with h | h | h
  .
   have : (d + c2 + 1) * P <= B64 * P := Nat.mul_le_mul_right _ h
   rw [Nat.add_mul (d + c2), Nat.one_mul] at this
   omega
  . exact h
  . omega
 rw [h5] at e4
 exact ⟨by omega, h5⟩
theorem add_back0 {rs2 : List Nat} {n R V N c2 : Nat} (hl2 : rs2.length = n) (D2 : Digs B64 rs2) (hN : N + V = R + B64 ^ n) (ha : N + V = val B64 rs2 + c2 * B64 ^ n) (hc2 : c2 <= 1) : val B64 rs2 = R := by
 have h2 := val_lt _ D2
 rw [hl2] at h2
 generalize B64 ^ n = P at *
 have : c2 = 1 := by
  rcases Nat.eq_zero_or_pos c2 with h | h
  . subst h; omega
  . omega
 subst this
 omega
theorem quo_step {U V Q R W j lo us us' hs : Nat} (hU : U = B64 ^ (j + 1) * hs * V + us) (e1 : us = lo + B64 ^ j * W) (e2 : us' = lo + B64 ^ j * R) (hW : Q = W / V) (hR : R = W % V) : U = B64 ^ j * (Q + B64 * hs) * V + us' := by
 have := Nat.div_add_mod W V
 rw [<- hW, <- hR] at this
 subst e1; subst e2; subst hU
 rw [Nat.pow_succ, <- this]
 grind
theorem sec_val {us sec : List Nat} {j n k R : Nat} (hj : j + k <= us.length) (hl : sec.length = k) (hz : val B64 (us.drop (j + k)) = 0) (hR : val B64 sec = R) (hRn : R < B64 ^ n) (hn : n <= k) (hn1 : 1 <= n) :
  (us.take j ++ sec ++ us.drop (j + k)).length = us.length /\ val B64 (us.take j ++ sec ++ us.drop (j + k)) = val B64 (us.take j) + B64 ^ j * R /\ val B64 ((us.take j ++ sec ++ us.drop (j + k)).drop j) = R ∧
   val B64 ((us.take j ++ sec ++ us.drop (j + k)).drop (j + n)) = 0 := by
 have hlt : (us.take j).length = j := by rw [List.length_take]; omega
 have e1 : (us.take j ++ sec ++ us.drop (j + k)).drop j = sec ++ us.drop (j + k) := by
  rw [List.append_assoc, List.drop_left' hlt]
 have e2 : val B64 (sec ++ us.drop (j + k)) = R := by rw [val_append, hz, hR]; simp
 refine ⟨?_, ?_, by rw [e1, e2], ?_⟩
 . simp only [List.length_append, List.length_drop, hlt, hl]; omega
 . rw [List.append_assoc, val_append, hlt, e2]
 .
  rw [<- List.drop_drop, e1]
  exact drop_zero_of_lt (by rw [e2]; exact hRn)
theorem top_two {vs : List Nat} {n : Nat} (hn : 2 <= n) (hl : vs.length = n) : ∃ v1 v2, vs[n - 1]? = some v1 /\ vs[n - 2]? = some v2 :=
 ⟨_, _, List.getElem?_eq_getElem (by omega), List.getElem?_eq_getElem (by omega)⟩
structure DivI (U V : Nat) (us hs vs : List Nat) (n m k p a : Nat) : Prop where
 lu : us.length = n + m
 du : Digs B64 us
 lh : hs.length = k - p
 dh : Digs B64 hs
 pm : p <= m + 1
 eq : U = B64 ^ p * val B64 hs * V + val B64 us
 lt : val B64 (us.drop p) < V
 a0 : p <= m + 1 -> val B64 (us.drop (p + n - 1)) = a
structure DivV (V : Nat) (vs : List Nat) (n v1 v2 : Nat) : Prop where
 n2 : 2 <= n
 ln : vs.length = n
 dv : Digs B64 vs
 eV : val B64 vs = V
 h1 : vs[n - 1]? = some v1
 h2 : vs[n - 2]? = some v2
 top : B64 <= 2 * v1
theorem DivV.ge {V n v1 v2 : Nat} {vs : List Nat} (h : DivV V vs n v1 v2) : B64 ^ (n - 1) <= V := by
 have := val_le_drop (xs := vs) (k := n - 1) (by have := h.ln; omega)
 rw [h.eV, drop_at h.h1] at this
 have h1 : 1 <= v1 := by have := h.top; have := B64_two; omega
 have : B64 ^ (n - 1) * 1 <= B64 ^ (n - 1) * (v1 + B64 * val B64 (vs.drop (n - 1 + 1))) := Nat.mul_le_mul_left _ (by omega)
 omega
theorem DivV.lt {V n v1 v2 : Nat} {vs : List Nat} (h : DivV V vs n v1 v2) : V < B64 ^ n := by
 have := val_lt _ h.dv; rwa [h.eV, h.ln] at this
theorem DivI.start {V n m k v1 v2 : Nat} {us vs : List Nat} (hv : DivV V vs n v1 v2) (lu : us.length = n + m) (du : Digs B64 us) (hk : k <= m + 1) : DivI (val B64 us) V us [] vs n m k (m + 1) 0 := by
 have hn := hv.n2
 refine ⟨lu, du, by simp; omega, Digs.nil, Nat.le_refl _, by simp, ?_, fun _ => by rw [List.drop_eq_nil_of_le (by omega)]; rfl⟩
 have h1 := val_lt _ (du.drop (m + 1))
 rw [List.length_drop, lu, show n + m - (m + 1) = n - 1 by omega] at h1
 exact Nat.lt_of_lt_of_le h1 hv.ge
theorem DivI.rnd {U V n m k j a v1 v2 : Nat} {us hs vs : List Nat} (hv : DivV V vs n v1 v2) (h : DivI U V us hs vs n m k (j + 1) a) :
  ∃ x1 x2, us[j + n - 1]? = some x1 /\ us[j + n - 2]? = some x2 /\ Rnd n (val B64 (us.drop j)) V a x1 x2 v1 v2 := by
 have hn := hv.n2
 have hl := h.lu
 have hp := h.pm
 obtain ⟨x1, e1⟩ : ∃ x1, us[j + n - 1]? = some x1 := ⟨_, List.getElem?_eq_getElem (by omega)⟩
 obtain ⟨x2, e2⟩ : ∃ x2, us[j + n - 2]? = some x2 := ⟨_, List.getElem?_eq_getElem (by omega)⟩
 obtain ⟨u, eu⟩ : ∃ u, us[j]? = some u := ⟨_, List.getElem?_eq_getElem (by omega)⟩
 refine ⟨x1, x2, e1, e2, ?_⟩
 have hW := next_lt h.lt eu h.du
 obtain ⟨vl, hvl, hV⟩ := two_top hn hv.h1 hv.h2 hv.dv
 rw [hv.eV, List.drop_eq_nil_of_le (by have := hv.ln; omega)] at hV
 simp only [val_nil, Nat.zero_mul, Nat.zero_add] at hV
 obtain ⟨wl, hwl, hWW⟩ := two_top (ws := us.drop j) hn (x1 := x1) (x2 := x2) (by rw [List.getElem?_drop, <- e1]; congr 1; omega) (by rw [List.getElem?_drop, <- e2]; congr 1; omega) (h.du.drop j)
 rw [List.drop_drop, show j + n = j + 1 + n - 1 by omega, h.a0 (by omega)] at hWW
 have e1' : us[j + n - 1]? = some x1 := e1
 obtain ⟨g1, rfl⟩ := List.getElem?_eq_some_iff.1 e1
 obtain ⟨g2, rfl⟩ := List.getElem?_eq_some_iff.1 e2
 obtain ⟨g3, f3⟩ := List.getElem?_eq_some_iff.1 hv.h1
 obtain ⟨g4, f4⟩ := List.getElem?_eq_some_iff.1 hv.h2
 have b1 : v1 < B64 := f3 ▸ hv.dv.get _ g3
 have b2 : v2 < B64 := f4 ▸ hv.dv.get _ g4
 exact ⟨hn, ⟨vl, hvl, hV⟩, ⟨wl, hwl, hWW⟩, hv.top, b1, b2, h.du.get _ g1, h.du.get _ g2, head_le hW hWW hV b2 hvl, hW⟩
theorem DivI.next {U V n m k j a q c v1 v2 : Nat} {us hs vs sec : List Nat} (hv : DivV V vs n v1 v2) (h : DivI U V us hs vs n m k (j + 1) a) (hc : n <= c) (hjc : j + c <= n + m) (hz : val B64 (us.drop (j + c)) = 0) (hl : sec.length = c) (D : Digs B64 sec)
  (hq : val B64 (us.drop j) / V = q) (hR : val B64 sec = val B64 (us.drop j) % V) (hqB : q < B64) (hk : j < k \/ (j = k /\ q = 0)) :
  ∃ hs' a', DivI U V (us.take j ++ sec ++ us.drop (j + c)) hs' vs n m k j a' /\ (j < k -> hs' = q :: hs) /\ (j = k -> hs' = hs) /\ (us.take j ++ sec ++ us.drop (j + c))[j + n - 1]? = some a' := by
 have hn := hv.n2
 have hlu := h.lu
 have hV0 : 0 < V := by have := h.lt; omega
 have hm := Nat.mod_lt (val B64 (us.drop j)) hV0
 have hRn : val B64 (us.drop j) % V < B64 ^ n := Nat.lt_trans hm hv.lt
 obtain ⟨s1, s2, s3, s4⟩ := sec_val (us := us) (sec := sec) (j := j) (n := n) (k := c) (by omega) hl hz hR hRn hc (by omega)
 have dus : Digs B64 (us.take j ++ sec ++ us.drop (j + c)) := ((h.du.take j).append D).append (h.du.drop _)
 obtain ⟨a', ha'⟩ : ∃ a', (us.take j ++ sec ++ us.drop (j + c))[j + n - 1]? = some a' := ⟨_, List.getElem?_eq_getElem (by rw [s1]; omega)⟩
 have ea : val B64 ((us.take j ++ sec ++ us.drop (j + c)).drop (j + n - 1)) = a' := by
  rw [drop_at ha', show j + n - 1 + 1 = j + n by omega, s4]; simp
 have e1 : val B64 us = val B64 (us.take j) + B64 ^ j * val B64 (us.drop j) := Zq us j (by omega)
 have hU := quo_step h.eq e1 s2 hq.symm rfl
 have hp := h.pm
 rcases hk with hk | ⟨hk, hq0⟩
 . refine ⟨q :: hs, a', ⟨by rw [s1]; exact hlu, dus, by simp [h.lh]; omega, Digs.cons hqB h.dh, by omega, by rw [hU]; rfl, by rw [s3]; exact hm, fun _ => ea⟩, fun _ => rfl, fun e => by omega, ha'⟩
 .
  refine ⟨hs, a', ⟨by rw [s1]; exact hlu, dus, by rw [h.lh]; omega, h.dh, by omega, ?_, by rw [s3]; exact hm, fun _ => ea⟩, fun e => by omega, fun _ => rfl, ha'⟩
  have h0 : hs = [] := List.eq_nil_of_length_eq_zero (by rw [h.lh]; omega)
  rw [hU, hq0, h0]
  simp
theorem DivI.end_ {U V n m k a v1 v2 : Nat} {us hs vs : List Nat} (hv : DivV V vs n v1 v2) (h : DivI U V us hs vs n m k 0 a) : val B64 hs = U / V /\ val B64 us = U % V /\ hs.length = k := by
 have h1 := h.eq
 have h2 := h.lt
 rw [List.drop_zero] at h2
 simp only [Nat.pow_zero, Nat.one_mul] at h1
 have hV : 0 < V := by omega
 have a : val B64 hs = U / V := by rw [h1, Nat.mul_comm, Nat.mul_add_div hV, Nat.div_eq_of_lt h2]; rfl
 have b : val B64 us = U % V := by rw [h1, Nat.mul_comm, Nat.mul_add_mod, Nat.mod_eq_of_lt h2]
 exact ⟨a, b, h.lh⟩
theorem Rnd.step {n W V a x1 x2 v1 v2 g r hi lo : Nat} (h : Rnd n W V a x1 x2 v1 v2) (hI : g * v1 + r = a * B64 + x1) (hg : g < B64) (hm : g * v2 = lo + B64 * hi) (hhi : hi < B64) (hlo : lo < B64) (hc : r * B64 + x2 < hi * B64 + lo) :
  ∃ g' r', g = g' + 1 /\ r + v1 = r' /\ W / V <= g' /\ g' * v1 + r' = a * B64 + x1 /\ (B64 <= r' -> g' <= W / V + 1) ∧
   ∃ hi' lo', g' * v2 = lo' + B64 * hi' /\ hi' < B64 /\ lo' < B64 /\ (lo < v2 -> hi = hi' + 1 /\ lo + B64 = lo' + v2) /\ (v2 <= lo -> hi' = hi /\ lo = lo' + v2) := by
 have hd := h.down hI (by rw [hm, Nat.mul_comm B64]; omega)
 have hg0 : 0 < g := Nat.lt_of_le_of_lt (Nat.zero_le _) hd
 obtain ⟨g', rfl⟩ : ∃ g', g = g' + 1 := ⟨g - 1, by omega⟩
 have e1 : (g' + 1) * v1 = g' * v1 + v1 := by rw [Nat.add_mul, Nat.one_mul]
 have e2 : (g' + 1) * v2 = g' * v2 + v2 := by rw [Nat.add_mul, Nat.one_mul]
 have hI' : g' * v1 + (r + v1) = a * B64 + x1 := by omega
 have hv2 := h.v2B
 refine ⟨g', r + v1, rfl, rfl, Nat.le_of_lt_succ hd, hI', fun ho => h.over hI' (by omega) ho, ?_⟩
 rcases Nat.lt_or_ge lo v2 with hl | hl
 .
  have h1 : 1 <= hi := by
   rcases Nat.eq_zero_or_pos hi with h0 | h0
   . subst h0; omega
   . exact h0
  obtain ⟨p, rfl⟩ : ∃ p, hi = p + 1 := ⟨hi - 1, by omega⟩
  rw [Nat.mul_add, Nat.mul_one] at hm
  exact ⟨p, lo + B64 - v2, by omega, by omega, by omega, fun _ => ⟨rfl, by omega⟩, fun h => by omega⟩
 . exact ⟨hi, lo - v2, by omega, hhi, by omega, fun h => by omega, fun _ => ⟨rfl, by omega⟩⟩
theorem Rnd.fine {n W V a x1 x2 v1 v2 g r hi lo : Nat} (h : Rnd n W V a x1 x2 v1 v2) (hI : g * v1 + r = a * B64 + x1) (hg : g < B64) (hm : g * v2 = lo + B64 * hi) (hc : ¬ r * B64 + x2 < hi * B64 + lo) : g <= W / V + 1 :=
 h.stop hI hg (by rw [hm, Nat.mul_comm B64]; omega)
theorem take_all {xs : List Nat} {k : Nat} (h : val B64 xs < B64 ^ k) : val B64 (xs.take k) = val B64 xs := by
 rcases Nat.lt_or_ge xs.length k with h1 | h1
 . rw [List.take_of_length_le (by omega)]
 .
  have e := Zq (b := B64) xs k h1
  rw [drop_zero_of_lt h] at e
  omega
theorem Rnd.wlt {n W V a x1 x2 v1 v2 : Nat} (h : Rnd n W V a x1 x2 v1 v2) (hV : V < B64 ^ n) : W < B64 ^ (n + 1) := by
 have h1 := h.lt
 have h2 : B64 * V < B64 * B64 ^ n := Nat.mul_lt_mul_of_pos_left hV Zy
 rw [Nat.pow_succ, Nat.mul_comm (B64 ^ n)]
 omega
open Go.RowKit
def DivF (q u : Loc) (k L sb ns : Nat) (J : SI) : Nat -> Nat -> Prop := fun b i => Rg q.b q.o (q.o + k) b i \/ Rg u.b u.o (u.o + L) b i \/ J.K sb ns b i
structure BS (w0 : World) (q u v t : Loc) (k L n sb ns n' : Nat) (J J' : SI) : Prop where
 kq : k <= q.c
 lu : L <= u.c
 nt : n + 1 <= t.c
 qu : Zj q u
 qv : Zj q v
 uv : Zj u v
 tq : Zj t q
 tu : Zj t u
 tv : Zj t v
 tj : TJ w0 t sb ns J
 oq : Off J' sb n' q
 ou : Off J' sb n' u
 ov : Off J' sb n' v
 ot : Off J' sb n' t
structure BI (w0 w : World) (q u v t : Loc) (vs : List Nat) (k L n sb ns n' : Nat) (J J' : SI) : Prop where
 okq : q.Ok w
 oku : u.Ok w
 okt : t.Ok w
 vv : VecV w v vs
 ln : vs.length = n
 stk : StkV w sb n' J'
 le : SI.Le w0 sb J J'
 nn : ns <= n'
 upd : Upd (DivF q u k L sb ns J) w0 w
section
variable {w0 w w' : World} {q u v t : Loc} {vs : List Nat} {k L n sb ns n' lo hi : Nat} {J J' : SI}
theorem Zj.rg {x y : Loc} {len : Nat} (h : Zj x y) (hl : len <= y.c) (hhi : hi <= x.o + x.c) (hlo : x.o <= lo) : len = 0 \/ lo >= hi \/ y.b ≠ x.b \/ y.o + len <= lo \/ hi <= y.o := by
 unfold Zj at h; omega
theorem U64.apart {x y : Loc} {xs : List Nat} (h : U64 w y.b y.o xs) (ha : Zj x y) (hl : xs.length <= y.c) (hhi : hi <= x.o + x.c) (hlo : x.o <= lo) (U : Upd (Rg x.b lo hi) w w') : U64 w' y.b y.o xs :=
 h.upd U (fun i hi' ⟨e, h1, h2⟩ => by
  have := ha.rg (lo := lo) (hi := hi) hl hhi hlo
  omega)
theorem VecV.apart {x y : Loc} {xs : List Nat} (h : VecV w y xs) (ha : Zj x y) (hhi : hi <= x.o + x.c) (hlo : x.o <= lo) (U : Upd (Rg x.b lo hi) w w') : VecV w' y xs :=
 ⟨h.ok.upd U, h.le, h.at_.apart ha h.le hhi hlo U, h.dig⟩
theorem StkV.off {x : Loc} {n' : Nat} (h : StkV w sb n' J') (ho : Off J' sb n' x) (hhi : hi <= x.o + x.c) (hlo : x.o <= lo) (U : Upd (Rg x.b lo hi) w w') : StkV w' sb n' J' :=
 h.upd U (fun b i ⟨h1, h2, h3⟩ hk => by
  subst h1
  obtain ⟨j, rfl⟩ : ∃ j, i = x.o + j := ⟨i - x.o, by omega⟩
  exact ho j (by omega) hk)
theorem BI.put_t (S : BS w0 q u v t k L n sb ns n' J J') (I : BI w0 w q u v t vs k L n sb ns n' J J') (hlo : t.o <= lo) (hhi : hi <= t.o + (n + 1)) (U : Upd (Rg t.b lo hi) w w') : BI w0 w' q u v t vs k L n sb ns n' J J' := by
 have h1 := S.nt
 exact ⟨I.okq.upd U, I.oku.upd U, I.okt.upd U, I.vv.apart S.tv (by omega) hlo U, I.ln, I.stk.off S.ot (by omega) hlo U, I.le, I.nn, I.upd.then U (fun _ _ _ h => h) (fun b i hb ⟨e, g1, g2⟩ => by
  subst e
  have := S.tj (i - t.o) (by omega)
  rw [show t.o + (i - t.o) = i by omega] at this
  rcases this with h | h
  . exact Or.inr (Or.inr h)
  . omega)⟩
theorem BI.put_u (S : BS w0 q u v t k L n sb ns n' J J') (I : BI w0 w q u v t vs k L n sb ns n' J J') (hlo : u.o <= lo) (hhi : hi <= u.o + L) (U : Upd (Rg u.b lo hi) w w') : BI w0 w' q u v t vs k L n sb ns n' J J' := by
 have h1 := S.lu
 exact ⟨I.okq.upd U, I.oku.upd U, I.okt.upd U, I.vv.apart S.uv (by omega) hlo U, I.ln, I.stk.off S.ou (by omega) hlo U, I.le, I.nn, I.upd.then U (fun _ _ _ h => h) (fun b i hb ⟨e, g1, g2⟩ => Or.inr (Or.inl ⟨e, by omega, by omega⟩))⟩
theorem BI.put_q (S : BS w0 q u v t k L n sb ns n' J J') (I : BI w0 w q u v t vs k L n sb ns n' J J') (hlo : q.o <= lo) (hhi : hi <= q.o + k) (U : Upd (Rg q.b lo hi) w w') : BI w0 w' q u v t vs k L n sb ns n' J J' := by
 have h1 := S.kq
 exact ⟨I.okq.upd U, I.oku.upd U, I.okt.upd U, I.vv.apart S.qv (by omega) hlo U, I.ln, I.stk.off S.oq (by omega) hlo U, I.le, I.nn, I.upd.then U (fun _ _ _ h => h) (fun b i hb ⟨e, g1, g2⟩ => Or.inl ⟨e, by omega, by omega⟩)⟩
theorem BI.draw (I : BI w0 w q u v t vs k L n sb ns n' J J') (U : Upd NoF w w') : BI w0 w' q u v t vs k L n sb ns n' J J' :=
 ⟨I.okq.upd U, I.oku.upd U, I.okt.upd U, I.vv.upd0 U, I.ln, I.stk.upd0 U, I.le, I.nn, I.upd.trans (U.mono (fun _ _ _ h => h.elim))⟩
end
def DivPost (w : World) (q u : Loc) (k L U V sb ns : Nat) (J : SI) (e : Ending) (w' : World) : Prop :=
 ∃ (rs us : List Nat) (J' : SI), e = .returned (.tuple #[]) /\ rs.length = k /\ U64 w' q.b q.o rs /\ Digs B64 rs /\ val B64 rs = U / V /\ us.length = L /\ U64 w' u.b u.o us /\ Digs B64 us /\ val B64 us = U % V ∧
  Upd (DivF q u k L sb ns J) w w' /\ StkV w' sb ns J' /\ SI.Le w sb J J'
theorem U64.offK {w w' : World} {x : Loc} {xs : List Nat} {J : SI} {sb n : Nat} (h : U64 w x.b x.o xs) (ho : Off J sb n x) (hl : xs.length <= x.c) (u : Upd (J.K sb n) w w') : U64 w' x.b x.o xs :=
 h.upd u (fun i hi hk => ho i (by omega) hk)
theorem basic_end {w0 wr w7 : World} {q u v t : Loc} {us hs vs : List Nat} {k n m sb ns n' U V a v1 v2 : Nat} {J J3 : SI} (S : BS w0 q u v t k (n + m) n sb ns n' J J3) (I : BI w0 wr q u v t vs k (n + m) n sb ns n' J J3)
  (hU : U64 wr u.b u.o us) (hQ : U64 wr q.b q.o hs) (DV : DivV V vs n v1 v2) (h : DivI U V us hs vs n m k 0 a) (hS7 : StkV w7 sb ns J3) (hU7 : Upd (J3.K sb n') wr w7) : DivPost w0 q u k (n + m) U V sb ns J (.returned (.tuple #[])) w7 := by
 obtain ⟨e1, e2, e3⟩ := h.end_ DV
 have h1 := S.kq
 have h2 := S.lu
 exact ⟨hs, us, J3, rfl, e3, hQ.offK S.oq (by omega) hU7, h.dh, e1, h.lu, hU.offK S.ou (by rw [h.lu]; exact h2) hU7, h.du, e2,
  I.upd.then hU7 (fun _ _ _ h => h) (fun b i hb h => Or.inr (Or.inr (I.le _ _ _ hb (h.mono I.nn)))), hS7, I.le⟩
theorem U64.mid {w w' : World} {b o j c : Nat} {xs rs : List Nat} (h : U64 w b o xs) (u : Upd (Rg b (o + j) (o + j + c)) w w') (hr : U64 w' b (o + j) rs) (hl : rs.length = c) (hj : j + c <= xs.length) : U64 w' b o (xs.take j ++ rs ++ xs.drop (j + c)) := by
 have e1 : (xs.take j).length = j := by rw [List.length_take]; omega
 refine U64.append (U64.append ((h.take j).updR u (by rw [e1]; omega)) (by rw [e1]; exact hr)) ?_
 rw [List.length_append, e1, hl, <- Nat.add_assoc]
 have := (h.drop (j + c)).updR u (by omega)
 rwa [<- Nat.add_assoc] at this
structure SecP (w0 wf : World) (q u v t : Loc) (us hs vs sec : List Nat) (k L n sb ns n' j c Q V : Nat) (J J' : SI) : Prop where
 bi : BI w0 wf q u v t vs k L n sb ns n' J J'
 uu : U64 wf u.b u.o (us.take j ++ sec ++ us.drop (j + c))
 hh : U64 wf q.b (q.o + (j + 1)) hs
 ls : sec.length = c
 ds : Digs B64 sec
 vs_ : val B64 sec = val B64 (us.drop j) % V
 qq : val B64 (us.drop j) / V = Q
theorem SecP.of {w0 w3 wf : World} {q u v t : Loc} {us hs vs sec : List Nat} {k L n sb ns n' j c Q V : Nat} {J J' : SI} (S : BS w0 q u v t k L n sb ns n' J J') (I : BI w0 w3 q u v t vs k L n sb ns n' J J') (hU : U64 w3 u.b u.o us) (lu : us.length = L) (hH : U64 w3 q.b (q.o + (j + 1)) hs)
  (lh : hs = [] \/ j + 1 + hs.length <= k) (hjc : j + c <= L) (U : Upd (Rg u.b (u.o + j) (u.o + j + c)) w3 wf) (hR : U64 wf u.b (u.o + j) sec) (ls : sec.length = c) (ds : Digs B64 sec) (hv : val B64 sec = val B64 (us.drop j) % V) (hq : val B64 (us.drop j) / V = Q) :
  SecP w0 wf q u v t us hs vs sec k L n sb ns n' j c Q V J J' := by
 have h1 := S.lu
 have h2 := S.kq
 refine ⟨I.put_u S (by omega) (by omega) U, hU.mid U hR ls (by omega), ?_, ls, ds, hv, hq⟩
 rcases lh with rfl | lh
 . exact U64.nil _ _ _
 .
  refine hH.upd U (fun i hi ⟨e, g1, g2⟩ => ?_)
  have := S.qu
  unfold Zj at this
  omega
theorem prod_put {w0 w w2 : World} {q u v t : Loc} {us hs vs rs : List Nat} {k L n sb ns n' j c g V : Nat} {J J' : SI} (S : BS w0 q u v t k L n sb ns n' J J') (I : BI w0 w q u v t vs k L n sb ns n' J J') (hU : U64 w u.b u.o us) (lu : us.length = L) (hH : U64 w q.b (q.o + (j + 1)) hs) (lh : hs = [] \/ j + 1 + hs.length <= k)
  (U : Upd (Rg t.b t.o (t.o + n)) w w2) (hR : U64 w2 t.b t.o rs) (hl : rs.length = n) (hD : Digs B64 rs) (hv : val B64 vs * g + 0 = val B64 rs + c * B64 ^ n) (hc : c < B64) (eV : val B64 vs = V) :
  BI w0 (w2.setCell ⟨t.b, t.o + n, none⟩ (.int .u64 (c : Int))) q u v t vs k L n sb ns n' J J' /\ U64 (w2.setCell ⟨t.b, t.o + n, none⟩ (.int .u64 (c : Int))) u.b u.o us /\ U64 (w2.setCell ⟨t.b, t.o + n, none⟩ (.int .u64 (c : Int))) q.b (q.o + (j + 1)) hs ∧
   U64 (w2.setCell ⟨t.b, t.o + n, none⟩ (.int .u64 (c : Int))) t.b t.o (rs ++ [c]) /\ (rs ++ [c]).length = n + 1 /\ Digs B64 (rs ++ [c]) /\ val B64 (rs ++ [c]) = g * V /\ (w2.setCell ⟨t.b, t.o + n, none⟩ (.int .u64 (c : Int))).cell? ⟨t.b, t.o + n, none⟩ = some (.int .u64 (c : Int)) := by
 have h1 := S.lu
 have h2 := S.kq
 have h3 := S.nt
 have U2 : Upd (Rg t.b t.o (t.o + (n + 1))) w (w2.setCell ⟨t.b, t.o + n, none⟩ (.int .u64 (c : Int))) :=
  (U.mono (fun _ _ _ ⟨e, g1, g2⟩ => ⟨e, g1, by omega⟩)).setCell (fun _ => ⟨rfl, by omega, by omega⟩) _
 obtain ⟨x, hx⟩ := (I.okt.upd U).live n (by omega)
 refine ⟨I.put_t S (Nat.le_refl _) (Nat.le_refl _) U2, hU.apart S.tu (by omega) (by omega) (Nat.le_refl _) U2, ?_, ?_, by simp [hl], hD.snoc hc, ?_, (hx.set _).cell⟩
 .
  rcases lh with rfl | lh
  . exact U64.nil _ _ _
  .
   refine hH.upd U2 (fun i hi ⟨e, g1, g2⟩ => ?_)
   have := S.tq
   unfold Zj at this
   omega
 .
  refine (hR.far _ (by omega)).snoc ?_
  rw [hl]
  exact hx.set _
 .
  rw [Yi, hl, <- eV]
  rw [Nat.mul_comm g, Nat.mul_comm (B64 ^ n)]; omega
theorem SecP.store {w0 wf : World} {q u v t : Loc} {us hs vs sec : List Nat} {k L n sb ns n' j c Q V : Nat} {J J' : SI} (S : BS w0 q u v t k L n sb ns n' J J') (h : SecP w0 wf q u v t us hs vs sec k L n sb ns n' j c Q V J J') (hjk : j < k) (lh : hs = [] \/ j + 1 + hs.length <= k)
  (hl : (us.take j ++ sec ++ us.drop (j + c)).length <= L) :
  BI w0 (wf.setCell ⟨q.b, q.o + j, none⟩ (.int .u64 (Q : Int))) q u v t vs k L n sb ns n' J J' /\ U64 (wf.setCell ⟨q.b, q.o + j, none⟩ (.int .u64 (Q : Int))) u.b u.o (us.take j ++ sec ++ us.drop (j + c)) /\ U64 (wf.setCell ⟨q.b, q.o + j, none⟩ (.int .u64 (Q : Int))) q.b (q.o + j) (Q :: hs) := by
 have h1 := S.lu
 have h2 := S.kq
 have U : Upd (Rg q.b (q.o + j) (q.o + j + 1)) wf (wf.setCell ⟨q.b, q.o + j, none⟩ (.int .u64 (Q : Int))) := (Upd.refl _ wf).setCell (fun _ => ⟨rfl, by omega, by omega⟩) _
 obtain ⟨x, hx⟩ := h.bi.okq.live j (by omega)
 refine ⟨h.bi.put_q S (by omega) (by omega) U, h.uu.apart S.qu (by omega) (by omega) (by omega) U, U64.cons (hx.set _) ?_⟩
 rw [Nat.add_assoc]
 rcases lh with rfl | lh
 . exact U64.nil _ _ _
 . exact h.hh.far _ (by omega)
theorem mulWW_ex (x y : Nat) (hx : x < B64) (hy : y < B64) : ∃ hi lo : Nat, (∀ w, Calls Tryz.prog 101 #[.int .u64 (x : Int), .int .u64 (y : Int)] w fun e w' =>
  e = .returned (.tuple #[.int .u64 (hi : Int), .int .u64 (lo : Int)]) /\ w' = w) /\ hi < B64 /\ lo < B64 /\ x * y = lo + B64 * hi := by
 obtain ⟨hi, lo, hM, h1, h2, h3⟩ := Mul_ex x y hx hy
 refine ⟨hi, lo, fun w => ?_, by rw [Zs]; omega, h2, h3⟩
 have HM := Qq hM
 clear h3 hM
 go_enter Tryz.func101, Tryz.ntmps101
 go_wp2_with (go_at_call 122; refine (HM.out _).mono ?_; rintro e w' ⟨rfl, rfl⟩)
 go_ret2
 exact ⟨rfl, rfl⟩
theorem greaterThan_any (x1 x2 y1 y2 : Nat) (w : World) (hx : x2 < B64) (hy : y2 < B64) :
  Calls Tryz.prog 127 #[.int .u64 (x1 : Int), .int .u64 (x2 : Int), .int .u64 (y1 : Int), .int .u64 (y2 : Int)] w fun e w' => e = .returned (.bool (decide (y1 * B64 + y2 < x1 * B64 + x2))) /\ w' = w := by
 have key : decide (y1 * B64 + y2 < x1 * B64 + x2) = (decide (y1 < x1) || (decide (x1 = y1) && decide (y2 < x2))) := by
  by_cases h : y1 < x1
  .
   have : (y1 + 1) * B64 <= x1 * B64 := Nat.mul_le_mul_right _ h
   rw [Nat.add_mul] at this
   rw [decide_eq_true h, decide_eq_true (by omega), Bool.true_or]
  .
   by_cases h2 : x1 = y1
   .
    subst h2
    rw [decide_eq_false h, decide_eq_true rfl, Bool.false_or, Bool.true_and]
    exact decide_eq_decide.2 (by omega)
   .
    have : (x1 + 1) * B64 <= y1 * B64 := Nat.mul_le_mul_right _ (by omega)
    rw [Nat.add_mul] at this
    rw [decide_eq_false h, decide_eq_false h2, decide_eq_false (by omega)]; rfl
 rw [key]
 clear key
 by_cases h : y1 < x1
 .
  have q1 : decide (y1 < x1) = true := decide_eq_true h
  have q2 : (y1 : Int) < (x1 : Int) := by omega
  rw [q1, Bool.true_or]
  go_enter Tryz.func127, Tryz.ntmps127
  go_wp2
  go_ret
  exact ⟨rfl, rfl⟩
 .
  have q1 : decide (y1 < x1) = false := decide_eq_false h
  have q2 : ¬ (y1 : Int) < (x1 : Int) := by omega
  rw [q1, Bool.false_or]
  by_cases h2 : x1 = y1
  .
   subst h2
   rw [decide_eq_true rfl, Bool.true_and]
   by_cases h3 : y2 < x2
   .
    have q3 : decide (y2 < x2) = true := decide_eq_true h3
    have q4 : (y2 : Int) < (x2 : Int) := by omega
    rw [q3]
    go_enter Tryz.func127, Tryz.ntmps127
    go_wp2
    go_ret
    exact ⟨rfl, rfl⟩
   .
    have q3 : decide (y2 < x2) = false := decide_eq_false h3
    have q4 : ¬ (y2 : Int) < (x2 : Int) := by omega
    rw [q3]
    go_enter Tryz.func127, Tryz.ntmps127
    go_wp2
    go_ret
    exact ⟨rfl, rfl⟩
  .
   have q3 : ((x1 : Int) == (y1 : Int)) = false := beq_eq_false_iff_ne.2 (by omega)
   have q4 : decide (x1 = y1) = false := decide_eq_false h2
   rw [q4, Bool.false_and]
   go_enter Tryz.func127, Tryz.ntmps127
   go_wp2
   go_ret
   exact ⟨rfl, rfl⟩
theorem basic_setup {w w1 : World} {q u v t : Loc} {us vs : List Nat} {k n m sb ns n' : Nat} {J J3 : SI} (hq : q.Ok w) (hu : VecV w u us) (hv : VecV w v vs) (lu : us.length = n + m) (lv : vs.length = n) (hkq : k <= q.c) (qu : Zj q u) (qv : Zj q v) (uv : Zj u v)
  (oq : Off J sb ns q) (ou : Off J sb ns u) (ov : Off J sb ns v) (h1 : n + 1 <= t.c) (h2 : t.Ok w1) (h3 : (∀ i, i < t.c -> J.K sb ns t.b (t.o + i)) \/ w.heap.size <= t.b) (h4 : ∀ i, i < t.c -> ¬ J3.K sb n' t.b (t.o + i))
  (hS : StkV w1 sb n' J3) (hn : ns <= n') (hle : SI.Le w sb J J3) (U : Upd (J.K sb ns) w w1) :
  BS w q u v t k (n + m) n sb ns n' J J3 /\ BI w w1 q u v t vs k (n + m) n sb ns n' J J3 /\ U64 w1 u.b u.o us := by
 have tj : TJ w t sb ns J := fun i hi => h3.imp (fun h => h i hi) id
 have bq : 0 < q.c -> q.b < w.heap.size := fun h => hq.lt h
 have bu : 0 < u.c -> u.b < w.heap.size := fun h => hu.ok.lt h
 have bv : 0 < v.c -> v.b < w.heap.size := fun h => hv.ok.lt h
 have lule := hu.le
 have kk : ∀ {l : Loc} {xs : List Nat}, VecV w l xs -> Off J sb ns l -> VecV w1 l xs := fun {l xs} h o => h.upd U (fun i hi hk => o i (Nat.lt_of_lt_of_le hi h.le) hk)
 refine ⟨⟨hkq, by omega, h1, qu, qv, uv, tj.apart oq bq, tj.apart ou bu, tj.apart ov bv, tj, oq.old bq hle hn, ou.old bu hle hn, ov.old bv hle hn, h4⟩,
  ⟨hq.upd U, hu.ok.upd U, h2, kk hv ov, lv, hS, hle, hn, U.mono (fun _ _ _ h => Or.inr (Or.inr h))⟩, (kk hu ou).at_⟩
theorem divBasic_any (q u v : Loc) (lq n m k sb ns V v1 v2 : Nat) (J : SI) (us vs : List Nat) (w : World) (hq : q.Ok w) (hu : VecV w u us) (hv : VecV w v vs) (DV : DivV V vs n v1 v2) (lu : us.length = n + m)
  (hk : k = m + 1 /\ m < lq \/ k = m /\ lq = m /\ val B64 us < B64 ^ m * V) (hlq : lq <= q.c) (h0 : 0 < lq) (qu : Zj q u) (qv : Zj q v) (uv : Zj u v) (hS : StkV w sb ns J)
  (oq : Off J sb ns q) (ou : Off J sb ns u) (ov : Off J sb ns v) (hb : ns + n + 8 <= 1099511627776) (hm : n + m <= 1099511627776) :
  Calls Tryz.prog 107 #[.slice q.A lq q.c, .pointer (some ⟨sb, 0, none⟩), .slice u.A (n + m : Nat) u.c, .slice v.A n v.c] w (DivPost w q u k (n + m) (val B64 us) V sb ns J) := by
 have hn2 := DV.n2
 have eqA := (hq.2 (by omega)).1
 have euA := hu.addr (by omega)
 have evA := hv.addr (by have := DV.ln; omega)
 obtain ⟨qA, qc, qb, qo⟩ := q
 obtain ⟨uA, uc, ub, uo⟩ := u
 obtain ⟨vA, vc, vb, vo⟩ := v
 simp only at eqA euA evA hlq
 subst eqA; subst euA; subst evA
 have HS0 := Qq (fun (w1 : World) (t : Loc) (n' : Nat) (J3 : SI) => basic_setup (w1 := w1) (t := t) (n' := n') (J3 := J3) (k := k) hq hu hv lu DV.ln (by simp only; omega) qu qv uv oq ou ov)
 have HSv := Qq (save_any sb ns J w hS)
 have HN0 := stk_nat_any sb ns (n + 1) J w hS (by omega) (by omega)
 have HN := Qq HN0
 have HD := Qq (Qj DV (Qj hk (Qj lu hu.dig)))
 clear HN0 hS oq ou ov qu qv uv hk lu hq hu hv DV
 obtain ⟨n1, hn1⟩ : ∃ n1, n1 + 1 = n := ⟨n - 1, by omega⟩
 obtain ⟨n2, hn2'⟩ : ∃ n2, n2 + 2 = n := ⟨n - 2, by omega⟩
 have f2 : (n : Int) + (m : Int) - (n : Int) = (m : Int) := by omega
 have f4 : (n : Int) - 1 = (n1 : Int) := by omega
 have f5 : (n : Int) - 2 = (n2 : Int) := by omega
 have hln := HD.out.1.ln
 have cn1 : vs[n1]? = some v1 := by rw [<- HD.out.1.h1]; congr 1; omega
 have cn2 : vs[n2]? = some v2 := by rw [<- HD.out.1.h2]; congr 1; omega
 have b1 : n1 < 1099511627776 := by omega
 have b2 : n2 < 1099511627776 := by omega
 have b3 : n < 1099511627776 := by omega
 have b4 : m < 1099511627776 := by omega
 have i1 : (n1 : Int) < (n : Int) := by omega
 have i2 : (n2 : Int) < (n : Int) := by omega
 have HNN := Qq (Qj hn1 (Qj hn2' (Qj hn2 (Qj hb (Qj hm (Qj h0 (Qj hlq (Qj cn1 cn2))))))))
 clear hn1 hn2' hn2 hb hm h0 hlq hln cn1 cn2
 go_enter_defers Tryz.func107, Tryz.ntmps107
 go_wp2_with fail
 refine HSv.out.mono ?_
 rintro e w0 ⟨rfl, rfl⟩
 go_wp2_with fail
 refine HN.out.mono ?_
 rintro e w1 ⟨t, J3, n', rfl, a1, a2, a3, a4, a5, a6, a7, a8, a9⟩
 have HB := Qq (HS0.out w1 t n' J3 a1 a2 a3 a4 a5 a6 a8 a9)
 have HT := Qq (Qj a1 a2)
 have et := (a2.2 (by have := HNN.out.1; omega)).1
 obtain ⟨tA, tc, tb, tq⟩ := t
 simp only at et a1
 subst et
 have b6 : n < tc := by omega
 clear a1 a2 a3 a4 a5 a6 a7 a8 a9 HS0 HSv HN
 have hcv : ∀ wr, U64 wr vb vo vs -> wr.cell? ⟨vb, vo + n1, none⟩ = some (.int .u64 (v1 : Int)) /\ wr.cell? ⟨vb, vo + n2, none⟩ = some (.int .u64 (v2 : Int)) := fun wr h => by
  obtain ⟨g1, e1⟩ := List.getElem?_eq_some_iff.1 HNN.out.2.2.2.2.2.2.2.1
  obtain ⟨g2, e2⟩ := List.getElem?_eq_some_iff.1 HNN.out.2.2.2.2.2.2.2.2
  have h1 := h.cell n1 g1
  have h2 := h.cell n2 g2
  rw [e1] at h1
  rw [e2] at h2
  exact ⟨h1, h2⟩
 have HCV := Qq hcv
 have cv1 := (hcv w1 HB.out.2.1.vv.at_).1
 clear hcv
 go_wp2_with fail
 have hv1 : v1 < B64 := (Digs.at_ HD.out.1.dv HNN.out.2.2.2.2.2.2.2.1)
 have hv10 : v1 ≠ 0 := by have := HD.out.1.top; have := B64_two; omega
 refine (recip_any v1 _ w1 hv10 hv1 rfl).mono ?_
 rintro e w2 ⟨rfl, hDr⟩
 have hI0 := HB.out.2.1.draw hDr.upd
 have hU0 := HB.out.2.2.upd hDr.upd (fun _ _ h => h)
 have HI0 := Qq (Qj hI0 hU0)
 have HW0 := Qq (fun (a x0 : Nat) (w : World) (ha : a < v1) (hx : x0 < B64) => divWW_any a x0 v1 w ha hv1 hx)
 obtain ⟨R, hR⟩ : ∃ R, recW (v1 * 2 ^ nlzN v1) = R := ⟨_, rfl⟩
 rw [hR] at HW0 ⊢
 obtain ⟨U, hUU⟩ : ∃ U, val B64 us = U := ⟨_, rfl⟩
 have HST := Qq (DivI.start HD.out.1 HD.out.2.2.1 HD.out.2.2.2 (show k <= m + 1 by have := HD.out.2.1; omega))
 rw [hUU] at HST ⊢
 have HUU := Qq hUU
 have HV1 := Qq (Qj hv1 hv10)
 clear cv1 hDr hI0 hU0 hR hUU hv1 hv10
 go_wp2_with fail
 go_loopg [13, 14] (m + 1) (fun p s13 s14 wr => ∃ (us' hs : List Nat) (a : Nat) (jj : Int), s13 = .int .u64 (a : Int) /\ s14 = .int .i64 jj /\ jj + 1 = (p : Int) /\ p <= m + 1 /\ Hid (BI w0 wr ⟨some ⟨qb, qo, none⟩, qc, qb, qo⟩ ⟨some ⟨ub, uo, none⟩, uc, ub, uo⟩ ⟨some ⟨vb, vo, none⟩, vc, vb, vo⟩ ⟨some ⟨tb, tq, none⟩, tc, tb, tq⟩ vs k (n + m) n sb ns n' J J3) ∧
  Hid (U64 wr ub uo us') /\ Hid (U64 wr qb (qo + p) hs) /\ Hid (DivI U V us' hs vs n m k p a))
 case atStart => exact ⟨us, [], 0, (m : Int), rfl, rfl, by omega, Nat.le_refl _, HI0.out.1, HI0.out.2, U64.nil _ _ _, HST.out⟩
 case round =>
  obtain ⟨us', hs, a, jj, rfl, rfl, hjj, hpm, HI, HU, HQ, HV⟩ := hrel
  rcases Nat.eq_zero_or_pos gk with hg0 | hg0
  .
   subst hg0
   have hj1 : jj = -1 := by omega
   subst hj1
   clear HST HI0
   go_wp2_with fail
   refine leaves_cons (f := 96) (args := #[.pointer (some ⟨sb, 0, none⟩), .int .i64 (ns : Int)]) (by simp) (by simp [go_sem]) ?_
   refine (restore_d sb n' ns J3 .returning wr HI.out.stk HI.out.nn).mono ?_
   rintro e u' w7 ⟨rfl, rfl, hS7, hU7⟩
   refine ⟨_, results_none rfl _ _ _, ?_⟩
   rw [HUU.out]
   exact basic_end HB.out.1 HI.out HU.out HQ.out HD.out.1 HV.out hS7 hU7
  .
   obtain ⟨j, rfl⟩ : ∃ j, gk = j + 1 := ⟨gk - 1, by omega⟩
   clear hg0
   obtain rfl : jj = (j : Int) := by omega
   have hjm : j <= m := by omega
   obtain ⟨x1, x2, ex1, ex2, hr⟩ := HV.out.rnd HD.out.1
   have HR := Qq hr
   have cx1 : wr.cell? ⟨ub, uo + (j + n1), none⟩ = some (.int .u64 (x1 : Int)) := by
    obtain ⟨g1, e1⟩ := List.getElem?_eq_some_iff.1 ex1
    have := HU.out.cell _ g1
    rw [e1, show j + n - 1 = j + n1 by have := HNN.out.1; omega] at this
    exact this
   have cx2 : wr.cell? ⟨ub, uo + (j + n2), none⟩ = some (.int .u64 (x2 : Int)) := by
    obtain ⟨g1, e1⟩ := List.getElem?_eq_some_iff.1 ex2
    have := HU.out.cell _ g1
    rw [e1, show j + n - 2 = j + n2 by have := HNN.out.2.1; omega] at this
    exact this
   obtain ⟨cv1, cv2⟩ := HCV.out wr HI.out.vv.at_
   have k1 : (j : Int) + (n : Int) - 1 = (j : Int) + (n1 : Int) := by have := HNN.out.1; omega
   have k2 : (j : Int) + (n : Int) - 2 = (j : Int) + (n2 : Int) := by have := HNN.out.2.1; omega
   have k3 : ((j : Int) + (n1 : Int)).toNat = j + n1 := by omega
   have k4 : ((j : Int) + (n2 : Int)).toNat = j + n2 := by omega
   have k5 : (j : Int) + (n1 : Int) < (n : Int) + (m : Int) := by have := HNN.out.1; omega
   have k6 : (j : Int) + (n2 : Int) < (n : Int) + (m : Int) := by have := HNN.out.2.1; omega
   have k7 : (0 : Int) <= (j : Int) + (n1 : Int) := by omega
   have k8 : (0 : Int) <= (j : Int) + (n2 : Int) := by omega
   have HE := Qq (Qj ex1 ex2)
   have b5 : j < 1099511627776 := by omega
   clear ex1 ex2 hr HI0 HST hjj hpm
   go_upto_if 51 with fail
   go_cut [15] from 45 to 200 (fun s15 wx => ∃ g : Nat, s15 = .int .u64 (g : Int) /\ wx = wr /\ Hid (val B64 (us'.drop j) / V <= g /\ g <= val B64 (us'.drop j) / V + 1 /\ g < B64 /\ (a = 0 -> g <= 1)))
   case first =>
    by_cases hav : a = v1
    .
     have q1 : ((a : Int) != (v1 : Int)) = false := by subst hav; simp
     have hq : Hid (val B64 (us'.drop j) / V <= B64 - 1 /\ B64 - 1 <= val B64 (us'.drop j) / V + 1 /\ B64 - 1 < B64 /\ (a = 0 -> B64 - 1 <= 1)) := by
      have h := HR.out
      rw [hav] at h
      exact ⟨h.same.1, h.same.2, by decide, fun h0 => absurd (hav ▸ h0) HV1.out.2⟩
     clear hav
     go_wp2_with fail
     go_meet
     case rel => exact ⟨B64 - 1, rfl, rfl, hq⟩
    .
     have q1 : ((a : Int) != (v1 : Int)) = true := by simpa using fun h => hav (by omega)
     have haB := HR.out.aB
     have hx1B := HR.out.x1B
     have hx2B := HR.out.x2B
     have hv2B := HR.out.v2B
     have hvB := HV1.out.1
     have HA := Qq (HW0.out a x1 wr (by omega) hx1B)
     have hdm := Nat.div_add_mod (a * B64 + x1) v1
     have hmlt := Nat.mod_lt (a * B64 + x1) (show 0 < v1 by omega)
     have hq0 := HR.out.start
     have hqlt : (a * B64 + x1) / v1 < B64 := by
      rw [Nat.div_lt_iff_lt_mul (by omega)]
      have : (a + 1) * B64 <= v1 * B64 := Nat.mul_le_mul_right _ (by omega)
      rw [Nat.add_mul] at this
      rw [Nat.mul_comm B64]; omega
     obtain ⟨t1, ht1⟩ : ∃ t1, (a * B64 + x1) / v1 = t1 := ⟨_, rfl⟩
     obtain ⟨t2, ht2⟩ : ∃ t2, (a * B64 + x1) % v1 = t2 := ⟨_, rfl⟩
     rw [ht1, ht2] at HA hdm
     rw [ht1] at hq0 hqlt
     rw [ht2] at hmlt
     obtain ⟨hi, lo, hM, hhi, hlo, hml⟩ := mulWW_ex t1 v2 hqlt hv2B
     have HM := Qq (hM wr)
     have HX := Qq (show t1 * v1 + t2 = a * B64 + x1 /\ val B64 (us'.drop j) / V <= t1 /\ t1 < B64 /\ t2 < B64 /\ t1 * v2 = lo + B64 * hi /\ hi < B64 /\ lo < B64 from ⟨by rw [<- hdm, Nat.mul_comm], hq0, hqlt, by omega, hml, hhi, hlo⟩)
     have HY := Qq (Qj haB (Qj hx1B (Qj hx2B (Qj hv2B hvB))))
     clear ht1 ht2 hM hhi hlo hml hqlt hdm hmlt hq0 haB hx1B hx2B hv2B hvB hav
     go_wp2_with fail
     refine HA.out.mono ?_
     rintro e wx ⟨rfl, hwx⟩
     cases hwx.symm
     go_wp2_with fail
     refine HM.out.mono ?_
     rintro e wx ⟨rfl, hwx⟩
     cases hwx.symm
     go_wp2_with fail
     go_loop [15, 16, 18, 19] (fun a1 a2 a3 a4 => ∃ g r hi lo : Nat, a1 = .int .u64 (g : Int) /\ a2 = .int .u64 (r : Int) /\ a3 = .int .u64 (hi : Int) /\ a4 = .int .u64 (lo : Int) ∧
      Hid (g * v1 + r = a * B64 + x1 /\ val B64 (us'.drop j) / V <= g /\ g < B64 /\ r < B64 /\ g * v2 = lo + B64 * hi /\ hi < B64 /\ lo < B64)) (fun a1 _ _ _ => (intOf a1).toNat)
     case atStart => exact ⟨t1, t2, hi, lo, rfl, rfl, rfl, rfl, HX.out⟩
     case round =>
      obtain ⟨g, r, hi, lo, rfl, rfl, rfl, rfl, HG⟩ := hrel
      have hG := HG.out
      have HC := Qq (greaterThan_any hi lo r x2 wr hG.2.2.2.2.2.2 HY.out.2.2.1)
      by_cases hc : r * B64 + x2 < hi * B64 + lo
      .
       rw [decide_eq_true hc] at HC
       obtain ⟨g', r', eg, er, s1, s2, s3, hi', lo', s4, s5, s6, s7, s8⟩ := HR.out.step hG.1 hG.2.2.1 hG.2.2.2.2.1 hG.2.2.2.2.2.1 hG.2.2.2.2.2.2 hc
       have hgB := hG.2.2.1
       have hrB := hG.2.2.2.1
       have hloB := hG.2.2.2.2.2.2
       have hvB := HY.out.2.2.2.2
       have hv2B := HY.out.2.2.2.1
       rw [Zs] at hgB hrB hvB hloB hv2B
       have q4 : IntKind.u64.wrap ((g : Int) - 1) = (g' : Int) := by rw [IntKind.wrap_u64]; omega
       clear hG hc
       by_cases ho : 18446744073709551616 <= r'
       .
        obtain ⟨r2, hr2⟩ : ∃ r2, r' = r2 + 18446744073709551616 := ⟨r' - 18446744073709551616, by omega⟩
        have q5 : IntKind.u64.wrap ((r : Int) + (v1 : Int)) = (r2 : Int) := by rw [IntKind.wrap_u64]; omega
        have q6 : (r2 : Int) < (v1 : Int) := by omega
        have q7 : decide (r2 < v1) = true := decide_eq_true (by omega)
        have hq : Hid (val B64 (us'.drop j) / V <= g' /\ g' <= val B64 (us'.drop j) / V + 1 /\ g' < B64 /\ (a = 0 -> g' <= 1)) :=
         ⟨s1, s3 ho, by rw [Zs]; omega, fun h0 => by have h := HR.out; rw [h0] at h s2; exact h.one s2⟩
        clear s1 s2 s3 s4 s5 s6 s7 s8 eg er ho hr2 hgB hrB hvB hloB hv2B
        go_wp2_with fail
        refine HC.out.mono ?_
        rintro e wx ⟨rfl, hwx⟩
        cases hwx.symm
        go_wp2_with fail
        go_meet
        case rel => exact ⟨g', rfl, rfl, hq⟩
       .
        have q5 : IntKind.u64.wrap ((r : Int) + (v1 : Int)) = (r' : Int) := by rw [IntKind.wrap_u64]; omega
        have q6 : ¬ (r' : Int) < (v1 : Int) := by omega
        have q7 : decide (r' < v1) = false := decide_eq_false (by omega)
        have HN' : Hid (g' * v1 + r' = a * B64 + x1 /\ val B64 (us'.drop j) / V <= g' /\ g' < B64 /\ r' < B64 /\ g' * v2 = lo' + B64 * hi' /\ hi' < B64 /\ lo' < B64) :=
         ⟨s2, s1, by rw [Zs]; omega, by rw [Zs]; omega, s4, s5, s6⟩
        have hdec : Hid (g' < g) := show _ < _ by omega
        rw [Zs] at s6 s7
        by_cases hl : lo < v2
        .
         obtain ⟨t7, t8⟩ := s7 hl
         have q8 : (lo : Int) < (v2 : Int) := by omega
         have q9 : decide (lo < v2) = true := decide_eq_true hl
         have q10 : IntKind.u64.wrap ((lo : Int) - (v2 : Int)) = (lo' : Int) := by rw [IntKind.wrap_u64]; omega
         have q11 : IntKind.u64.wrap ((hi : Int) - 1) = (hi' : Int) := by
          have : hi' < 18446744073709551616 := s5
          rw [IntKind.wrap_u64]; omega
         clear s1 s2 s3 s4 s5 s6 s7 s8 eg er ho hgB hrB hvB hloB hv2B hl t7 t8
         go_wp2_with fail
         refine HC.out.mono ?_
         rintro e wx ⟨rfl, hwx⟩
         cases hwx.symm
         go_wp2_with fail
         go_round
         case rel => exact ⟨g', r', hi', lo', rfl, rfl, rfl, rfl, HN'⟩
         case measure => have := hdec.out; simp [intOf]; omega
        .
         obtain ⟨t7, t8⟩ := s8 (by omega)
         have q8 : ¬ (lo : Int) < (v2 : Int) := by omega
         have q9 : decide (lo < v2) = false := decide_eq_false hl
         have q10 : IntKind.u64.wrap ((lo : Int) - (v2 : Int)) = (lo' : Int) := by rw [IntKind.wrap_u64]; omega
         subst t7
         clear s1 s2 s3 s4 s5 s6 s7 s8 eg er ho hgB hrB hvB hloB hv2B hl t8
         go_wp2_with fail
         refine HC.out.mono ?_
         rintro e wx ⟨rfl, hwx⟩
         cases hwx.symm
         go_wp2_with fail
         go_round
         case rel => exact ⟨g', r', _, lo', rfl, rfl, rfl, rfl, HN'⟩
         case measure => have := hdec.out; simp [intOf]; omega
      .
       rw [decide_eq_false hc] at HC
       have hq : Hid (val B64 (us'.drop j) / V <= g /\ g <= val B64 (us'.drop j) / V + 1 /\ g < B64 /\ (a = 0 -> g <= 1)) :=
        ⟨hG.2.1, HR.out.fine hG.1 hG.2.2.1 hG.2.2.2.2.1 hc, hG.2.2.1, fun h0 => by have h := HR.out; have h2 := hG.1; rw [h0] at h h2; exact h.one h2⟩
       clear hG hc
       go_wp2_with fail
       refine HC.out.mono ?_
       rintro e wx ⟨rfl, hwx⟩
       cases hwx.symm
       go_wp2_with fail
       go_meet
       case rel => exact ⟨g, rfl, rfl, hq⟩
   case rest =>
    obtain ⟨g, rfl, rfl, hg⟩ := hcut
    have hlv := HD.out.1.ln
    have HMU := Qq (mulAddVWW_any tb tq tc vb vo vc n g 0 vs wc (by omega) hlv (HI.out.okt.live.le (by simp only; omega)) HI.out.vv.at_ HD.out.1.dv hg.out.2.2.1 Zy (by have := HB.out.1.tv; have := HI.out.vv.le; unfold Zj at *; unfold UpOk; simp only at *; omega))
    have i3 : (n : Int) <= (tc : Int) := by omega
    clear hlv cv1 cv2 cx1 cx2
    go_wp2_with fail
    refine HMU.out.mono ?_
    rintro e w2 ⟨c, rs, rfl, hU2, hR2, hl2, hD2, hv2, hc2⟩
    have lhs : hs = [] \/ j + 1 + hs.length <= k := by
     have h := HV.out.lh
     rcases Nat.lt_or_ge k (j + 1) with h1 | h1
     . exact Or.inl (List.eq_nil_of_length_eq_zero (by omega))
     . exact Or.inr (by omega)
    obtain ⟨p1, p2, p3, p4, p5, p6, p7, cw⟩ := prod_put HB.out.1 HI.out HU.out HV.out.lu HQ.out lhs hU2 hR2 hl2 hD2 hv2 hc2 HD.out.1.eV
    obtain ⟨z0, cz0, fz0, _⟩ := ((HI.out.okt.upd hU2).live.le (m := n + 1) (by have := HNN.out.1; simp only; omega)).at_ (k := n) (by omega)
    simp only at cz0 fz0
    have HP := Qq (Qj p1 (Qj p2 (Qj p3 (Qj p4 (Qj p5 (Qj p6 p7))))))
    have HP2 := Qq (Qj hl2 (Qj hc2 lhs))
    simp only at cw
    clear p1 p2 p3 p4 p5 p6 p7 hU2 hR2 hl2 hD2 hv2 hc2 lhs HMU
    have huc : n + m <= uc := by have := HB.out.1.lu; simp only at this; exact this
    have i4 : j < uc := by have := HNN.out.1; omega
    by_cases hjm2 : j < m
    .
     have i5 : ¬ (n : Int) + (m : Int) < (j : Int) + ((n : Int) + 1) := by omega
     have i6 : decide (n + m < j + (n + 1)) = false := decide_eq_false (by omega)
     have i7 : (j : Int) + ((n : Int) + 1) <= (uc : Int) := by omega
     have i8 : ((j : Int) + ((n : Int) + 1)).toNat - j = n + 1 := by omega
     have i9 : (j : Int) <= (j : Int) + ((n : Int) + 1) := by omega
     have i10 : (n : Int) + 1 <= (tc : Int) := by omega
     have i11 : ((n : Int) + 1).toNat = n + 1 := by omega
     have i13 : (0 : Int) <= (n : Int) + 1 := by omega
     have i12 : IntKind.i64.wrap ((j : Int) + ((n : Int) + 1)) = (j : Int) + ((n : Int) + 1) := by rw [IntKind.wrap_i64]; omega
     go_upto_region 28 with fail
     obtain ⟨w3, hw3⟩ : ∃ w3, w2.setCell ⟨tb, tq + n, none⟩ (.int .u64 (c : Int)) = w3 := ⟨_, rfl⟩
     rw [hw3] at HP cw
     rw [hw3]
     go_still_tail 15, (by kernel_rfl)
     change wpList _ _ _ _ _ w3.drew
     clear i5 i6 i7 i8 i9 i10 i11 i12 i13
     have hW1 := HR.out.wlt HD.out.1.lt
     have hzz : val B64 (us'.drop (j + (n + 1))) = 0 := by rw [<- List.drop_drop]; exact drop_zero_of_lt hW1
     have hld : ((us'.drop j).take (n + 1)).length = n + 1 := by rw [List.length_take, List.length_drop, HV.out.lu]; omega
     have HSV := Qq (subVV_any ub (uo + j) (uc - j) ub (uo + j) (uc - j) tb tq tc (n + 1) ((us'.drop j).take (n + 1)) (rs ++ [c]) w3.drew (by omega) hld HP.out.2.2.2.2.1
      ((HP.out.1.oku.live.sub j (n + 1) (by have := HB.out.1.lu; simp only at *; omega)).drew) ((HP.out.2.1.drop j).take (n + 1)).drew HP.out.2.2.2.1.drew ((HV.out.du.drop j).take _) HP.out.2.2.2.2.2.1 (UpOk.self _ _ _)
      (by have := HB.out.1.tu; have := HB.out.1.lu; have := HB.out.1.nt; unfold Zj at *; unfold UpOk; simp only at *; omega))
     have HZ := Qq (Qj hzz (take_all hW1))
     clear hW1 hzz hld cw
     go_wp2_with fail
     refine HSV.out.mono ?_
     rintro e w4 ⟨c1, r1s, rfl, hU4, hR4, hl4, hD4, hv4, hc4⟩
     have hU4' := ((Upd.refl (Rg ub (uo + j) (uo + j + (n + 1))) w3).drew).trans hU4
     rw [HZ.out.2] at hv4
     have HS4 := Qq (Qj hU4' (Qj hR4 (Qj hl4 (Qj hD4 hv4))))
     clear hU4' hR4 hl4 hD4 hv4 hU4 HSV
     by_cases hc0 : c1 = 0
     .
      have q2 : ((c1 : Int) != 0) = false := by subst hc0; rfl
      obtain ⟨g1, g2⟩ := sub_good HR.out.pos hg.out.1 hg.out.2.1 HP.out.2.2.2.2.2.2 HS4.out.2.2.2.2 hc0
      have HS := Qq (SecP.of HB.out.1 HP.out.1 HP.out.2.1 HV.out.lu HP.out.2.2.1 HP2.out.2.2 (by omega) HS4.out.1 HS4.out.2.1 HS4.out.2.2.1 HS4.out.2.2.2.1 g2.symm g1)
      have hjk : j < k := by have := HD.out.2.1; omega
      have HQB := Qq hg.out.2.2.1
      have HJK := Qq (show j < k \/ (j = k /\ g = 0) from Or.inl hjk)
      have q3 : ((j : Int) == (m : Int)) = false := beq_eq_false_iff_ne.2 (by omega)
      clear g1 g2 hc0
      obtain ⟨sec, hsec⟩ : ∃ sec, r1s = sec := ⟨_, rfl⟩
      rw [hsec] at HS
      have hjc : j + (n + 1) <= n + m := by omega
      obtain ⟨hs', a', hV', hh1, hh2, ha'⟩ := HV.out.next HD.out.1 (show n <= (n + 1) by omega) hjc HZ.out.1 HS.out.ls HS.out.ds HS.out.qq HS.out.vs_ HQB.out HJK.out
      have hlen : (us'.take j ++ sec ++ us'.drop (j + (n + 1))).length = n + m := hV'.lu
      have ca : w4.cell? ⟨ub, uo + (j + n1), none⟩ = some (.int .u64 (a' : Int)) := by
       obtain ⟨g1, e1⟩ := List.getElem?_eq_some_iff.1 ha'
       have := HS.out.uu.cell _ g1
       rw [e1, show j + n - 1 = j + n1 by have := HNN.out.1; omega] at this
       exact this
      clear hjc ha'
      obtain ⟨t1, t2, t3⟩ := SecP.store HB.out.1 HS.out hjk HP2.out.2.2 (Nat.le_of_eq hlen)
      obtain ⟨xq, cq, fq, _⟩ := (HS.out.bi.okq.live).at_ (k := j) (by have := HB.out.1.kq; simp only at *; omega)
      simp only at cq fq
      rw [hh1 hjk] at hV'
      have HR' := Qq (Qj t1 (Qj t2 (Qj t3 hV')))
      clear t1 t2 t3 hh1 hh2 hlen hV'
      have q9 : (j : Int) < (lq : Int) := by have := HD.out.2.1; omega
      go_wp2_with fail
      go_roundg j
      case measure => omega
      case rel => exact ⟨_, _, a', (j : Int) - 1, rfl, rfl, by omega, by omega, HR'.out.1, HR'.out.2.1, HR'.out.2.2.1, HR'.out.2.2.2⟩
     .
      obtain rfl : c1 = 1 := by omega
      have q2 : (((1 : Nat) : Int) != 0) = true := rfl
      obtain ⟨g1, g2, g3⟩ := sub_bad HR.out.pos hg.out.1 hg.out.2.1 HP.out.2.2.2.2.2.2 HS4.out.2.2.2.2 rfl (by have := val_lt _ HS4.out.2.2.2.1; rwa [HS4.out.2.2.1] at this)
      obtain ⟨d, ed⟩ : ∃ d, r1s[n]? = some d := ⟨_, List.getElem?_eq_getElem (by rw [HS4.out.2.2.1]; omega)⟩
      have HG := Qq (Qj g1 (Qj g2 (Qj g3 ed)))
      clear g1 g2 g3 ed
      have y1 : (j : Int) + (n : Int) <= (uc : Int) := by omega
      have y2 : ((j : Int) + (n : Int)).toNat - j = n := by omega
      have y3 : (j : Int) <= (j : Int) + (n : Int) := by omega
      have y4 : IntKind.i64.wrap ((j : Int) + (n : Int)) = (j : Int) + (n : Int) := by rw [IntKind.wrap_i64]; omega
      have y5 : (0 : Int) <= (n : Int) := by omega
      go_upto_region 30 with fail
      go_still_tail 13, (by kernel_rfl)
      change wpList _ _ _ _ _ w4.drew
      clear y1 y2 y3 y5
      have HAV := Qq (addVV_any ub (uo + j) (uc - j) ub (uo + j) (uc - j) vb vo vc n (r1s.take n) vs w4.drew (by omega) (by rw [List.length_take, HS4.out.2.2.1]; omega) HD.out.1.ln
       (((HP.out.1.oku.upd HS4.out.1).live.sub j n (by have := HB.out.1.lu; simp only at *; omega)).drew) (HS4.out.2.1.take n).drew ((HP.out.1.put_u HB.out.1 (by simp only; omega) (by simp only; omega) HS4.out.1).vv.at_).drew (HS4.out.2.2.2.1.take n) HD.out.1.dv (UpOk.self _ _ _)
       (by have := HB.out.1.uv; have := HB.out.1.lu; have := HP.out.1.vv.le; have := HD.out.1.ln; unfold Zj at *; unfold UpOk; simp only at *; omega))
      go_wp2_with fail
      refine HAV.out.mono ?_
      rintro e w5 ⟨c2, r2s, rfl, hU5, hR5, hl5, hD5, hv5, hc5⟩
      have hU5' := ((Upd.refl (Rg ub (uo + j) (uo + j + n)) w4).drew).trans hU5
      rw [HD.out.1.eV] at hv5
      have hdB : d < B64 := HS4.out.2.2.2.1.at_ HG.out.2.2.2
      obtain ⟨z1, z2⟩ := add_back HS4.out.2.2.1 hl5 hD5 HG.out.2.2.2 hdB hc5 HG.out.2.2.1 hv5
      rw [Zs] at z2 hdB
      have k9 : IntKind.u64.wrap ((d : Int) + (c2 : Int)) = 0 := by rw [IntKind.wrap_u64]; omega
      have cd4 : Cell w4 ub (uo + (j + n)) (.int .u64 (d : Int)) := by
       obtain ⟨g1, e1⟩ := List.getElem?_eq_some_iff.1 HG.out.2.2.2
       have := HS4.out.2.1 n g1
       rwa [e1, Nat.add_assoc] at this
      have cd5 := cd4.upd hU5' (fun ⟨_, _, h⟩ => by omega)
      have cd := cd5.cell
      have fd := cd5.frozen
      have k10 : ((j : Int) + (n : Int)).toNat = j + n := by omega
      have k11 : (j : Int) + (n : Int) < (n : Int) + (m : Int) := by omega
      have k12 : (0 : Int) <= (j : Int) + (n : Int) := by omega
      have k13 : decide (n < n + 1) = true := decide_eq_true (by omega)
      have k14 : (n : Int) < (n : Int) + 1 := by omega
      obtain ⟨g', hg'⟩ : ∃ g', g = g' + 1 := ⟨g - 1, by have := HG.out.2.1; omega⟩
      have hgB' : g < 18446744073709551616 := hg.out.2.2.1
      have k15 : IntKind.u64.wrap ((g : Int) - 1) = (g' : Int) := by rw [IntKind.wrap_u64]; omega
      have hUf : Upd (Rg ub (uo + j) (uo + j + (n + 1))) w3 (w5.setCell ⟨ub, uo + (j + n), none⟩ (.int .u64 0)) :=
       (HS4.out.1.trans (hU5'.mono (fun _ _ _ ⟨e, g1, g2⟩ => ⟨e, g1, by omega⟩))).setCell (fun _ => ⟨rfl, by omega, by omega⟩) _
      have hRf : U64 (w5.setCell ⟨ub, uo + (j + n), none⟩ (.int .u64 0)) ub (uo + j) (r2s ++ [0]) := by
       refine (hR5.far _ (by omega)).snoc ?_
       rw [hl5, Nat.add_assoc]
       exact cd5.set _
      have HS := Qq (SecP.of HB.out.1 HP.out.1 HP.out.2.1 HV.out.lu HP.out.2.2.1 HP2.out.2.2 (by omega) hUf hRf (by rw [List.length_append, hl5]; rfl) (hD5.snoc Zy) (by rw [Yi, z1]; simp) HG.out.1)
      rw [show g - 1 = g' by omega] at HS
      have hjk : j < k := by have := HD.out.2.1; omega
      have HQB := Qq (show g' < B64 by rw [Zs]; omega)
      have HJK := Qq (show j < k \/ (j = k /\ g' = 0) from Or.inl hjk)
      have q3 : ((j : Int) == (m : Int)) = false := beq_eq_false_iff_ne.2 (by omega)
      obtain ⟨sec, hsec⟩ : ∃ sec, r2s ++ [0] = sec := ⟨_, rfl⟩
      obtain ⟨wf, hwf⟩ : ∃ wf, w5.setCell ⟨ub, uo + (j + n), none⟩ (.int .u64 0) = wf := ⟨_, rfl⟩
      rw [hsec, hwf] at HS
      clear hUf hRf hU5 hU5' hR5 hl5 hD5 hv5 hc5 z1 z2 hdB cd4 cd5 hg' hgB' HAV
      go_upto_region 34 with fail
      clear hwf cd fd k9 k15
      have hjc : j + (n + 1) <= n + m := by omega
      obtain ⟨hs', a', hV', hh1, hh2, ha'⟩ := HV.out.next HD.out.1 (show n <= (n + 1) by omega) hjc HZ.out.1 HS.out.ls HS.out.ds HS.out.qq HS.out.vs_ HQB.out HJK.out
      have hlen : (us'.take j ++ sec ++ us'.drop (j + (n + 1))).length = n + m := hV'.lu
      have ca : wf.cell? ⟨ub, uo + (j + n1), none⟩ = some (.int .u64 (a' : Int)) := by
       obtain ⟨g1, e1⟩ := List.getElem?_eq_some_iff.1 ha'
       have := HS.out.uu.cell _ g1
       rw [e1, show j + n - 1 = j + n1 by have := HNN.out.1; omega] at this
       exact this
      clear hjc ha'
      obtain ⟨t1, t2, t3⟩ := SecP.store HB.out.1 HS.out hjk HP2.out.2.2 (Nat.le_of_eq hlen)
      obtain ⟨xq, cq, fq, _⟩ := (HS.out.bi.okq.live).at_ (k := j) (by have := HB.out.1.kq; simp only at *; omega)
      simp only at cq fq
      rw [hh1 hjk] at hV'
      have HR' := Qq (Qj t1 (Qj t2 (Qj t3 hV')))
      clear t1 t2 t3 hh1 hh2 hlen hV'
      have q9 : (j : Int) < (lq : Int) := by have := HD.out.2.1; omega
      go_wp2_with fail
      go_roundg j
      case measure => omega
      case rel => exact ⟨_, _, a', (j : Int) - 1, rfl, rfl, by omega, by omega, HR'.out.1, HR'.out.2.1, HR'.out.2.2.1, HR'.out.2.2.2⟩
    .
     obtain rfl : j = m := by omega
     clear hjm2 hjm
     have ha0 : a = 0 := by
      have := HV.out.a0 (Nat.le_refl _)
      rw [List.drop_eq_nil_of_le (by rw [HV.out.lu]; omega)] at this
      exact this.symm
     have hg1 := hg.out.2.2.2 ha0
     have hc0' : c = 0 := by
      have h1 := HP.out.2.2.2.2.2.2
      rw [Yi, HP2.out.1] at h1
      have h2 := HD.out.1.lt
      have h3 : g * V <= 1 * V := Nat.mul_le_mul_right _ hg1
      rcases Nat.eq_zero_or_pos c with h0 | h0
      . exact h0
      .
       have : B64 ^ n * 1 <= B64 ^ n * c := Nat.mul_le_mul_left _ h0
       omega
     subst hc0'
     have hrv : val B64 rs = g * V := by
      have h1 := HP.out.2.2.2.2.2.2
      rw [Yi] at h1
      simpa using h1
     have HRV := Qq (Qj hrv hg1)
     have i5 : (n : Int) + (j : Int) < (j : Int) + ((n : Int) + 1) := by omega
     have i6 : decide (n + j < j + (n + 1)) = true := decide_eq_true (by omega)
     have i7 : (j : Int) + (n : Int) <= (uc : Int) := by omega
     have i8 : ((j : Int) + (n : Int)).toNat - j = n := by omega
     have i9 : (j : Int) <= (j : Int) + (n : Int) := by omega
     have i10 : (n : Int) <= (tc : Int) := by omega
     have i13 : (0 : Int) <= (n : Int) := by omega
     have i14 : (n : Int) < (n : Int) + 1 := by omega
     have i15 : (n : Int) + 1 - 1 = (n : Int) := by omega
     have i12 : IntKind.i64.wrap ((j : Int) + (n : Int)) = (j : Int) + (n : Int) := by rw [IntKind.wrap_i64]; omega
     clear ha0 hg1 hrv
     go_upto_region 28 with fail
     obtain ⟨w3, hw3⟩ : ∃ w3, w2.setCell ⟨tb, tq + n, none⟩ (.int .u64 ((0 : Nat) : Int)) = w3 := ⟨_, rfl⟩
     rw [hw3] at HP cw
     rw [show (.int .u64 ((0 : Nat) : Int) : Value) = .int .u64 0 from rfl] at hw3
     rw [hw3]
     go_still_tail 15, (by kernel_rfl)
     change wpList _ _ _ _ _ w3.drew
     clear i5 i6 i7 i8 i9 i10 i12 i13 i14
     have hWn : val B64 (us'.drop j) < B64 ^ n := by
      have := val_lt _ (HV.out.du.drop j)
      rwa [List.length_drop, HV.out.lu, Nat.add_sub_cancel] at this
     have hzz : val B64 (us'.drop (j + n)) = 0 := by rw [List.drop_eq_nil_of_le (by rw [HV.out.lu]; omega)]; rfl
     have hld : ((us'.drop j).take n).length = n := by rw [List.length_take, List.length_drop, HV.out.lu]; omega
     have hrs : U64 w3 tb tq rs := HP.out.2.2.2.1.left
     have HSV := Qq (subVV_any ub (uo + j) (uc - j) ub (uo + j) (uc - j) tb tq tc n ((us'.drop j).take n) rs w3.drew (by omega) hld HP2.out.1
      ((HP.out.1.oku.live.sub j n (by have := HB.out.1.lu; simp only at *; omega)).drew) ((HP.out.2.1.drop j).take n).drew hrs.drew ((HV.out.du.drop j).take _) HP.out.2.2.2.2.2.1.left (UpOk.self _ _ _)
      (by have := HB.out.1.tu; have := HB.out.1.lu; have := HB.out.1.nt; unfold Zj at *; unfold UpOk; simp only at *; omega))
     have HZ := Qq (Qj hzz (take_all hWn))
     clear hWn hzz hld cw hrs
     go_wp2_with fail
     refine HSV.out.mono ?_
     rintro e w4 ⟨c1, r1s, rfl, hU4, hR4, hl4, hD4, hv4, hc4⟩
     have hU4' := ((Upd.refl (Rg ub (uo + j) (uo + j + n)) w3).drew).trans hU4
     rw [HZ.out.2] at hv4
     have HS4 := Qq (Qj hU4' (Qj hR4 (Qj hl4 (Qj hD4 hv4))))
     clear hU4' hR4 hl4 hD4 hv4 hU4 HSV
     have hQ0 : lq = j -> val B64 (us'.drop j) / V = 0 := fun hlj => by
      have h1 : U < B64 ^ j * V := by have h2 := HD.out.2.1; rw [HUU.out] at h2; omega
      have h2 := HV.out.eq
      have h3 := val_le_drop (xs := us') (k := j) (by rw [HV.out.lu]; omega)
      refine Nat.div_eq_of_lt ?_
      have h4 : B64 ^ j * val B64 (us'.drop j) < B64 ^ j * V := by
       generalize B64 ^ (j + 1) * val B64 hs * V = X at h2
       omega
      exact Nat.lt_of_mul_lt_mul_left h4
     have HQ0 := Qq hQ0
     have q3 : ((j : Int) == (j : Int)) = true := beq_self_eq_true _
     clear hQ0
     by_cases hc0 : c1 = 0
     .
      have q2 : ((c1 : Int) != 0) = false := by subst hc0; rfl
      obtain ⟨g1, g2⟩ := sub_good HR.out.pos hg.out.1 hg.out.2.1 HRV.out.1 HS4.out.2.2.2.2 hc0
      have HS := Qq (SecP.of HB.out.1 HP.out.1 HP.out.2.1 HV.out.lu HP.out.2.2.1 HP2.out.2.2 (by omega) HS4.out.1 HS4.out.2.1 HS4.out.2.2.1 HS4.out.2.2.2.1 g2.symm g1)
      have HQB := Qq hg.out.2.2.1
      obtain ⟨sec, hsec⟩ : ∃ sec, r1s = sec := ⟨_, rfl⟩
      rw [hsec] at HS
      rw [g1] at HQ0
      by_cases hlj : lq = j
      .
       have hg0 := HQ0.out hlj
       subst hg0
       have HJK := Qq (show j < k \/ (j = k /\ 0 = 0) from Or.inr ⟨by have := HD.out.2.1; omega, rfl⟩)
       have q4 : ((j : Int) == (lq : Int)) = true := by subst hlj; exact beq_self_eq_true _
       have HLJ := Qq hlj
       clear g1 g2 hc0 hlj
       have hjc : j + n <= n + j := by omega
       obtain ⟨hs', a', hV', hh1, hh2, ha'⟩ := HV.out.next HD.out.1 (show n <= n by omega) hjc HZ.out.1 HS.out.ls HS.out.ds HS.out.qq HS.out.vs_ HQB.out HJK.out
       have hlen : (us'.take j ++ sec ++ us'.drop (j + n)).length = n + j := hV'.lu
       have ca : w4.cell? ⟨ub, uo + (j + n1), none⟩ = some (.int .u64 (a' : Int)) := by
        obtain ⟨g1, e1⟩ := List.getElem?_eq_some_iff.1 ha'
        have := HS.out.uu.cell _ g1
        rw [e1, show j + n - 1 = j + n1 by have := HNN.out.1; omega] at this
        exact this
       clear hjc ha'
       have hhs : hs = [] := List.eq_nil_of_length_eq_zero (by have := HV.out.lh; have := HD.out.2.1; have := HLJ.out; omega)
       rw [hh2 (by have := HD.out.2.1; have := HLJ.out; omega), hhs] at hV'
       have HR' := Qq (Qj HS.out.bi (Qj HS.out.uu hV'))
       clear hh1 hh2 hlen hV' hhs
       go_wp2_with fail
       go_roundg j
       case measure => omega
       case rel => exact ⟨_, _, a', (j : Int) - 1, rfl, rfl, by omega, by omega, HR'.out.1, HR'.out.2.1, U64.nil _ _ _, HR'.out.2.2⟩
      .
       have hjk : j < k := by have := HD.out.2.1; omega
       have HJK := Qq (show j < k \/ (j = k /\ g = 0) from Or.inl hjk)
       have q4 : ((j : Int) == (lq : Int)) = false := beq_eq_false_iff_ne.2 (by omega)
       clear g1 g2 hc0
       have hjc : j + n <= n + j := by omega
       obtain ⟨hs', a', hV', hh1, hh2, ha'⟩ := HV.out.next HD.out.1 (show n <= n by omega) hjc HZ.out.1 HS.out.ls HS.out.ds HS.out.qq HS.out.vs_ HQB.out HJK.out
       have hlen : (us'.take j ++ sec ++ us'.drop (j + n)).length = n + j := hV'.lu
       have ca : w4.cell? ⟨ub, uo + (j + n1), none⟩ = some (.int .u64 (a' : Int)) := by
        obtain ⟨g1, e1⟩ := List.getElem?_eq_some_iff.1 ha'
        have := HS.out.uu.cell _ g1
        rw [e1, show j + n - 1 = j + n1 by have := HNN.out.1; omega] at this
        exact this
       clear hjc ha'
       obtain ⟨t1, t2, t3⟩ := SecP.store HB.out.1 HS.out hjk HP2.out.2.2 (Nat.le_of_eq hlen)
       obtain ⟨xq, cq, fq, _⟩ := (HS.out.bi.okq.live).at_ (k := j) (by have := HB.out.1.kq; simp only at *; omega)
       simp only at cq fq
       rw [hh1 hjk] at hV'
       have HR' := Qq (Qj t1 (Qj t2 (Qj t3 hV')))
       clear t1 t2 t3 hh1 hh2 hlen hV'
       have q9 : (j : Int) < (lq : Int) := by have := HD.out.2.1; omega
       go_wp2_with fail
       go_roundg j
       case measure => omega
       case rel => exact ⟨_, _, a', (j : Int) - 1, rfl, rfl, by omega, by omega, HR'.out.1, HR'.out.2.1, HR'.out.2.2.1, HR'.out.2.2.2⟩
     .
      obtain rfl : c1 = 1 := by omega
      have q2 : (((1 : Nat) : Int) != 0) = true := rfl
      obtain ⟨g1, g2, g3⟩ := sub_bad HR.out.pos hg.out.1 hg.out.2.1 HRV.out.1 HS4.out.2.2.2.2 rfl (by have := val_lt _ HS4.out.2.2.2.1; rwa [HS4.out.2.2.1] at this)
      have HG := Qq (Qj g1 (Qj g2 g3))
      clear g1 g2 g3
      have y1 : (j : Int) + (n : Int) <= (uc : Int) := by omega
      have y2 : ((j : Int) + (n : Int)).toNat - j = n := by omega
      have y3 : (j : Int) <= (j : Int) + (n : Int) := by omega
      have y4 : IntKind.i64.wrap ((j : Int) + (n : Int)) = (j : Int) + (n : Int) := by rw [IntKind.wrap_i64]; omega
      have y5 : (0 : Int) <= (n : Int) := by omega
      go_upto_region 30 with fail
      go_still_tail 13, (by kernel_rfl)
      change wpList _ _ _ _ _ w4.drew
      clear y1 y2 y3 y5
      have HAV := Qq (addVV_any ub (uo + j) (uc - j) ub (uo + j) (uc - j) vb vo vc n r1s vs w4.drew (by omega) HS4.out.2.2.1 HD.out.1.ln
       (((HP.out.1.oku.upd HS4.out.1).live.sub j n (by have := HB.out.1.lu; simp only at *; omega)).drew) HS4.out.2.1.drew ((HP.out.1.put_u HB.out.1 (by simp only; omega) (by simp only; omega) HS4.out.1).vv.at_).drew HS4.out.2.2.2.1 HD.out.1.dv (UpOk.self _ _ _)
       (by have := HB.out.1.uv; have := HB.out.1.lu; have := HP.out.1.vv.le; have := HD.out.1.ln; unfold Zj at *; unfold UpOk; simp only at *; omega))
      go_wp2_with fail
      refine HAV.out.mono ?_
      rintro e wf ⟨c2, r2s, rfl, hU5, hR5, hl5, hD5, hv5, hc5⟩
      have hU5' := ((Upd.refl (Rg ub (uo + j) (uo + j + n)) w4).drew).trans hU5
      rw [HD.out.1.eV] at hv5
      have z1 := add_back0 hl5 hD5 HG.out.2.2 hv5 hc5
      obtain ⟨g', hg'⟩ : ∃ g', g = g' + 1 := ⟨g - 1, by have := HG.out.2.1; omega⟩
      have hgB' : g < 18446744073709551616 := hg.out.2.2.1
      have k15 : IntKind.u64.wrap ((g : Int) - 1) = (g' : Int) := by rw [IntKind.wrap_u64]; omega
      have k13 : decide (n < n) = false := decide_eq_false (by omega)
      have k14 : ¬ (n : Int) < (n : Int) := by omega
      have hq1 := HG.out.1
      rw [show g - 1 = g' by omega] at hq1
      have HS := Qq (SecP.of HB.out.1 HP.out.1 HP.out.2.1 HV.out.lu HP.out.2.2.1 HP2.out.2.2 (by omega) (HS4.out.1.trans hU5') hR5 hl5 hD5 z1 hq1)
      have HQB := Qq (show g' < B64 by rw [Zs]; omega)
      obtain ⟨sec, hsec⟩ : ∃ sec, r2s = sec := ⟨_, rfl⟩
      rw [hsec] at HS
      rw [hq1] at HQ0
      by_cases hlj : lq = j
      .
       have hg0 := HQ0.out hlj
       subst hg0
       have HJK := Qq (show j < k \/ (j = k /\ 0 = 0) from Or.inr ⟨by have := HD.out.2.1; omega, rfl⟩)
       have q4 : ((j : Int) == (lq : Int)) = true := by subst hlj; exact beq_self_eq_true _
       have HLJ := Qq hlj
       clear hU5 hU5' hR5 hl5 hD5 hv5 hc5 z1 hg' hgB' HAV hq1 hlj
       have hjc : j + n <= n + j := by omega
       obtain ⟨hs', a', hV', hh1, hh2, ha'⟩ := HV.out.next HD.out.1 (show n <= n by omega) hjc HZ.out.1 HS.out.ls HS.out.ds HS.out.qq HS.out.vs_ HQB.out HJK.out
       have hlen : (us'.take j ++ sec ++ us'.drop (j + n)).length = n + j := hV'.lu
       have ca : wf.cell? ⟨ub, uo + (j + n1), none⟩ = some (.int .u64 (a' : Int)) := by
        obtain ⟨g1, e1⟩ := List.getElem?_eq_some_iff.1 ha'
        have := HS.out.uu.cell _ g1
        rw [e1, show j + n - 1 = j + n1 by have := HNN.out.1; omega] at this
        exact this
       clear hjc ha'
       have hhs : hs = [] := List.eq_nil_of_length_eq_zero (by have := HV.out.lh; have := HD.out.2.1; have := HLJ.out; omega)
       rw [hh2 (by have := HD.out.2.1; have := HLJ.out; omega), hhs] at hV'
       have HR' := Qq (Qj HS.out.bi (Qj HS.out.uu hV'))
       clear hh1 hh2 hlen hV' hhs
       go_wp2_with fail
       go_roundg j
       case measure => omega
       case rel => exact ⟨_, _, a', (j : Int) - 1, rfl, rfl, by omega, by omega, HR'.out.1, HR'.out.2.1, U64.nil _ _ _, HR'.out.2.2⟩
      .
       have hjk : j < k := by have := HD.out.2.1; omega
       have HJK := Qq (show j < k \/ (j = k /\ g' = 0) from Or.inl hjk)
       have q4 : ((j : Int) == (lq : Int)) = false := beq_eq_false_iff_ne.2 (by omega)
       clear hU5 hU5' hR5 hl5 hD5 hv5 hc5 z1 hg' hgB' HAV hq1
       have hjc : j + n <= n + j := by omega
       obtain ⟨hs', a', hV', hh1, hh2, ha'⟩ := HV.out.next HD.out.1 (show n <= n by omega) hjc HZ.out.1 HS.out.ls HS.out.ds HS.out.qq HS.out.vs_ HQB.out HJK.out
       have hlen : (us'.take j ++ sec ++ us'.drop (j + n)).length = n + j := hV'.lu
       have ca : wf.cell? ⟨ub, uo + (j + n1), none⟩ = some (.int .u64 (a' : Int)) := by
        obtain ⟨g1, e1⟩ := List.getElem?_eq_some_iff.1 ha'
        have := HS.out.uu.cell _ g1
        rw [e1, show j + n - 1 = j + n1 by have := HNN.out.1; omega] at this
        exact this
       clear hjc ha'
       obtain ⟨t1, t2, t3⟩ := SecP.store HB.out.1 HS.out hjk HP2.out.2.2 (Nat.le_of_eq hlen)
       obtain ⟨xq, cq, fq, _⟩ := (HS.out.bi.okq.live).at_ (k := j) (by have := HB.out.1.kq; simp only at *; omega)
       simp only at cq fq
       rw [hh1 hjk] at hV'
       have HR' := Qq (Qj t1 (Qj t2 (Qj t3 hV')))
       clear t1 t2 t3 hh1 hh2 hlen hV'
       have q9 : (j : Int) < (lq : Int) := by have := HD.out.2.1; omega
       go_wp2_with fail
       go_roundg j
       case measure => omega
       case rel => exact ⟨_, _, a', (j : Int) - 1, rfl, rfl, by omega, by omega, HR'.out.1, HR'.out.2.1, HR'.out.2.2.1, HR'.out.2.2.2⟩
def DThr (w : World) (T : Int) : Prop := Zh 3 w 5 0 (.int .i64 T)
theorem DThr.upd {w w' : World} {T : Int} {F : Nat -> Nat -> Prop} (h : DThr w T) (u : Upd F w w') (hF : ∀ i, ¬ F 5 i) : DThr w' T := Zh.upd h u (hF 0)
def RecSpec (T : Int) (n : Nat) : Prop := ∀ (q u v : Loc) (lq m sb ns V v1 v2 : Nat) (J : SI) (us vs : List Nat) (w : World), q.Ok w -> VecV w u us -> VecV w v vs -> DivV V vs n v1 v2 -> us.length = n + m -> lq = m -> val B64 us < B64 ^ m * V -> lq <= q.c -> 0 < lq →
 Zj q u -> Zj q v -> Zj u v -> StkV w sb ns J -> Off J sb ns q -> Off J sb ns u -> Off J sb ns v -> DThr w T -> ns + 64 * G n <= 1099511627776 -> n + m <= 1099511627776 →
 Calls Tryz.prog 108 #[.slice q.A lq q.c, .pointer (some ⟨sb, 0, none⟩), .slice u.A (n + m : Nat) u.c, .slice v.A n v.c] w (DivPost w q u m (n + m) (val B64 us) V sb ns J)
theorem From.apartL {w : World} {z r l : Loc} {need : Nat} (h : From w z r need) (hl : l.Ok w) (ha : Zj z l) : Zj r l := by
 rcases h with ⟨_, rfl⟩ | ⟨_, h, _⟩
 . exact ha
 . exact (Zj.new hl h).symm
theorem From.offL {w : World} {z r : Loc} {need sb n : Nat} {J : SI} (h : From w z r need) (hS : StkV w sb n J) (oz : Off J sb n z) : Off J sb n r := by
 rcases h with ⟨_, rfl⟩ | ⟨_, h, _⟩
 . exact oz
 . exact Off.new hS h
theorem From.zf {w : World} {z r : Loc} {need len b i : Nat} (h : From w z r need) (hl : len <= need) (hb : b < w.heap.size) (k : Rg r.b r.o (r.o + len) b i) : ZF z need b i := by
 obtain ⟨e, h1, h2⟩ := k
 rcases h with ⟨h0, rfl⟩ | ⟨_, h, _⟩
 . exact ⟨e, h1, by omega, by omega⟩
 . omega
theorem From.loc {w : World} {z r : Loc} {need : Nat} (h : From w z r need) : r = z \/ w.heap.size <= r.b := by
 rcases h with ⟨_, rfl⟩ | ⟨_, h, _⟩
 . exact Or.inl rfl
 . exact Or.inr h
theorem From.oldL {w w1 : World} {z r : Loc} {need : Nat} (h : From w1 z r need) (hs : w.heap.size <= w1.heap.size) : From w z r need := by
 rcases h with ⟨h1, h2⟩ | ⟨h1, h2, h3⟩
 . exact Or.inl ⟨h1, h2⟩
 . exact Or.inr ⟨h1, by omega, h3⟩
def DivResS (w : World) (z z2 : Loc) (need need2 Q R sb ns : Nat) (J : SI) (e : Ending) (w' : World) : Prop :=
 ∃ (r r2 : Loc) (J' : SI), e = .returned (.tuple #[.slice r.A (digs Q).length r.c, .slice r2.A (digs R).length r2.c]) /\ (r = z \/ w.heap.size <= r.b \/ r.c = 0) /\ (r2 = z2 \/ w.heap.size <= r2.b \/ r2.c = 0) /\ Zj r r2 ∧
  Upd (fun b i => (ZF z need b i \/ ZF z2 need2 b i) \/ J.K sb ns b i) w w' /\ NatV w' r Q /\ NatV w' r2 R /\ StkV w' sb ns J' /\ SI.Le w sb J J' /\ Off J' sb ns r /\ Off J' sb ns r2
theorem large_num {X Y n m s yt : Nat} {us vs : List Nat} (hn : 2 <= n) (hX : (digs X).length = n + m) (hY : (digs Y).length = n) (ht : (digs Y)[n - 1]? = some yt) (hs : s = nlzN yt) (lu : us.length = n + (m + 1)) (lv : vs.length = n) (du : Digs B64 us) (dv : Digs B64 vs)
  (eu : val B64 us = X * 2 ^ s) (ev : val B64 vs = Y * 2 ^ s) : ∃ v1 v2, DivV (Y * 2 ^ s) vs n v1 v2 /\ val B64 us < B64 ^ (m + 1) * (Y * 2 ^ s) := by
 have hps := Nat.two_pow_pos s
 have hX1 := Yf X
 have hY1 : B64 ^ (n - 1) <= Y := le_of_digs_len (k := n - 1) (by omega)
 rw [hX] at hX1
 obtain ⟨v1, v2, e1, e2⟩ := top_two hn lv
 refine ⟨v1, v2, ⟨hn, lv, dv, ev, e1, e2, ?_⟩, ?_⟩
 .
  -- the first word of the scaled divisor
  have hyt : yt < B64 := by
   obtain ⟨g, rfl⟩ := List.getElem?_eq_some_iff.1 ht
   exact (Yc Y).get _ g
  have hyv : Y = val B64 ((digs Y).take (n - 1)) + B64 ^ (n - 1) * yt := by
   have := Zq (b := B64) (digs Y) (n - 1) (by omega)
   rw [Zv, drop_at ht, List.drop_eq_nil_of_le (by omega)] at this
   simpa using this
  have hyl := val_lt _ ((Yc Y).take (n - 1))
  rw [List.length_take, hY, Nat.min_eq_left (by omega)] at hyl
  have hy0 : yt ≠ 0 := by
   intro h0; subst h0; rw [Nat.mul_zero, Nat.add_zero] at hyv; omega
  obtain ⟨_, k2, k3⟩ := nlz_spec hy0 hyt
  rw [<- hs] at k2 k3
  have hvv : Y * 2 ^ s = val B64 (vs.take (n - 1)) + B64 ^ (n - 1) * v1 := by
   have := Zq (b := B64) vs (n - 1) (by omega)
   rw [ev, drop_at e1, List.drop_eq_nil_of_le (by omega)] at this
   simpa using this
  have hvl := val_lt _ (dv.take (n - 1))
  rw [List.length_take, lv, Nat.min_eq_left (by omega)] at hvl
  generalize val B64 (vs.take (n - 1)) = a at *
  generalize val B64 ((digs Y).take (n - 1)) = b at *
  generalize hP : B64 ^ (n - 1) = P at *
  have h1 : P * (yt * 2 ^ s) <= Y * 2 ^ s := by
   rw [<- Nat.mul_assoc]; exact Nat.mul_le_mul_right _ (by omega)
  have h2 : Y * 2 ^ s < P * (v1 + 1) := by rw [Nat.mul_add]; omega
  have h3 : yt * 2 ^ s < v1 + 1 := Nat.lt_of_mul_lt_mul_left (Nat.lt_of_le_of_lt h1 h2)
  rw [Zs]; omega
 .
  rw [eu, <- Nat.mul_assoc]
  refine Nat.mul_lt_mul_of_pos_right ?_ hps
  have h4 : B64 ^ (m + 1) * B64 ^ (n - 1) <= B64 ^ (m + 1) * Y := Nat.mul_le_mul_left _ hY1
  rw [<- Nat.pow_add, show m + 1 + (n - 1) = n + m by omega] at h4
  omega
theorem top_ne {Y n yt : Nat} (hY : (digs Y).length = n + 1) (e : (digs Y)[n]? = some yt) : yt ≠ 0 := by
 intro h0
 subst h0
 have h1 := le_of_digs_len hY
 have h2 := Zq (b := B64) (digs Y) n (by omega)
 rw [Zv, drop_at e, List.drop_eq_nil_of_le (by omega)] at h2
 have h3 := val_lt _ ((Yc Y).take n)
 rw [List.length_take, Nat.min_eq_left (by omega)] at h3
 simp at h2
 omega
theorem scaled_lt {Y n yt s : Nat} (hY : (digs Y).length = n + 1) (e : (digs Y)[n]? = some yt) (hs : nlzN yt = s) : s < 64 /\ Y * 2 ^ s < B64 ^ (n + 1) := by
 have hyt : yt < B64 := (Yc Y).at_ e
 obtain ⟨k1, k2, k3⟩ := nlz_spec (top_ne hY e) hyt
 rw [hs] at k1 k2 k3
 refine ⟨k1, ?_⟩
 have h2 := Zq (b := B64) (digs Y) n (by omega)
 rw [Zv, drop_at e, List.drop_eq_nil_of_le (by omega)] at h2
 have h3 := val_lt _ ((Yc Y).take n)
 rw [List.length_take, Nat.min_eq_left (by omega)] at h3
 simp only [val_nil, Nat.mul_zero, Nat.add_zero] at h2
 have hB : B64 = 2 ^ (64 - s) * 2 ^ s := by rw [<- Nat.pow_add, show 64 - s + s = 64 by omega]; rfl
 have h4 : yt < 2 ^ (64 - s) := by rw [hB] at k3; exact Nat.lt_of_mul_lt_mul_right k3
 have h5 : (yt + 1) * 2 ^ s <= B64 := by rw [hB]; exact Nat.mul_le_mul_right _ h4
 have h6 : Y < B64 ^ n * (yt + 1) := by rw [Nat.mul_add]; omega
 have h7 : Y * 2 ^ s < B64 ^ n * (yt + 1) * 2 ^ s := Nat.mul_lt_mul_of_pos_right h6 (Nat.two_pow_pos s)
 have h8 : B64 ^ n * (yt + 1) * 2 ^ s <= B64 ^ n * B64 := by rw [Nat.mul_assoc]; exact Nat.mul_le_mul_left _ h5
 rw [Nat.pow_succ]; omega
structure LP (w w2 : World) (z z2 x y t u : Loc) (X Y n m sb ns n' : Nat) (J J3 : SI) : Prop where
 okt : t.Ok w2
 oku : u.Ok w2
 nt : n <= t.c
 nu : n + m + 1 <= u.c
 hx : NatV w2 x X
 hy : NatV w2 y Y
 tu : Zj u t
 ty : Zj t y
 tx : Zj t x
 fu : From w z2 u (n + m + 1)
 ux : DnOk u.b u.o x.b x.o (n + m)
 tj : TJ w t sb ns J
 ot : Off J3 sb n' t
 ou : Off J3 sb n' u
 oz : Off J3 sb n' z
 zu : Zj z u
 zt : Zj z t
 stk : StkV w2 sb n' J3
 le : SI.Le w sb J J3
 nn : ns <= n'
 upd : Upd (J.K sb ns) w w2
theorem LP.of {w w1 w2 : World} {z z2 x y t : Loc} {X Y n m sb ns n' b o c : Nat} {J J3 : SI} (hz : z.Ok w) (hz2 : z2.Ok w) (hx : NatV w x X) (hy : NatV w y Y) (hX : (digs X).length = n + m) (rx : Rel z2 x) (ha : Zj z z2) (hn : 2 <= n)
  (oz : Off J sb ns z) (oz2 : Off J sb ns z2) (ox : Off J sb ns x) (oy : Off J sb ns y)
  (h1 : n <= t.c) (h2 : t.Ok w1) (h3 : (∀ i, i < t.c -> J.K sb ns t.b (t.o + i)) \/ w.heap.size <= t.b) (h4 : ∀ i, i < t.c -> ¬ J3.K sb n' t.b (t.o + i)) (hS : StkV w1 sb n' J3) (hn' : ns <= n') (hle : SI.Le w sb J J3) (U : Upd (J.K sb ns) w w1)
  (hF : From w1 z2 (Loc.mk1 b o c) (n + m + 1)) (hO : (Loc.mk1 b o c).Ok w2) (hc : n + m + 1 <= c) (hU : Upd NoF w1 w2) : LP w w2 z z2 x y t (Loc.mk1 b o c) X Y n m sb ns n' J J3 := by
 have tj : TJ w t sb ns J := fun i hi => h3.imp (fun h => h i hi) id
 have bz : 0 < z.c -> z.b < w.heap.size := fun h => hz.lt h
 have bz2 : 0 < z2.c -> z2.b < w.heap.size := fun h => hz2.lt h
 have bx : 0 < x.c -> x.b < w.heap.size := fun h => hx.ok.lt h
 have b_y : 0 < y.c -> y.b < w.heap.size := fun h => hy.ok.lt h
 have kk : ∀ {l : Loc} {N : Nat}, NatV w l N -> Off J sb ns l -> NatV w1 l N := fun {l N} h o => h.upd U (fun i hi hk => o i (Nat.lt_of_lt_of_le hi h.le) hk)
 have hxx := kk hx ox
 have tz2 := tj.apart oz2 bz2
 refine ⟨h2.upd hU, hO, h1, hc, hxx.upd0 hU, (kk hy oy).upd0 hU, hF.apartL h2 tz2.symm, tj.apart oy b_y, tj.apart ox bx, hF.oldL U.size, ?_, tj, h4, hF.offL hS (oz2.old bz2 hle hn'), oz.old bz hle hn', (hF.apartL (hz.upd U) ha.symm).symm, (tj.apart oz bz).symm, hS.upd0 hU, hle, hn', U.trans (hU.mono (fun _ _ _ h => h.elim))⟩
 exact hF.dn (fun h => by have := rx.dn (n := n + m) (by have := hx.le; omega) (by omega); exact this) hxx.at_ hX |> fun h => h
structure LQ (T : Int) (w w4 : World) (z z2 t u : Loc) (us vs : List Nat) (n m sb ns n' : Nat) (J J3 : SI) : Prop where
 okz : z.Ok w4
 oku : u.Ok w4
 vt : VecV w4 t vs
 uu : U64 w4 u.b u.o us
 stk : StkV w4 sb n' J3
 thr : DThr w4 T
 upd : Upd (fun b i => ZF z2 (n + m + 1) b i \/ J.K sb ns b i) w w4
theorem LQ.of {T : Int} {w w2 w3 w4 : World} {z z2 x y t u : Loc} {us vs : List Nat} {X Y n m sb ns n' : Nat} {J J3 : SI} (hz : z.Ok w) (hS : StkV w sb ns J) (hT : DThr w T) (h : LP w w2 z z2 x y t u X Y n m sb ns n' J J3) (hn : 0 < n) (U3 : Upd (Rg t.b t.o (t.o + n)) w2 w3) (hv : U64 w3 t.b t.o vs) (lv : vs.length = n) (dv : Digs B64 vs)
  (U4 : Upd (Rg u.b u.o (u.o + (n + m + 1))) w3 w4) (hu : U64 w4 u.b u.o us) : LQ T w w4 z z2 t u us vs n m sb ns n' J J3 := by
 have h1 := h.nt
 have h2 := h.nu
 have s1 := h.stk.off h.ot (lo := t.o) (hi := t.o + n) (by omega) (Nat.le_refl _) U3
 have s2 := s1.off h.ou (lo := u.o) (hi := u.o + (n + m + 1)) (by omega) (Nat.le_refl _) U4
 have hU : Upd (fun b i => ZF z2 (n + m + 1) b i \/ J.K sb ns b i) w w4 := by
  refine ((h.upd.mono (fun _ _ _ k => Or.inr k)).then U3 (fun _ _ _ k => k) ?_).then U4 (fun _ _ _ k => k) ?_
  .
   rintro b i hb ⟨rfl, g1, g2⟩
   have := h.tj (i - t.o) (by omega)
   rw [show t.o + (i - t.o) = i by omega] at this
   rcases this with k | k
   . exact Or.inr k
   . omega
  .
   rintro b i hb k
   exact Or.inl (h.fu.zf (Nat.le_refl _) hb k)
 have th2 : DThr w2 T := hT.upd h.upd (fun i => hS.no hT (by decide) (by decide) (by decide) i)
 have tx : ∀ {w' : World} {l : Loc} {lo hi : Nat}, l.Ok w' -> 0 < l.c -> DThr w' T -> ∀ i, ¬ Rg l.b lo hi 5 i := fun {w' l lo hi} ok h0 ht i ⟨e, _, _⟩ => by
  obtain ⟨v, hv⟩ := ok.live 0 h0
  exact ht.neW hv (by decide) e
 have th3 := th2.upd U3 (tx h.okt (by omega) th2)
 have th4 := th3.upd U4 (tx (h.oku.upd U3) (by omega) th3)
 refine ⟨hz.upd hU, (h.oku.upd U3).upd U4, ⟨(h.okt.upd U3).upd U4, by omega, ?_, dv⟩, hu, s2, th4, hU⟩
 exact hv.apart h.tu (by omega) (by omega) (Nat.le_refl _) U4
theorem StkV.ltAny {w : World} {sb n k : Nat} {J : SI} {b i : Nat} (h : StkV w sb n J) (hk : J.K sb k b i) : b < w.heap.size := by
 cases J with
 | none => exact h.lt (show SI.none.K sb n b i from hk)
 | some ib l =>
  rcases hk with hk | hk | ⟨hk, _, hc⟩
  . exact hk ▸ h.2.1.lt
  . exact hk ▸ h.2.2.1.lt
  .
   have := ((h.2.2.2.2.2.1.2 hc).2.free hc).lt
   exact hk ▸ this
theorem From.offEnd {w w5 w6 : World} {z r : Loc} {need sb n' ns : Nat} {J J3 J4 : SI} (hF : From w5 z r need) (hz : z.Ok w) (oz : Off J sb ns z) (hS : StkV w5 sb n' J3) (hle : SI.Le w sb J J3) (s5 : w.heap.size <= w5.heap.size) (hr : r.Ok w6) (le4 : SI.Le w6 sb J3 J4) (s6 : w5.heap.size <= w6.heap.size) : Off J4 sb ns r := fun i hi hk => by
 have hb : r.b < w6.heap.size := hr.lt (by omega)
 have k3 := le4 _ _ _ hb hk
 rcases hF with ⟨_, rfl⟩ | ⟨_, h, _⟩
 . exact oz i hi (hle _ _ _ (hz.lt (by omega)) k3)
 . have := hS.ltAny k3; omega
theorem large_end {T : Int} {w w2 w4 w5 w6 wx w7 w8 : World} {z z2 x y t q u : Loc} {us vs rs rs2 : List Nat} {X Y n m sb ns n' Q R : Nat} {J J3 J4 : SI} (hz : z.Ok w) (hz2 : z2.Ok w) (oz : Off J sb ns z) (oz2 : Off J sb ns z2) (h : LP w w2 z z2 x y t u X Y n m sb ns n' J J3) (hQ : LQ T w w4 z z2 t u us vs n m sb ns n' J J3)
  (w1 : World) (hfu : From w1 z2 u (n + m + 1)) (hS1 : StkV w1 sb n' J3) (s1 : w.heap.size <= w1.heap.size) (s1' : w1.heap.size <= w5.heap.size)
  (u5 : Upd NoF w4 w5) (hF : From w5 z q (m + 1)) (hO : q.Ok w6) (hU : Upd NoF w5 w6) (hcq : m + 1 <= q.c) (h1 : Upd (DivF q u (m + 1) (n + (m + 1)) sb n' J3) w6 wx) (h2 : Upd (Rg u.b u.o (u.o + (n + m + 1))) wx w7)
  (hR : U64 wx q.b q.o rs) (lr : rs.length = m + 1) (dr : Digs B64 rs) (vr : val B64 rs = Q) (hR2 : U64 w7 u.b u.o rs2) (lr2 : rs2.length = n + m + 1) (dr2 : Digs B64 rs2) (vr2 : val B64 rs2 = R) (S8 : StkV w8 sb ns J4) (U8 : Upd (J4.K sb n') w7 w8) (le4 : SI.Le w6 sb J3 J4) :
  DivResS w z z2 (m + 1) (n + m + 1) Q R sb ns J (.returned (.tuple #[.slice q.A (digs Q).length q.c, .slice u.A (digs R).length u.c])) w8 := by
 have hu := h.nu
 have s4 := hQ.upd.size
 have s5 := u5.size
 have s6 := hU.size
 have oqu : Zj q u := hF.apartL (hQ.oku.upd u5) h.zu
 have oku6 : u.Ok w6 := (hQ.oku.upd u5).upd hU
 have oq : Off J4 sb ns q := hF.offEnd hz oz (hQ.stk.upd0 u5) h.le (by omega) hO le4 s6
 have ou : Off J4 sb ns u := hfu.offEnd hz2 oz2 hS1 h.le s1 oku6 le4 (by omega)
 have hR7 : U64 w7 q.b q.o rs := hR.upd h2 (fun i hi ⟨e, g1, g2⟩ => by unfold Zj at oqu; omega)
 have r8 : U64 w8 q.b q.o rs := hR7.upd U8 (fun i hi hk => oq i (by omega) (hk.mono h.nn))
 have r82 : U64 w8 u.b u.o rs2 := hR2.upd U8 (fun i hi hk => ou i (by omega) (hk.mono h.nn))
 have q8 : NatV w8 q Q := by
  have : VecV w8 q rs := ⟨(((hO.upd h1).upd h2).upd U8), by omega, r8, dr⟩
  rw [<- vr]; exact this.norm
 have q82 : NatV w8 u R := by
  have : VecV w8 u rs2 := ⟨(((oku6.upd h1).upd h2).upd U8), by omega, r82, dr2⟩
  rw [<- vr2]; exact this.norm
 have hK : ∀ b i, b < w.heap.size -> J3.K sb n' b i -> J.K sb ns b i := fun b i hb k => h.le _ _ _ hb (k.mono h.nn)
 refine ⟨q, u, J4, rfl, ?_, ?_, oqu, ?_, q8, q82, S8, ?_, oq, ou⟩
 . exact (hF.oldL (w := w) (by omega)).loc.imp id Or.inl
 . exact h.fu.loc.imp id Or.inl
 .
  have g0 : Upd (fun b i => (ZF z (m + 1) b i \/ ZF z2 (n + m + 1) b i) \/ J.K sb ns b i) w w6 :=
   ((hQ.upd.mono (fun b i _ k => k.elim (fun k => Or.inl (Or.inr k)) Or.inr)).trans (u5.mono (fun _ _ _ k => k.elim))).trans (hU.mono (fun _ _ _ k => k.elim))
  refine ((g0.then h1 (fun _ _ _ k => k) ?_).then h2 (fun _ _ _ k => k) ?_).then U8 (fun _ _ _ k => k) ?_
  .
   rintro b i hb (k | k | k)
   . exact Or.inl (Or.inl ((hF.oldL (w := w) (by omega)).zf (Nat.le_refl _) hb k))
   . exact Or.inl (Or.inr (h.fu.zf (len := n + m + 1) (Nat.le_refl _) hb k))
   . exact Or.inr (hK _ _ hb k)
  .
   rintro b i hb k
   exact Or.inl (Or.inr (h.fu.zf (Nat.le_refl _) hb k))
  .
   rintro b i hb k
   exact Or.inr (hK _ _ hb (le4 _ _ _ (by omega) k))
 .
  intro k b i hb hk
  exact h.le _ _ _ hb (le4 _ _ _ (by omega) hk)
theorem divLarge_any (T : Int) (z z2 x y : Loc) (nz nz2 X Y n m sb ns : Nat) (J : SI) (w : World) (hz : z.Ok w) (hz2 : z2.Ok w) (hx : NatV w x X) (hy : NatV w y Y) (hn : 2 <= n) (hX : (digs X).length = n + m) (hY : (digs Y).length = n) (rx : Rel z2 x) (ha : Zj z z2)
  (hS : StkV w sb ns J) (oz : Off J sb ns z) (oz2 : Off J sb ns z2) (ox : Off J sb ns x) (oy : Off J sb ns y) (hT : DThr w T) (hR : T <= (n : Int) -> RecSpec T n) (hb : ns + 65 * G n <= 1099511627776) (hm : n + m + 1 <= 1099511627776) :
  Calls Tryz.prog 87 #[.slice z.A nz z.c, .pointer (some ⟨sb, 0, none⟩), .slice z2.A nz2 z2.c, .slice x.A (n + m : Nat) x.c, .slice y.A n y.c] w (DivResS w z z2 (m + 1) (n + m + 1) (X / Y) (X % Y) sb ns J) := by
 have hG := G_le n
 have exA := hx.addr (by omega)
 have eyA := hy.addr (by omega)
 obtain ⟨xA, xc, xb, xo⟩ := x
 obtain ⟨yA, yc, yb, yo⟩ := y
 simp only at exA eyA
 subst exA; subst eyA
 have hxc : n + m <= xc := by have := hx.le; simp only at this; omega
 have hyc : n <= yc := by have := hy.le; simp only at this; omega
 have HL0 := Qq (fun (w1 w2 : World) (t : Loc) (b o c n' : Nat) (J3 : SI) => LP.of (w1 := w1) (w2 := w2) (t := t) (b := b) (o := o) (c := c) (n' := n') (J3 := J3) hz hz2 hx hy hX rx ha hn oz oz2 ox oy)
 have HQ0 := Qq (fun (w2 w3 w4 : World) (t u : Loc) (us vs : List Nat) (n' : Nat) (J3 : SI) => LQ.of (T := T) (x := ⟨some ⟨xb, xo, none⟩, xc, xb, xo⟩) (y := ⟨some ⟨yb, yo, none⟩, yc, yb, yo⟩) (X := X) (Y := Y) (z2 := z2) (w2 := w2) (w3 := w3) (w4 := w4) (t := t) (u := u) (us := us) (vs := vs) (n := n) (m := m) (n' := n') (J3 := J3) hz hS hT)
 have HSv := Qq (save_any sb ns J w hS)
 have HN := Qq (stk_nat_any sb ns n J w hS (by omega) (by omega))
 obtain ⟨n1, hn1⟩ : ∃ n1, n1 + 1 = n := ⟨n - 1, by omega⟩
 obtain ⟨yt, eyt⟩ : ∃ yt, (digs Y)[n1]? = some yt := ⟨_, List.getElem?_eq_getElem (by omega)⟩
 have hytB : yt < B64 := (Yc Y).at_ eyt
 have cyt : w.cell? ⟨yb, yo + n1, none⟩ = some (.int .u64 (yt : Int)) := by
  obtain ⟨g1, e1⟩ := List.getElem?_eq_some_iff.1 eyt
  have := hy.at_.cell n1 g1
  rwa [e1] at this
 obtain ⟨s, hs⟩ : ∃ s, nlzN yt = s := ⟨_, rfl⟩
 have HNL := Qq (nlz_any yt w hytB)
 rw [hs] at HNL
 have hsc := scaled_lt (n := n1) (by omega) eyt hs
 rw [hn1] at hsc
 have HSC := Qq hsc
 clear hsc
 have f2 : (n : Int) + (m : Int) - (n : Int) = (m : Int) := by omega
 have f4 : (n : Int) - 1 = (n1 : Int) := by omega
 have i1 : (n1 : Int) < (n : Int) := by omega
 have b1 : n1 < 1099511627776 := by omega
 have b3 : n < 1099511627776 := by omega
 have b4 : m < 1099511627776 := by omega
 have HD := Qq (Qj hX (Qj hY (Qj hn (Qj hn1 (Qj eyt (Qj hs (Qj hb (Qj hm (Qj hG (Qj hxc hyc))))))))))
 have HZ := Qq (Qj hz (Qj hz2 (Qj hT (Qj oz oz2))))
 have HR := Qq hR
 clear hz hz2 hx hy hX hY hn rx ha hS oz oz2 ox oy hT hR hb hm hn1 eyt hs hG hytB hxc hyc
 go_enter_defers Tryz.func87, Tryz.ntmps87
 go_wp2_with fail
 refine HSv.out.mono ?_
 rintro e w0 ⟨rfl, rfl⟩
 go_wp2_with fail
 refine HNL.out.mono ?_
 rintro e w1 ⟨rfl, hw1⟩
 cases hw1.symm
 go_wp2_with fail
 refine HN.out.mono ?_
 rintro e w1 ⟨t, J3, n', rfl, a1, a2, a3, a4, a5, a6, a7, a8, a9⟩
 have hz21 : z2.Ok w1 := HZ.out.2.1.upd a9
 go_wp2_with fail
 refine (make_pos z2 nz2 (n + m + 1) _ _ hz21 (by omega) (by omega) (by have := HD.out; omega)).mono ?_
 rintro e w2 ⟨ub, uo, uc, rfl, hF, hO, hc, hU⟩
 have HP := Qq (HL0.out w1 w2 t ub uo uc n' J3 a1 a2 a3 a4 a5 a6 a8 a9 hF hO hc hU)
 have et := (a2.2 (by have := HD.out.2.2.1; omega)).1
 obtain ⟨tA, tc, tb, tq⟩ := t
 simp only at et a1
 subst et
 have HA := Qq (Qj a7 a1)
 have HFU := Qq (Qj hF (Qj a5 (Qj a9.size hU.size)))
 clear a1 a2 a3 a4 a5 a6 a7 a8 a9 HL0 HSv HN HNL hF hO hU hz21 cyt
 go_upto_if 40 with fail
 go_cut [2] from 40 to 100 (fun s2 wx => s2 = .slice (some ⟨ub, uo, none⟩) (n + m + 1) uc /\ w1.heap.size <= wx.heap.size /\ ∃ us vs : List Nat, Hid (LQ T w0 wx z z2 ⟨some ⟨tb, tq, none⟩, tc, tb, tq⟩ (Loc.mk1 ub uo uc) us vs n m sb ns n' J J3 /\ us.length = n + m + 1 /\ vs.length = n /\ Digs B64 us /\ Digs B64 vs /\ val B64 us = X * 2 ^ s /\ val B64 vs = Y * 2 ^ s))
 case first =>
  have ht1 : n <= tc := HA.out.2
  have hu1 : n + m + 1 <= uc := HP.out.nu
  have hnn : 0 < n := by have := HD.out.2.2.1; omega
  have hB : n + m + 1 <= 1099511627776 := by have := HD.out; omega
  have k1 : (n : Int) + (m : Int) <= (uc : Int) := by omega
  have k2 : (n : Int) + (m : Int) < (n : Int) + (m : Int) + 1 := by omega
  have k3 : ((n : Int) + (m : Int)).toNat = n + m := by omega
  have k4 : (0 : Int) <= (n : Int) + (m : Int) := by omega
  have hlx := HP.out.hx.le
  have hly := HP.out.hy.le
  have hxx3 : ∀ w3, Upd (Rg tb tq (tq + n)) w2 w3 -> U64 w3 xb xo (digs X) /\ Live w3 ub uo (n + m + 1) := fun w3 U =>
   ⟨HP.out.hx.at_.apart HP.out.tx hlx (by simp only; omega) (Nat.le_refl _) U, ((HP.out.oku.live.le (by simp only; omega)).upd U)⟩
  have HX3 := Qq hxx3
  have HLv : Live w2 tb tq n := HP.out.okt.live.le (by simp only; omega)
  have hyt := HP.out.ty
  by_cases hs0 : s = 0
  .
   subst hs0
   have q1 : (((0 : Nat) : Int) == 0) = true := rfl
   clear hxx3
   go_wp2_with (first | (with_reducible refine wpList_copy64 rfl (.tmp 41) (.tmp 42) 56 56 rfl 81 uNat sWord (some ⟨tb, tq, none⟩) (some ⟨yb, yo, none⟩) n tc n yc tb tq yb yo rfl rfl (digs Y) (by rw [HD.out.2.1]; exact (Nat.min_self n).symm) (fun _ => ⟨rfl, rfl⟩) HP.out.hy.at_.r (by rw [HD.out.2.1]; exact HLv) ?_; intro w3 hu3 hr3; rw [HD.out.2.1] at hu3; obtain ⟨x1, x2⟩ := HX3.out w3 hu3) | (with_reducible refine wpList_copy64 rfl (.tmp 47) (.tmp 48) 56 56 rfl 81 uNat sWord (some ⟨ub, uo, none⟩) (some ⟨xb, xo, none⟩) (n + m) uc (n + m) xc ub uo xb xo rfl rfl (digs X) (by rw [HD.out.1]; exact (Nat.min_self _).symm) (fun _ => ⟨rfl, rfl⟩) x1.r (by rw [HD.out.1]; exact x2.le (by omega)) ?_; intro w4 hu4 hr4; rw [HD.out.1] at hu4; obtain ⟨z0, cz0, fz0, kz0⟩ := (x2.upd hu4).at_ (k := n + m) (by omega)))
   have U5 : Upd (Rg ub uo (uo + (n + m + 1))) w3 (w4.setCell ⟨ub, uo + (n + m), none⟩ (.int .u64 0)) :=
    (hu4.mono (fun _ _ _ ⟨e, g1, g2⟩ => ⟨e, g1, by omega⟩)).setCell (fun _ => ⟨rfl, by omega, by omega⟩) _
   have R5 : U64 (w4.setCell ⟨ub, uo + (n + m), none⟩ (.int .u64 0)) ub uo (digs X ++ [0]) := by
    refine (hr4.far _ (by have := HD.out.1; omega)).snoc ?_
    rw [HD.out.1]; exact kz0.set _
   have HQ := Qq (HQ0.out w2 w3 _ _ _ _ _ n' J3 HP.out hnn hu3 hr3 HD.out.2.1 (Yc Y) U5 R5)
   have HE := Qq (show (digs X ++ [0]).length = n + m + 1 /\ (digs Y).length = n /\ Digs B64 (digs X ++ [0]) /\ Digs B64 (digs Y) /\ val B64 (digs X ++ [0]) = X * 2 ^ 0 /\ val B64 (digs Y) = Y * 2 ^ 0 from
    ⟨by rw [List.length_append, HD.out.1]; rfl, HD.out.2.1, (Yc X).snoc Zy, Yc Y, by rw [Yi, Zv]; simp, by rw [Zv]; simp⟩)
   have hsz : w1.heap.size <= (w4.setCell ⟨ub, uo + (n + m), none⟩ (.int .u64 0)).heap.size := by have := HFU.out.2.2.2; have := hu3.size; have := U5.size; omega
   clear hu3 hr3 hu4 hr4 kz0 x1 x2 U5 R5
   go_meet
   case rel => exact ⟨rfl, hsz, _, _, HQ.out, HE.out⟩
  .
   have q1 : ((s : Int) == 0) = false := beq_eq_false_iff_ne.2 (by omega)
   have HV := Qq (lshVU_any tb tq tc yb yo yc n s (digs Y) w2 (by omega) HSC.out.1 HD.out.2.1 HLv HP.out.hy.at_ (Yc Y) (by have := HD.out.2.1; unfold Zj at hyt; unfold DnOk; simp only at hyt hly; omega))
   clear hxx3 hyt
   go_wp2_with fail
   refine HV.out.mono ?_
   rintro e w3 ⟨c3, vs, rfl, hU3, hR3, hl3, hD3, hv3, hc3⟩
   obtain ⟨x1, x2⟩ := HX3.out w3 hU3
   have HU := Qq (lshVU_any ub uo uc xb xo xc (n + m) s (digs X) w3 (by omega) HSC.out.1 HD.out.1 (x2.le (by omega)) x1 (Yc X) HP.out.ux)
   have hc0 : c3 = 0 := by
    rw [Zv] at hv3
    have h1 := HSC.out.2
    rcases Nat.eq_zero_or_pos c3 with h0 | h0
    . exact h0
    .
     have : 1 * B64 ^ n <= c3 * B64 ^ n := Nat.mul_le_mul_right _ h0
     omega
   subst hc0
   rw [Zv, Nat.zero_mul, Nat.add_zero] at hv3
   have HV3 := Qq (Qj hU3 (Qj hR3 (Qj hl3 (Qj hD3 hv3))))
   clear hU3 hR3 hl3 hD3 hv3 hc3 HV x1
   go_wp2_with fail
   refine HU.out.mono ?_
   rintro e w4 ⟨c4, us, rfl, hU4, hR4, hl4, hD4, hv4, hc4⟩
   obtain ⟨z0, cz0, fz0, kz0⟩ := (x2.upd hU4).at_ (k := n + m) (by omega)
   rw [Zv] at hv4
   have hcB : c4 < B64 := Nat.lt_of_lt_of_le hc4 (by rw [show B64 = 2 ^ 64 from rfl]; exact Nat.pow_le_pow_right (by omega) (by have := HSC.out.1; omega))
   have U5 : Upd (Rg ub uo (uo + (n + m + 1))) w3 (w4.setCell ⟨ub, uo + (n + m), none⟩ (.int .u64 (c4 : Int))) :=
    (hU4.mono (fun _ _ _ ⟨e, g1, g2⟩ => ⟨e, g1, by omega⟩)).setCell (fun _ => ⟨rfl, by omega, by omega⟩) _
   have R5 : U64 (w4.setCell ⟨ub, uo + (n + m), none⟩ (.int .u64 (c4 : Int))) ub uo (us ++ [c4]) := by
    refine (hR4.far _ (by omega)).snoc ?_
    rw [hl4]; exact kz0.set _
   have HQ := Qq (HQ0.out w2 w3 _ _ _ _ _ n' J3 HP.out hnn HV3.out.1 HV3.out.2.1 HV3.out.2.2.1 HV3.out.2.2.2.1 U5 R5)
   have HE := Qq (show (us ++ [c4]).length = n + m + 1 /\ vs.length = n /\ Digs B64 (us ++ [c4]) /\ Digs B64 vs /\ val B64 (us ++ [c4]) = X * 2 ^ s /\ val B64 vs = Y * 2 ^ s from
    ⟨by rw [List.length_append, hl4]; rfl, HV3.out.2.2.1, hD4.snoc hcB, HV3.out.2.2.2.1, by rw [Yi, hl4, hv4, Nat.mul_comm c4], HV3.out.2.2.2.2.symm⟩)
   have hsz : w1.heap.size <= (w4.setCell ⟨ub, uo + (n + m), none⟩ (.int .u64 (c4 : Int))).heap.size := by have := HFU.out.2.2.2; have := HV3.out.1.size; have := U5.size; omega
   clear hU4 hR4 hl4 hD4 hv4 hc4 hcB U5 R5 x2 kz0 HU
   go_wp2_with fail
   go_meet
   case rel => exact ⟨rfl, hsz, _, _, HQ.out, HE.out⟩
 case rest =>
  obtain ⟨rfl, hsz, us, vs, hQ⟩ := hcut
  have hQ1 := hQ.out.1
  obtain ⟨v1, v2, DV, hlt⟩ := large_num HD.out.2.2.1 HD.out.1 HD.out.2.1 (yt := yt) (by have := HD.out; rw [<- this.2.2.2.2.1]; congr 1; omega) HD.out.2.2.2.2.2.1.symm (us := us) (vs := vs) (by have := hQ.out; omega) hQ.out.2.2.1 hQ.out.2.2.2.1 hQ.out.2.2.2.2.1 hQ.out.2.2.2.2.2.1 hQ.out.2.2.2.2.2.2
  have hal : aliasB z (Loc.mk1 ub uo uc) = false := HP.out.zu.alias
  have HAL := alias_any z (Loc.mk1 ub uo uc) nz (n + m + 1) wc hQ1.okz hQ1.oku
  rw [hal] at HAL
  have HAL := Qq HAL
  have HV := Qq (Qj DV hlt)
  clear hQ1 hal DV hlt
  go_wp2_with fail
  refine HAL.out.mono ?_
  rintro e w5 ⟨rfl, hdr⟩
  have hu5 := hdr.upd
  go_wp2_with fail
  refine (make_pos z nz (m + 1) _ _ (hQ.out.1.okz.upd hu5) (by omega) (by omega) (by have := HD.out; omega)).mono ?_
  rintro e w6 ⟨qb, qo, qc, rfl, hF, hO, hc', hU⟩
  have hu6 := hu5.trans hU
  have e1 : From w5 z (Loc.mk1 qb qo qc) (m + 1) := hF
  have hQ1 := hQ.out.1
  have okt5 : Loc.Ok w5 ⟨some ⟨tb, tq, none⟩, tc, tb, tq⟩ := hQ1.vt.ok.upd hu5
  have vu : VecV w6 (Loc.mk1 ub uo uc) us := ⟨hQ1.oku.upd hu6, by have := HP.out.nu; have := hQ.out.2.1; omega, hQ1.uu.upd hu6 (fun _ _ h => h), hQ.out.2.2.2.1⟩
  have thr6 := hQ1.thr.upd hu6 (fun _ h => h)
  have lu : us.length = n + (m + 1) := by have := hQ.out.2.1; omega
  have HB := Qq (fun (hk : (n : Int) < T) => divBasic_any (Loc.mk1 qb qo qc) (Loc.mk1 ub uo uc) ⟨some ⟨tb, tq, none⟩, tc, tb, tq⟩ (m + 1) n (m + 1) (m + 1) sb n' (Y * 2 ^ s) v1 v2 J3 us vs w6 hO vu (hQ1.vt.upd0 hu6) HV.out.1 lu (Or.inr ⟨rfl, rfl, HV.out.2⟩) hc' (by omega) (e1.apartL (hQ1.oku.upd hu5) HP.out.zu) (e1.apartL okt5 HP.out.zt) HP.out.tu (hQ1.stk.upd0 hu6) (e1.offL (hQ1.stk.upd0 hu5) HP.out.oz) HP.out.ou HP.out.ot (by have := HA.out.1; have := HD.out; omega) (by have := HD.out; omega))
  have HBR := Qq (fun (hk : T <= (n : Int)) => HR.out hk (Loc.mk1 qb qo qc) (Loc.mk1 ub uo uc) ⟨some ⟨tb, tq, none⟩, tc, tb, tq⟩ (m + 1) (m + 1) sb n' (Y * 2 ^ s) v1 v2 J3 us vs w6 hO vu (hQ1.vt.upd0 hu6) HV.out.1 lu rfl HV.out.2 hc' (by omega) (e1.apartL (hQ1.oku.upd hu5) HP.out.zu) (e1.apartL okt5 HP.out.zt) HP.out.tu (hQ1.stk.upd0 hu6) (e1.offL (hQ1.stk.upd0 hu5) HP.out.oz) HP.out.ou HP.out.ot thr6 (by have := HA.out.1; have := HD.out; omega) (by have := HD.out; omega))
  have HF := Qq (Qj hu5 (Qj e1 (Qj hO (Qj hU (Qj hc' (Qj lu hQ1))))))
  have cthr := thr6.cell
  clear hu5 hu6 hF e1 okt5 vu thr6 lu hO hU hc' hQ1 hdr HAL HR HQ0
  go_upto_if 78 with fail
  go_cut [10] from 76 to 100 (fun s10 wx => s10 = .slice (some ⟨qb, qo, none⟩) (m + 1) qc /\ Hid (DivPost w6 (Loc.mk1 qb qo qc) (Loc.mk1 ub uo uc) (m + 1) (n + (m + 1)) (val B64 us) (Y * 2 ^ s) sb n' J3 (.returned (.tuple #[])) wx))
  case first =>
   by_cases hk : (n : Int) < T
   .
    have q1 : decide ((n : Int) < T) = true := decide_eq_true hk
    have HC := Qq (HB.out hk)
    clear HB HBR
    go_wp2_with fail
    refine HC.out.mono ?_
    rintro e wx hp
    obtain rfl : e = .returned (.tuple #[]) := by obtain ⟨_, _, _, h, _⟩ := hp; exact h
    have HPP := Qq hp
    clear hp
    go_wp2_with fail
    go_meet
    case rel => exact ⟨rfl, HPP.out⟩
   .
    have q1 : decide ((n : Int) < T) = false := decide_eq_false hk
    have HC := Qq (HBR.out (by omega))
    clear HB HBR
    go_wp2_with fail
    refine HC.out.mono ?_
    rintro e wx hp
    obtain rfl : e = .returned (.tuple #[]) := by obtain ⟨_, _, _, h, _⟩ := hp; exact h
    have HPP := Qq hp
    clear hp
    go_wp2_with fail
    go_meet
    case rel => exact ⟨rfl, HPP.out⟩
  case rest =>
   obtain ⟨rfl, hPP⟩ := hcut
   clear HB HBR
   have hps : 0 < 2 ^ s := Nat.two_pow_pos s
   obtain ⟨rs, us2, J4, _, p1, p2, p3, p4, p5, p6, p7, p8, p9, p10, p11⟩ := hPP.out
   have eX := hQ.out.2.2.2.2.2.1
   rw [eX, scale_div hps] at p4
   rw [eX, scale_mod] at p8
   have HPP := Qq (Qj p1 (Qj p2 (Qj p3 (Qj p4 (Qj p5 (Qj p6 (Qj p7 (Qj p8 (Qj p9 (Qj p10 p11))))))))))
   have hqc63 := HF.out.2.2.1.1
   clear p1 p2 p3 p4 p5 p6 p7 p8 p9 p10 p11 eX hPP cthr
   have HNQ := Qq (norm_len qb qo qc (m + 1) rs wc HPP.out.1 HF.out.2.2.2.2.1 hqc63 HPP.out.2.1 HPP.out.2.2.1)
   go_wp2_with fail
   refine HNQ.out.mono ?_
   rintro e w8 ⟨rfl, hw8⟩
   cases hw8.symm
   rw [HPP.out.2.2.2.1]
   clear HNQ
   have huc63 := HP.out.oku.1
   have h9 : n + m + 1 <= uc := HP.out.nu
   simp only at huc63
   have okux : Live wc ub uo (n + m + 1) := (((HF.out.2.2.2.2.2.2.oku.upd HF.out.1).upd HF.out.2.2.2.1).upd HPP.out.2.2.2.2.2.2.2.2.1).live.le h9
   by_cases hs0 : s = 0
   .
    have q2 : ((s : Int) != 0) = false := by subst hs0; rfl
    have e8 : val B64 us2 = X % Y := by have := HPP.out.2.2.2.2.2.2.2.1; rw [hs0] at this; simpa using this
    have HNU := norm_len ub uo uc (n + m + 1) us2 wc HPP.out.2.2.2.2.1 h9 huc63 HPP.out.2.2.2.2.2.1 HPP.out.2.2.2.2.2.2.1
    rw [e8] at HNU
    have HNU := Qq HNU
    have HE8 := Qq e8
    clear e8 hs0 okux
    go_wp2_with fail
    refine HNU.out.mono ?_
    rintro e w8 ⟨rfl, hw8⟩
    cases hw8.symm
    go_wp2_with fail
    refine leaves_cons (f := 96) (args := #[.pointer (some ⟨sb, 0, none⟩), .int .i64 (ns : Int)]) (by simp) (by simp [go_sem]) ?_
    refine (restore_d sb n' ns J4 .returning wc HPP.out.2.2.2.2.2.2.2.2.2.1 HP.out.nn).mono ?_
    rintro e u' w8 ⟨rfl, rfl, hS8, hU8⟩
    refine ⟨_, results_tmp2 rfl _ _ _, ?_⟩
    exact large_end HZ.out.1 HZ.out.2.1 HZ.out.2.2.2.1 HZ.out.2.2.2.2 HP.out HF.out.2.2.2.2.2.2 w1 HFU.out.1 HFU.out.2.1 HFU.out.2.2.1 (by have := HF.out.1.size; omega) HF.out.1 HF.out.2.1 HF.out.2.2.1 HF.out.2.2.2.1 HF.out.2.2.2.2.1 HPP.out.2.2.2.2.2.2.2.2.1 (Upd.refl _ wc) HPP.out.2.1 HPP.out.1 HPP.out.2.2.1 HPP.out.2.2.2.1 HPP.out.2.2.2.2.2.1 HPP.out.2.2.2.2.1 HPP.out.2.2.2.2.2.2.1 HE8.out hS8 hU8 HPP.out.2.2.2.2.2.2.2.2.2.2
   .
    have q2 : ((s : Int) != 0) = true := by simpa using hs0
    have HRS := Qq (rshVU_any ub uo uc ub uo uc (n + m + 1) s us2 wc (by have := HD.out; omega) HSC.out.1 HPP.out.2.2.2.2.1 okux HPP.out.2.2.2.2.2.1 HPP.out.2.2.2.2.2.2.1 (UpOk.self _ _ _))
    clear hs0 okux
    go_wp2_with fail
    refine HRS.out.mono ?_
    rintro e w7 ⟨c7, us3, rfl, hU7, hR7, hl7, hD7, hv7⟩
    rw [HPP.out.2.2.2.2.2.2.2.1, Nat.mul_div_cancel _ hps] at hv7
    have HNU := norm_len ub uo uc (n + m + 1) us3 w7 hl7 h9 huc63 hR7 hD7
    rw [hv7] at HNU
    have HNU := Qq HNU
    have HR7 := Qq (Qj hU7 (Qj hR7 (Qj hl7 (Qj hD7 hv7))))
    have hS7 : StkV w7 sb n' J4 := HPP.out.2.2.2.2.2.2.2.2.2.1.upd hU7 (fun b i ⟨e, g1, g2⟩ hk => by
     subst e
     have ho : Off J4 sb ns (Loc.mk1 b uo uc) := HFU.out.1.offEnd HZ.out.2.1 HZ.out.2.2.2.2 HFU.out.2.1 HP.out.le HFU.out.2.2.1 ((HF.out.2.2.2.2.2.2.oku.upd HF.out.1).upd HF.out.2.2.2.1) HPP.out.2.2.2.2.2.2.2.2.2.2 (by have := HF.out.1.size; have := HF.out.2.2.2.1.size; omega)
     obtain ⟨j, rfl⟩ : ∃ j, i = uo + j := ⟨i - uo, by omega⟩
     exact ho j (by simp only; omega) (hk.mono HP.out.nn))
    have HS7 := Qq hS7
    clear hU7 hR7 hl7 hD7 hv7 HRS hS7
    go_wp2_with fail
    refine HNU.out.mono ?_
    rintro e w8 ⟨rfl, hw8⟩
    cases hw8.symm
    go_wp2_with fail
    refine leaves_cons (f := 96) (args := #[.pointer (some ⟨sb, 0, none⟩), .int .i64 (ns : Int)]) (by simp) (by simp [go_sem]) ?_
    refine (restore_d sb n' ns J4 .returning w7 HS7.out HP.out.nn).mono ?_
    rintro e u' w8 ⟨rfl, rfl, hS8, hU8⟩
    refine ⟨_, results_tmp2 rfl _ _ _, ?_⟩
    exact large_end HZ.out.1 HZ.out.2.1 HZ.out.2.2.2.1 HZ.out.2.2.2.2 HP.out HF.out.2.2.2.2.2.2 w1 HFU.out.1 HFU.out.2.1 HFU.out.2.2.1 (by have := HF.out.1.size; omega) HF.out.1 HF.out.2.1 HF.out.2.2.1 HF.out.2.2.2.1 HF.out.2.2.2.2.1 HPP.out.2.2.2.2.2.2.2.2.1 HR7.out.1 HPP.out.2.1 HPP.out.1 HPP.out.2.2.1 HPP.out.2.2.2.1 HR7.out.2.1 HR7.out.2.2.1 HR7.out.2.2.2.1 HR7.out.2.2.2.2 hS8 hU8 HPP.out.2.2.2.2.2.2.2.2.2.2
theorem div_large_nil (T : Int) (z z2 x y : Loc) (nz nz2 X Y n m : Nat) (w : World) (hz : z.Ok w) (hz2 : z2.Ok w) (hx : NatV w x X) (hy : NatV w y Y) (hn : 2 <= n) (hX : (digs X).length = n + m) (hY : (digs Y).length = n) (hle : Y <= X) (rx : Rel z2 x) (ha : Zj z z2)
  (hT : DThr w T) (hR : T <= (n : Int) -> RecSpec T n) (hb : 65 * G n <= 1099511627776) (hm : n + m + 1 <= 1099511627776) :
  Calls Tryz.prog 59 #[.slice z.A nz z.c, .pointer none, .slice z2.A nz2 z2.c, .slice x.A (n + m : Nat) x.c, .slice y.A n y.c] w (DivRes w z z2 (m + 1) (n + m + 1) (X / Y) (X % Y) NoF) := by
 have HC := cmp_any x y X Y w hx hy (by omega)
 have hc0 : ¬ cmpN X Y < 0 := by unfold cmpN; rw [if_neg (by omega)]; split <;> decide
 obtain ⟨cv, hcv⟩ : ∃ cv, cmpN X Y = cv := ⟨_, rfl⟩
 rw [hcv] at HC hc0
 rw [hX, hY] at HC
 have HC := Qq HC
 have HL := Qq (fun w' sb (u : Upd NoF w w') (hsb : w.heap.size <= sb) (hS : StkV w' sb 0 .none) => divLarge_any T z z2 x y nz nz2 X Y n m sb 0 .none w' (hz.upd u) (hz2.upd u) (hx.upd0 u) (hy.upd0 u) hn hX hY rx ha hS
  (fun i hi (k : _ = sb) => by have := hz.lt (by omega); omega) (fun i hi (k : _ = sb) => by have := hz2.lt (by omega); omega) (fun i hi (k : _ = sb) => by have := hx.ok.lt (by omega); omega) (fun i hi (k : _ = sb) => by have := hy.ok.lt (by omega); omega) (hT.upd u (fun _ h => h)) hR (by omega) hm)
 have q1 : ((n : Int) == 0) = false := beq_eq_false_iff_ne.2 (by omega)
 have q2 : ((n : Int) == 1) = false := beq_eq_false_iff_ne.2 (by omega)
 have q3 : decide (cv < 0) = false := decide_eq_false hc0
 clear hz hz2 hx hy hn hX hY hle rx ha hT hR hb hm hcv
 go_enter_defers Tryz.func59, Tryz.ntmps59
 go_wp2_with fail
 refine HC.out.mono ?_
 rintro e w1 ⟨rfl, hw⟩
 have hu := hw.upd
 go_wp2_with fail
 refine (getStack_any w1).mono ?_
 rintro e w2 ⟨sb, rfl, hsb, hu2, hS⟩
 have hs1 := hu.size
 have hsb' : w.heap.size <= sb := by omega
 have HL2 := Qq (HL.out w2 sb (hu.trans hu2) hsb' hS)
 have HU := Qq (Qj (hu.trans hu2) hsb')
 clear hS hsb hs1 hu hu2 hw HL HC
 go_wp2_with fail
 refine HL2.out.mono ?_
 rintro e w3 ⟨r, r2, J', rfl, h1, h2, h3, h4, h5, h6, h7, h8, h9, h10⟩
 have HF := Qq (Qj h1 (Qj h2 (Qj h3 (Qj h4 (Qj h5 (Qj h6 (Qj h7 (Qj h8 (Qj h9 h10)))))))))
 clear h1 h2 h3 h4 h5 h6 h7 h8 h9 h10 HL2
 go_wp2_with fail
 refine leaves_cons (f := 86) (args := #[.pointer (some ⟨sb, 0, none⟩)]) (by simp) (by simp [go_sem]) ?_
 refine (free_d sb 0 J' .returning w3 HF.out.2.2.2.2.2.2.1).mono ?_
 rintro e u' w4 ⟨rfl, rfl, hS4, hU4⟩
 refine ⟨_, results_tmp2 rfl _ _ _, ?_⟩
 obtain ⟨h1, h2, h3, h4, h5, h6, h7, h8, h9, h10⟩ := HF.out
 obtain ⟨u1, hsb⟩ := HU.out
 have hs := u1.size
 refine ⟨r, r2, rfl, h1.imp id (fun h => h.imp (fun h => by omega) id), h2.imp id (fun h => h.imp (fun h => by omega) id), h3, ?_, h5.upd hU4 (fun i hi k => h9 i (Nat.lt_of_lt_of_le hi h5.le) k), h6.upd hU4 (fun i hi k => h10 i (Nat.lt_of_lt_of_le hi h6.le) k)⟩
 refine ((u1.mono (fun _ _ _ k => k.elim)).then h4 (fun _ _ _ k => k) ?_).then hU4 (fun _ _ _ k => k) ?_
 .
  rintro b i hb (k | k)
  . exact Or.inl k
  .
   have : b = sb := k
   omega
 .
  rintro b i hb k
  have k2 : b = sb := h8 0 b i (by omega) k
  omega
def DivAtT (T : Int) (X Y : Nat) : Prop := ∀ (z z2 x y : Loc) (nz nz2 : Nat) (w : World), z.Ok w -> z2.Ok w -> Zj z z2 -> NatV w x X -> NatV w y Y -> Rel z x -> Rel z2 x -> DThr w T →
 Calls Tryz.prog 59 #[.slice z.A nz z.c, .pointer none, .slice z2.A nz2 z2.c, .slice x.A (digs X).length x.c, .slice y.A (digs Y).length y.c] w fun e w' => ∃ k k2, DivRes w z z2 k k2 (X / Y) (X % Y) NoF e w'
theorem divAtT_any {T : Int} {X Y : Nat} (hY0 : Y ≠ 0) (hR : 2 <= (digs Y).length -> T <= ((digs Y).length : Int) -> RecSpec T (digs Y).length) (hb : 65 * G (digs Y).length <= 1099511627776) (hm : (digs X).length + 1 <= 1099511627776) : DivAtT T X Y := by
 intro z z2 x y nz nz2 w hz hz2 ha hx hy rx rx2 hT
 have h0 := mt (Zg (n := Y)).1 hY0
 by_cases h1 : (digs Y).length = 1
 . exact (div_one z z2 x y _ nz nz2 X Y w hz hz2 ha hx hy (by omega) h1 rx).mono (fun _ _ h => ⟨_, _, h⟩)
 .
  rcases Nat.lt_or_ge X Y with hl | hl
  . exact (div_less z z2 x y _ nz nz2 X Y w hz hz2 ha hx hy (by omega) (by omega) hl).mono (fun _ _ h => ⟨_, _, h⟩)
  .
   obtain ⟨m, hX⟩ : ∃ m, (digs X).length = (digs Y).length + m := ⟨(digs X).length - (digs Y).length, by have := Zn hl; omega⟩
   rw [hX]
   exact (div_large_nil T z z2 x y nz nz2 X Y _ m w hz hz2 hx hy (by omega) hX rfl hl rx2 ha hT (hR (by omega)) hb (by omega)).mono (fun _ _ h => ⟨_, _, h⟩)
end Go.Proofs.YthkklkjldpcbkaaGreatDoor
