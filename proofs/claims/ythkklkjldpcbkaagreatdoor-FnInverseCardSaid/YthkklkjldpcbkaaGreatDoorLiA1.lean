/- For the claim of laws.FnInverse: Ma, Mb, Mem, Bits, Ops. -/
import Derived.Below
import Derived.Deep.Draws
import Derived.Test.YthkklkjldpcbkaaGreatDoorProg
import Derived.WalkKit
import Derived.IntWalk
import Derived.Laws.Externs
import Derived.Laws.MathBits
import Derived.Deep.LoopGhost
import Derived.Deep.QuietTactic
import Derived.BigQuiet
import Derived.Lib.Hide
import Derived.Lib.Mul64
import Derived.Laws.Bits64b
import Derived.Laws.CopyOwn
import Derived.Laws.MakeOwn
import Derived.OwnWalk
import Derived.Laws.Slices
import Derived.Laws.Rows
import Derived.LaidEqlPtr
set_option linter.unusedVariables false
set_option linter.unusedSimpArgs false
namespace Go.Proofs.YthkklkjldpcbkaaGreatDoor
theorem Qj {a b : Prop} (x : a) (y : b) : a /\ b := ⟨x, y⟩
theorem Qq {p : Prop} (h : p) : Go.RowKit.Hid p := Go.Lib.hid h
def dig (b : Nat) : Nat -> Int -> List Nat
 | 0, _ => []
 | k + 1, n => (n % b).toNat :: dig b k (n / b)
def val (b : Nat) : List Nat -> Nat
 | [] => 0
 | x :: xs => x + b * val b xs
def Digs (b : Nat) (xs : List Nat) : Prop := ∀ x ∈ xs, x < b
section
variable {b : Nat}
@[simp] theorem val_nil : val b [] = 0 := rfl
@[simp] theorem Ye (x : Nat) (xs : List Nat) : val b (x :: xs) = x + b * val b xs := rfl
theorem Digs.nil : Digs b [] := by intro x h; cases h
theorem Digs.cons {x : Nat} {xs : List Nat} (h : x < b) (t : Digs b xs) : Digs b (x :: xs) := by
 intro y hy; cases hy with
 | head => exact h
 | tail _ h' => exact t y h'
theorem Digs.head {x : Nat} {xs : List Nat} (h : Digs b (x :: xs)) : x < b := h x (List.mem_cons_self ..)
theorem Digs.tail {x : Nat} {xs : List Nat} (h : Digs b (x :: xs)) : Digs b xs := fun y hy => h y (List.mem_cons_of_mem _ hy)
theorem Digs.append {xs ys : List Nat} (h : Digs b xs) (k : Digs b ys) : Digs b (xs ++ ys) := by
 intro x hx; rcases List.mem_append.1 hx with h1 | h1
 . exact h x h1
 . exact k x h1
theorem Digs.left {xs ys : List Nat} (h : Digs b (xs ++ ys)) : Digs b xs := fun x hx => h x (List.mem_append.2 (.inl hx))
theorem Digs.take {xs : List Nat} (h : Digs b xs) (k : Nat) : Digs b (xs.take k) := fun x hx => h x (List.mem_of_mem_take hx)
theorem Digs.drop {xs : List Nat} (h : Digs b xs) (k : Nat) : Digs b (xs.drop k) := fun x hx => h x (List.mem_of_mem_drop hx)
theorem Digs.get {xs : List Nat} (h : Digs b xs) (i : Nat) (hi : i < xs.length) : xs[i] < b := h _ (List.getElem_mem hi)
theorem Digs.replicate (hb : 0 < b) (n : Nat) : Digs b (List.replicate n 0) := by
 intro x hx; rw [(List.mem_replicate.1 hx).2]; exact hb
theorem val_append (xs ys : List Nat) : val b (xs ++ ys) = val b xs + b ^ xs.length * val b ys := by
 induction xs with
 | nil => simp
 | cons x xs ih => simp only [List.cons_append, Ye, ih, List.length_cons, Nat.pow_succ]; grind
theorem Zq (xs : List Nat) (k : Nat) (h : k <= xs.length) : val b xs = val b (xs.take k) + b ^ k * val b (xs.drop k) := by
 conv => lhs; rw [<- List.take_append_drop k xs]
 rw [val_append, List.length_take, Nat.min_eq_left h]
theorem val_lt (xs : List Nat) (h : Digs b xs) : val b xs < b ^ xs.length := by
 induction xs with
 | nil => simp
 | cons x xs ih =>
  have h1 := ih h.tail
  have h2 := h.head
  have : b * (val b xs + 1) <= b * b ^ xs.length := Nat.mul_le_mul_left _ h1
  simp only [Ye, List.length_cons, Nat.pow_succ]
  rw [Nat.mul_add] at this
  rw [Nat.mul_comm (b ^ xs.length) b]
  omega
theorem val_replicate (n : Nat) : val b (List.replicate n 0) = 0 := by
 induction n with
 | zero => rfl
 | succ n ih => simp [List.replicate_succ, ih]
@[simp] theorem dig_zero (n : Int) : dig b 0 n = [] := rfl
@[simp] theorem dig_succ (k : Nat) (n : Int) : dig b (k + 1) n = (n % b).toNat :: dig b k (n / b) := rfl
@[simp] theorem dig_length (k : Nat) (n : Int) : (dig b k n).length = k := by
 induction k generalizing n with
 | zero => rfl
 | succ k ih => simp [ih]
theorem val_take_succ (xs : List Nat) (k : Nat) (h : k < xs.length) : val b (xs.take (k + 1)) = val b (xs.take k) + b ^ k * xs[k] := by
 rw [List.take_succ_eq_append_getElem h, val_append, List.length_take, Nat.min_eq_left (by omega)]
 simp
end
def B64 : Nat := 18446744073709551616
theorem Zs : B64 = 18446744073709551616 := rfl
theorem Zy : 0 < B64 := by decide
theorem B64_one : 1 < B64 := by decide
def digs (n : Nat) : List Nat := if _h : n = 0 then [] else n % B64 :: digs (n / B64)
termination_by n
decreasing_by exact Nat.div_lt_self (by omega) B64_one
theorem Yg : digs 0 = [] := by rw [digs]; simp
theorem digs_pos {n : Nat} (h : n ≠ 0) : digs n = n % B64 :: digs (n / B64) := by rw [digs]; simp [h]
theorem Zv (n : Nat) : val B64 (digs n) = n := by
 induction n using Nat.strongRecOn with
 | ind n ih =>
  by_cases h : n = 0
  . subst h; rw [Yg]; rfl
  .
   rw [digs_pos h, Ye, ih (n / B64) (Nat.div_lt_self (by omega) B64_one)]
   exact Nat.mod_add_div n B64
theorem Yc (n : Nat) : Digs B64 (digs n) := by
 induction n using Nat.strongRecOn with
 | ind n ih =>
  by_cases h : n = 0
  . subst h; rw [Yg]; exact Digs.nil
  .
   rw [digs_pos h]
   exact Digs.cons (Nat.mod_lt _ Zy) (ih (n / B64) (Nat.div_lt_self (by omega) B64_one))
def Norm (xs : List Nat) : Prop := xs.getLast? ≠ some 0
theorem Norm.nil : Norm [] := by simp [Norm]
theorem norm_cons_ne {x : Nat} {xs : List Nat} (h : Norm (x :: xs)) : x + B64 * val B64 xs ≠ 0 := by
 induction xs generalizing x with
 | nil =>
  intro e
  have : x = 0 := by simpa using e
  subst this
  exact h rfl
 | cons y ys ih =>
  have h1 : Norm (y :: ys) := by unfold Norm at h ⊢; rwa [List.getLast?_cons_cons] at h
  have := ih h1
  intro e
  apply this
  rw [Ye] at e
  have hb := Zy
  have h2 : B64 * (y + B64 * val B64 ys) = 0 := by omega
  rcases Nat.mul_eq_zero.1 h2 with h3 | h3
  . omega
  . exact h3
theorem digs_val {xs : List Nat} (hd : Digs B64 xs) (hn : Norm xs) : digs (val B64 xs) = xs := by
 induction xs with
 | nil => rw [val_nil, Yg]
 | cons x xs ih =>
  have hne := norm_cons_ne hn
  rw [Ye, digs_pos hne]
  have h1 : (x + B64 * val B64 xs) % B64 = x := by rw [Nat.add_mul_mod_self_left]; exact Nat.mod_eq_of_lt hd.head
  have h2 : (x + B64 * val B64 xs) / B64 = val B64 xs := by rw [Nat.add_mul_div_left _ _ Zy, Nat.div_eq_of_lt hd.head, Nat.zero_add]
  rw [h1, h2]
  congr 1
  refine ih hd.tail ?_
  cases xs with
  | nil => exact Norm.nil
  | cons y ys => unfold Norm at hn ⊢; rwa [List.getLast?_cons_cons] at hn
theorem norm_digs (n : Nat) : Norm (digs n) := by
 induction n using Nat.strongRecOn with
 | ind n ih =>
  by_cases h : n = 0
  . subst h; rw [Yg]; exact Norm.nil
  .
   rw [digs_pos h]
   have h1 := ih (n / B64) (Nat.div_lt_self (by omega) B64_one)
   cases hq : digs (n / B64) with
   | nil =>
    have h2 := Zv (n / B64)
    rw [hq] at h2
    have h3 := Nat.mod_add_div n B64
    rw [<- h2] at h3
    have : n % B64 ≠ 0 := by intro e; rw [e] at h3; simp at h3; omega
    unfold Norm; simp [this]
   | cons y ys =>
    rw [hq] at h1
    unfold Norm at h1 ⊢; rwa [List.getLast?_cons_cons]
theorem digs_take {xs : List Nat} (hd : Digs B64 xs) (k : Nat) (hv : val B64 (xs.take k) = val B64 xs) (hn : Norm (xs.take k)) : digs (val B64 xs) = xs.take k := by
 rw [<- hv]; exact digs_val (hd.take k) hn
theorem digs_prefix {xs : List Nat} (hd : Digs B64 xs) : ∃ k, k <= xs.length /\ digs (val B64 xs) = xs.take k /\ val B64 (xs.take k) = val B64 xs := by
 induction xs with
 | nil => exact ⟨0, Nat.le_refl _, by rw [val_nil, Yg]; rfl, rfl⟩
 | cons x xs ih =>
  obtain ⟨k, h1, h2, h3⟩ := ih hd.tail
  by_cases h0 : x + B64 * val B64 xs = 0
  . refine ⟨0, Nat.zero_le _, by rw [Ye, h0, Yg]; rfl, by rw [Ye, h0]; rfl⟩
  .
   refine ⟨k + 1, by simp; omega, ?_, by rw [List.take_succ_cons, Ye, Ye, h3]⟩
   rw [Ye, digs_pos h0, List.take_succ_cons]
   have e1 : (x + B64 * val B64 xs) % B64 = x := by rw [Nat.add_mul_mod_self_left]; exact Nat.mod_eq_of_lt hd.head
   have e2 : (x + B64 * val B64 xs) / B64 = val B64 xs := by rw [Nat.add_mul_div_left _ _ Zy, Nat.div_eq_of_lt hd.head, Nat.zero_add]
   rw [e1, e2, h2]
theorem digs_len_le {xs : List Nat} (hd : Digs B64 xs) : (digs (val B64 xs)).length <= xs.length := by
 obtain ⟨k, h1, h2, _⟩ := digs_prefix hd
 rw [h2, List.length_take]; omega
theorem digs_eq_take {xs : List Nat} (hd : Digs B64 xs) : digs (val B64 xs) = xs.take (digs (val B64 xs)).length := by
 obtain ⟨k, h1, h2, _⟩ := digs_prefix hd
 conv => lhs; rw [h2]
 congr 1
 rw [h2, List.length_take]; omega
theorem Zg {n : Nat} : (digs n).length = 0 ↔ n = 0 := by
 constructor
 .
  intro h
  have h1 := Zv n
  rw [List.eq_nil_of_length_eq_zero h] at h1
  exact h1.symm
 . intro h; subst h; rw [Yg]; rfl
theorem digs_len_of_lt {n k : Nat} (h : n < B64 ^ k) : (digs n).length <= k := by
 induction k generalizing n with
 | zero =>
  have : n = 0 := by simpa using h
  subst this; rw [Yg]; simp
 | succ k ih =>
  by_cases h0 : n = 0
  . subst h0; rw [Yg]; simp
  .
   rw [digs_pos h0]
   have : n / B64 < B64 ^ k := by
    rw [Nat.div_lt_iff_lt_mul Zy, <- Nat.pow_succ]; exact h
   have := ih this
   simp; omega
theorem Yf (n : Nat) : n < B64 ^ (digs n).length := by
 have := val_lt (digs n) (Yc n)
 rwa [Zv] at this
theorem le_of_digs_len {n k : Nat} (h : (digs n).length = k + 1) : B64 ^ k <= n := by
 rcases Nat.lt_or_ge n (B64 ^ k) with h1 | h1
 . have := digs_len_of_lt h1; omega
 . exact h1
theorem Zn {m n : Nat} (h : m <= n) : (digs m).length <= (digs n).length :=
 digs_len_of_lt (Nat.lt_of_le_of_lt h (Yf n))
theorem digs_small {n : Nat} (h : n < B64) (h0 : n ≠ 0) : digs n = [n] := by
 rw [digs_pos h0, Nat.mod_eq_of_lt h, Nat.div_eq_of_lt h, Yg]
open Go.RowKit
inductive SameBut (F : Nat -> Prop) : Obj -> Obj -> Prop where
 | same (o : Obj) : SameBut F o o
 | cells (c c' : Array Value) (e : TypeId) (fr : Nat × Nat) (hs : c'.size = c.size) (h : ∀ i, ¬ F i -> c'[i]? = c[i]?) : SameBut F (.cells c e fr) (.cells c' e fr)
theorem SameBut.mono {F G : Nat -> Prop} {o o' : Obj} (h : SameBut F o o') (k : ∀ i, F i -> G i) : SameBut G o o' := by
 cases h with
 | same => exact .same _
 | cells c c' e fr hs h => exact .cells c c' e fr hs (fun i hi => h i (fun hf => hi (k i hf)))
theorem SameBut.trans {F : Nat -> Prop} {o o' o'' : Obj} (h : SameBut F o o') (k : SameBut F o' o'') : SameBut F o o'' := by
 cases h with
 | same => exact k
 | cells c c' e fr hs h =>
  cases k with
  | same => exact .cells c c' e fr hs h
  | cells _ c'' _ _ hs' h' => exact .cells c c'' e fr (hs'.trans hs) (fun i hi => (h' i hi).trans (h i hi))
structure Upd (F : Nat -> Nat -> Prop) (w w' : World) : Prop where
 os : w'.os = w.os
 tape : w'.tape = w.tape
 output : w'.output = w.output
 size : w.heap.size <= w'.heap.size
 keep : ∀ b o, w.heap[b]? = some o -> ∃ o', w'.heap[b]? = some o' /\ SameBut (F b) o o'
def NoF : Nat -> Nat -> Prop := fun _ _ => False
def Rg (b lo hi : Nat) : Nat -> Nat -> Prop := fun b' i => b' = b /\ lo <= i /\ i < hi
def Or2 (F G : Nat -> Nat -> Prop) : Nat -> Nat -> Prop := fun b i => F b i \/ G b i
theorem Upd.refl (F : Nat -> Nat -> Prop) (w : World) : Upd F w w := ⟨rfl, rfl, rfl, Nat.le_refl _, fun _ o h => ⟨o, h, .same _⟩⟩
theorem heap_lt {w : World} {b : Nat} {o : Obj} (h : w.heap[b]? = some o) : b < w.heap.size := (Array.getElem?_eq_some_iff.1 h).1
theorem Upd.mono {F G : Nat -> Nat -> Prop} {w w' : World} (h : Upd F w w') (k : ∀ b i, b < w.heap.size -> F b i -> G b i) : Upd G w w' :=
 ⟨h.os, h.tape, h.output, h.size, fun b o hb => by
  obtain ⟨o', h1, h2⟩ := h.keep b o hb
  exact ⟨o', h1, h2.mono (fun i hi => k b i (heap_lt hb) hi)⟩⟩
theorem Upd.trans {F : Nat -> Nat -> Prop} {w w' w'' : World} (h : Upd F w w') (k : Upd F w' w'') : Upd F w w'' :=
 ⟨k.os.trans h.os, k.tape.trans h.tape, k.output.trans h.output, Nat.le_trans h.size k.size, fun b o hb => by
  obtain ⟨o', h1, h2⟩ := h.keep b o hb
  obtain ⟨o'', h3, h4⟩ := k.keep b o' h1
  exact ⟨o'', h3, h2.trans h4⟩⟩
theorem Upd.then {F G H : Nat -> Nat -> Prop} {w w' w'' : World} (h : Upd F w w') (k : Upd G w' w'') (hF : ∀ b i, b < w.heap.size -> F b i -> H b i)
  (hG : ∀ b i, b < w.heap.size -> G b i -> H b i) : Upd H w w'' :=
 ⟨k.os.trans h.os, k.tape.trans h.tape, k.output.trans h.output, Nat.le_trans h.size k.size, fun b o hb => by
  obtain ⟨o', h1, h2⟩ := h.keep b o hb
  obtain ⟨o'', h3, h4⟩ := k.keep b o' h1
  exact ⟨o'', h3, (h2.mono (fun i hi => hF b i (heap_lt hb) hi)).trans (h4.mono (fun i hi => hG b i (heap_lt hb) hi))⟩⟩
theorem Upd.drewN {F : Nat -> Nat -> Prop} {w w' : World} (h : Upd F w w') (n : Nat) : Upd F w (w'.drewN n) := ⟨h.os, h.tape, h.output, h.size, h.keep⟩
theorem Upd.drew {F : Nat -> Nat -> Prop} {w w' : World} (h : Upd F w w') : Upd F w w'.drew := ⟨h.os, h.tape, h.output, h.size, h.keep⟩
theorem Upd.alloc {F : Nat -> Nat -> Prop} {w w' : World} (h : Upd F w w') (o : Obj) : Upd F w (w'.alloc o) :=
 ⟨h.os, h.tape, h.output, by rw [World.size_alloc]; have := h.size; omega, fun b x hb => by
  obtain ⟨o', h1, h2⟩ := h.keep b x hb
  exact ⟨o', (Below.heap_alloc w' o b (heap_lt h1)).trans h1, h2⟩⟩
theorem Upd.setCell {F : Nat -> Nat -> Prop} {w w' : World} (h : Upd F w w') {b i : Nat} (hF : b < w.heap.size -> F b i) (v : Value) : Upd F w (w'.setCell ⟨b, i, none⟩ v) := by
 refine ⟨h.os, h.tape, h.output, by rw [World.size_setCell]; exact h.size, fun b' x hb => ?_⟩
 obtain ⟨o', h1, h2⟩ := h.keep b' x hb
 by_cases e : b' = b
 .
  subst e
  have hf := hF (heap_lt hb)
  cases o' with
  | cells c e fr =>
   refine ⟨.cells (c.setIfInBounds i v) e fr, ?_, h2.trans (.cells c _ e fr (by simp) (fun j hj => ?_))⟩
   . simp [World.setCell, Array.getElem?_modify, h1]
   .
    rw [Array.getElem?_setIfInBounds]
    rw [if_neg]
    intro e; exact hj (e ▸ hf)
  | _ => exact ⟨_, by simp [World.setCell, Array.getElem?_modify, h1], h2⟩
 . exact ⟨o', (Below.heap_setCell w' ⟨b, i, none⟩ v b' e).trans h1, h2⟩
theorem Upd.ofBelow {F : Nat -> Nat -> Prop} {w w' : World} (h : Below w.heap.size w w') : Upd F w w' :=
 ⟨h.os, h.tape, h.output, h.size, fun b o hb => ⟨o, (h.block b (heap_lt hb)).trans hb, .same _⟩⟩
theorem Upd.below {F : Nat -> Nat -> Prop} {w w' : World} (h : Upd F w w') (B : Nat) (hB : B <= w.heap.size) (hF : ∀ b i, b < B -> ¬ F b i) : Below B w w' := by
 refine ⟨h.os, h.tape, h.output, h.size, fun k hk => ?_⟩
 cases hh : w.heap[k]? with
 | none => simp at hh; omega
 | some o =>
  obtain ⟨o', h1, h2⟩ := h.keep k o hh
  rw [h1]
  cases h2 with
  | same => rfl
  | cells c c' e fr hs h =>
   have : c' = c := Array.ext_getElem? (fun i => h i (hF k i hk))
   rw [this]
theorem Upd.cell {F : Nat -> Nat -> Prop} {w w' : World} (h : Upd F w w') {b i : Nat} {v : Value} (hc : w.cell? ⟨b, i, none⟩ = some v) (hF : ¬ F b i) : w'.cell? ⟨b, i, none⟩ = some v := by
 cases hh : w.heap[b]? with
 | none => simp [World.cell?, hh] at hc
 | some o =>
  obtain ⟨o', h1, h2⟩ := h.keep b o hh
  cases h2 with
  | same => simpa [World.cell?, h1, hh] using hc
  | cells c c' e fr hs h =>
   simp only [World.cell?, hh] at hc
   simp only [World.cell?, h1]
   simp at hc ⊢
   rw [h i hF]; exact hc
theorem Upd.alive {F : Nat -> Nat -> Prop} {w w' : World} (h : Upd F w w') {b i : Nat} {v : Value} (hc : w.cell? ⟨b, i, none⟩ = some v) : ∃ v', w'.cell? ⟨b, i, none⟩ = some v' := by
 cases hh : w.heap[b]? with
 | none => simp [World.cell?, hh] at hc
 | some o =>
  obtain ⟨o', h1, h2⟩ := h.keep b o hh
  cases h2 with
  | same => exact ⟨v, by simpa [World.cell?, h1, hh] using hc⟩
  | cells c c' e fr hs h =>
   simp only [World.cell?, hh] at hc
   simp at hc
   have hi : i < c.size := (Array.getElem?_eq_some_iff.1 hc).1
   exact ⟨c'[i]'(by omega), by simp [World.cell?, h1]⟩
def Free (w : World) (b : Nat) : Prop := ∃ (c : Array Value) (e : TypeId), w.heap[b]? = some (.cells c e (0, 0))
def Zh (T : TypeId) (w : World) (b i : Nat) (v : Value) : Prop := ∃ c : Array Value, w.heap[b]? = some (.cells c T (0, 0)) /\ c[i]? = some v
theorem Zh.cell {T : TypeId} {w : World} {b i : Nat} {v : Value} (h : Zh T w b i v) : w.cell? ⟨b, i, none⟩ = some v := by
 obtain ⟨c, h1, h2⟩ := h
 simp [World.cell?, h1, h2]
theorem Zh.frozen {T : TypeId} {w : World} {b i : Nat} {v : Value} (h : Zh T w b i v) : w.frozen? ⟨b, i, none⟩ = false := by
 obtain ⟨c, h1, h2⟩ := h
 simp [World.frozen?, h1]
theorem Zh.free {T : TypeId} {w : World} {b i : Nat} {v : Value} (h : Zh T w b i v) : Free w b := let ⟨c, h1, _⟩ := h; ⟨c, T, h1⟩
theorem Free.lt {w : World} {b : Nat} (h : Free w b) : b < w.heap.size := let ⟨_, _, h1⟩ := h; heap_lt h1
theorem Zh.lt {T : TypeId} {w : World} {b i : Nat} {v : Value} (h : Zh T w b i v) : b < w.heap.size := h.free.lt
theorem Zh.ne {T T' : TypeId} {w : World} {b i b' i' : Nat} {v v' : Value} (h : Zh T w b i v) (k : Zh T' w b' i' v') (hT : T ≠ T') : b ≠ b' := by
 rintro rfl
 obtain ⟨c, h1, _⟩ := h
 obtain ⟨c', k1, _⟩ := k
 rw [h1] at k1
 cases k1
 exact hT rfl
theorem Free.upd {F : Nat -> Nat -> Prop} {w w' : World} {b : Nat} (c : Free w b) (h : Upd F w w') : Free w' b := by
 obtain ⟨c, e, h1⟩ := c
 obtain ⟨o', h3, h4⟩ := h.keep b _ h1
 cases h4 with
 | same => exact ⟨_, _, h3⟩
 | cells _ c' _ _ hs k => exact ⟨_, _, h3⟩
theorem Zh.upd {T : TypeId} {F : Nat -> Nat -> Prop} {w w' : World} {b i : Nat} {v : Value} (c : Zh T w b i v) (h : Upd F w w') (hF : ¬ F b i) : Zh T w' b i v := by
 obtain ⟨c, h1, h2⟩ := c
 obtain ⟨o', h3, h4⟩ := h.keep b _ h1
 cases h4 with
 | same => exact ⟨_, h3, h2⟩
 | cells _ c' _ _ hs k => exact ⟨_, h3, by rw [k i hF]; exact h2⟩
theorem Zh.alive {T : TypeId} {F : Nat -> Nat -> Prop} {w w' : World} {b i : Nat} {v : Value} (c : Zh T w b i v) (h : Upd F w w') : ∃ v', Zh T w' b i v' := by
 obtain ⟨c, h1, h2⟩ := c
 obtain ⟨o', h3, h4⟩ := h.keep b _ h1
 cases h4 with
 | same => exact ⟨v, _, h3, h2⟩
 | cells _ c' _ _ hs k =>
  have hi := (Array.getElem?_eq_some_iff.1 h2).1
  exact ⟨c'[i]'(by omega), _, h3, by simp [show i < c'.size by omega]⟩
theorem setCell_heap {w : World} {b i : Nat} {c : Array Value} {e : TypeId} {fr : Nat × Nat} (h : w.heap[b]? = some (.cells c e fr)) (u : Value) :
  (w.setCell ⟨b, i, none⟩ u).heap[b]? = some (.cells (c.setIfInBounds i u) e fr) := by simp [World.setCell, Array.getElem?_modify, h]
theorem Free.set {w : World} {b : Nat} (h : Free w b) (a : Addr) (u : Value) (ha : a.spot = none) : Free (w.setCell a u) b := by
 obtain ⟨c, e, h1⟩ := h
 obtain ⟨b', i, s⟩ := a
 cases ha
 by_cases hb : b = b'
 . subst hb; exact ⟨_, _, setCell_heap h1 u⟩
 . exact ⟨c, e, (Below.heap_setCell w ⟨b', i, none⟩ u b hb).trans h1⟩
theorem Zh.set {T : TypeId} {w : World} {b i : Nat} {v : Value} (h : Zh T w b i v) (u : Value) : Zh T (w.setCell ⟨b, i, none⟩ u) b i u := by
 obtain ⟨c, h1, h2⟩ := h
 refine ⟨_, setCell_heap h1 u, ?_⟩
 have hi := (Array.getElem?_eq_some_iff.1 h2).1
 simp [hi]
theorem Zh.far {T : TypeId} {w : World} {b i : Nat} {v : Value} (h : Zh T w b i v) {b' i' : Nat} (u : Value) (hne : b' ≠ b \/ i' ≠ i) : Zh T (w.setCell ⟨b', i', none⟩ u) b i v := by
 obtain ⟨c, h1, h2⟩ := h
 by_cases hb : b = b'
 .
  subst hb
  refine ⟨_, setCell_heap h1 u, ?_⟩
  rw [Array.getElem?_setIfInBounds, if_neg (by omega)]; exact h2
 . exact ⟨c, (Below.heap_setCell w ⟨b', i', none⟩ u b hb).trans h1, h2⟩
theorem Zh.new {w : World} {xs : Array Value} {T : TypeId} {i : Nat} {v : Value} (h : xs[i]? = some v) (hh : (w.alloc (.cells xs T)).heap[w.heap.size]? = some (.cells xs T (0, 0))) : Zh T (w.alloc (.cells xs T)) w.heap.size i v := ⟨xs, hh, h⟩
def special : List TypeId := [58, 129, 138, 24, 3, 54]
def Cell (w : World) (b i : Nat) (v : Value) : Prop := ∃ T, T ∉ special /\ Zh T w b i v
theorem Zh.word {w : World} {b i : Nat} {v : Value} (h : Zh 81 w b i v) : Cell w b i v := ⟨_, by decide, h⟩
theorem Cell.cell {w : World} {b i : Nat} {v : Value} (h : Cell w b i v) : w.cell? ⟨b, i, none⟩ = some v := let ⟨_, _, h⟩ := h; h.cell
theorem Cell.frozen {w : World} {b i : Nat} {v : Value} (h : Cell w b i v) : w.frozen? ⟨b, i, none⟩ = false := let ⟨_, _, h⟩ := h; h.frozen
theorem Cell.free {w : World} {b i : Nat} {v : Value} (h : Cell w b i v) : Free w b := let ⟨_, _, h⟩ := h; h.free
theorem Cell.lt {w : World} {b i : Nat} {v : Value} (h : Cell w b i v) : b < w.heap.size := h.free.lt
theorem Cell.upd {F : Nat -> Nat -> Prop} {w w' : World} {b i : Nat} {v : Value} (c : Cell w b i v) (h : Upd F w w') (hF : ¬ F b i) : Cell w' b i v := let ⟨T, k, c⟩ := c; ⟨T, k, c.upd h hF⟩
theorem Cell.alive {F : Nat -> Nat -> Prop} {w w' : World} {b i : Nat} {v : Value} (c : Cell w b i v) (h : Upd F w w') : ∃ v', Cell w' b i v' := let ⟨T, k, c⟩ := c; let ⟨v', c'⟩ := c.alive h; ⟨v', T, k, c'⟩
theorem Cell.set {w : World} {b i : Nat} {v : Value} (h : Cell w b i v) (u : Value) : Cell (w.setCell ⟨b, i, none⟩ u) b i u := let ⟨T, k, c⟩ := h; ⟨T, k, c.set u⟩
theorem Cell.far {w : World} {b i : Nat} {v : Value} (h : Cell w b i v) {b' i' : Nat} (u : Value) (hne : b' ≠ b \/ i' ≠ i) : Cell (w.setCell ⟨b', i', none⟩ u) b i v := let ⟨T, k, c⟩ := h; ⟨T, k, c.far u hne⟩
theorem Zh.neW {T : TypeId} {w : World} {b i b' i' : Nat} {v v' : Value} (h : Zh T w b i v) (k : Cell w b' i' v') (hT : T ∈ special) : b ≠ b' := by
 obtain ⟨T', k1, k2⟩ := k
 exact h.ne k2 (fun e => k1 (e ▸ hT))
def U64 (w : World) (b o : Nat) (xs : List Nat) : Prop := ∀ i, (h : i < xs.length) -> Cell w b (o + i) (.int .u64 (xs[i] : Nat))
theorem U64.nil (w : World) (b o : Nat) : U64 w b o [] := fun i h => by simp at h
theorem U64.cell {w : World} {b o : Nat} {xs : List Nat} (h : U64 w b o xs) (i : Nat) (hi : i < xs.length) : w.cell? ⟨b, o + i, none⟩ = some (.int .u64 (xs[i] : Nat)) := (h i hi).cell
theorem U64.lt {w : World} {b o : Nat} {xs : List Nat} (h : U64 w b o xs) (h0 : 0 < xs.length) : b < w.heap.size := (h 0 h0).lt
theorem U64.upd {F : Nat -> Nat -> Prop} {w w' : World} {b o : Nat} {xs : List Nat} (h : U64 w b o xs) (u : Upd F w w') (hF : ∀ i, i < xs.length -> ¬ F b (o + i)) : U64 w' b o xs :=
 fun i hi => (h i hi).upd u (hF i hi)
theorem U64.updR {w w' : World} {b o : Nat} {xs : List Nat} {b' lo hi : Nat} (h : U64 w b o xs) (u : Upd (Rg b' lo hi) w w') (hF : b ≠ b' \/ o + xs.length <= lo \/ hi <= o) : U64 w' b o xs :=
 h.upd u (fun i hi ⟨e, h1, h2⟩ => by omega)
theorem U64.drop {w : World} {b o : Nat} {xs : List Nat} (h : U64 w b o xs) (k : Nat) : U64 w b (o + k) (xs.drop k) := by
 intro i hi
 rw [List.length_drop] at hi
 have := h (k + i) (by omega)
 rw [List.getElem_drop, show o + k + i = o + (k + i) from by omega]; exact this
theorem U64.take {w : World} {b o : Nat} {xs : List Nat} (h : U64 w b o xs) (k : Nat) : U64 w b o (xs.take k) := by
 intro i hi
 rw [List.length_take] at hi
 rw [List.getElem_take]; exact h i (by omega)
theorem U64.append {w : World} {b o : Nat} {xs ys : List Nat} (h : U64 w b o xs) (k : U64 w b (o + xs.length) ys) : U64 w b o (xs ++ ys) := by
 intro i hi
 rw [List.length_append] at hi
 by_cases hx : i < xs.length
 . rw [List.getElem_append_left hx]; exact h i hx
 .
  rw [List.getElem_append_right (by omega)]
  have := k (i - xs.length) (by omega)
  rw [show o + xs.length + (i - xs.length) = o + i from by omega] at this
  exact this
theorem U64.left {w : World} {b o : Nat} {xs ys : List Nat} (h : U64 w b o (xs ++ ys)) : U64 w b o xs := by
 have := h.take xs.length; rwa [List.take_left' rfl] at this
theorem U64.right {w : World} {b o : Nat} {xs ys : List Nat} (h : U64 w b o (xs ++ ys)) : U64 w b (o + xs.length) ys := by
 have := h.drop xs.length; rwa [List.drop_left' rfl] at this
theorem U64.snoc {w : World} {b o : Nat} {xs : List Nat} {x : Nat} (h : U64 w b o xs) (k : Cell w b (o + xs.length) (.int .u64 (x : Nat))) : U64 w b o (xs ++ [x]) :=
 h.append (fun i hi => by
  have : i = 0 := by simpa using hi
  subst this; exact k)
theorem U64.cons {w : World} {b o : Nat} {xs : List Nat} {x : Nat} (k : Cell w b o (.int .u64 (x : Nat))) (h : U64 w b (o + 1) xs) : U64 w b o (x :: xs) := by
 intro i hi
 cases i with
 | zero => exact k
 | succ i =>
  have := h i (by simpa using hi)
  rw [show o + 1 + i = o + (i + 1) from by omega] at this
  exact this
theorem U64.drewN {w : World} {b o : Nat} {xs : List Nat} (h : U64 w b o xs) (n : Nat) : U64 (w.drewN n) b o xs := h
theorem U64.drew {w : World} {b o : Nat} {xs : List Nat} (h : U64 w b o xs) : U64 w.drew b o xs := h
theorem U64.far {w : World} {b o : Nat} {xs : List Nat} (h : U64 w b o xs) {b' i' : Nat} (u : Value) (hne : b' ≠ b \/ i' < o \/ o + xs.length <= i') : U64 (w.setCell ⟨b', i', none⟩ u) b o xs :=
 fun i hi => (h i hi).far u (by omega)
theorem U64.set {w : World} {b o : Nat} {xs : List Nat} (h : U64 w b o xs) (k x : Nat) (hk : k < xs.length) : U64 (w.setCell ⟨b, o + k, none⟩ (.int .u64 (x : Nat))) b o (xs.set k x) := by
 intro i hi
 rw [List.length_set] at hi
 by_cases e : k = i
 .
  subst e
  rw [List.getElem_set_self]
  exact (h k hk).set _
 .
  rw [List.getElem_set_ne e]
  exact (h i hi).far _ (by omega)
def CellR (w : World) (b i : Nat) (v : Value) : Prop := ∃ T, Zh T w b i v
theorem Cell.r {w : World} {b i : Nat} {v : Value} (h : Cell w b i v) : CellR w b i v := let ⟨T, _, h⟩ := h; ⟨T, h⟩
theorem CellR.cell {w : World} {b i : Nat} {v : Value} (h : CellR w b i v) : w.cell? ⟨b, i, none⟩ = some v := let ⟨_, h⟩ := h; h.cell
theorem CellR.frozen {w : World} {b i : Nat} {v : Value} (h : CellR w b i v) : w.frozen? ⟨b, i, none⟩ = false := let ⟨_, h⟩ := h; h.frozen
theorem CellR.free {w : World} {b i : Nat} {v : Value} (h : CellR w b i v) : Free w b := let ⟨_, h⟩ := h; h.free
theorem CellR.lt {w : World} {b i : Nat} {v : Value} (h : CellR w b i v) : b < w.heap.size := h.free.lt
theorem CellR.upd {F : Nat -> Nat -> Prop} {w w' : World} {b i : Nat} {v : Value} (c : CellR w b i v) (h : Upd F w w') (hF : ¬ F b i) : CellR w' b i v := let ⟨T, c⟩ := c; ⟨T, c.upd h hF⟩
theorem CellR.far {w : World} {b i : Nat} {v : Value} (h : CellR w b i v) {b' i' : Nat} (u : Value) (hne : b' ≠ b \/ i' ≠ i) : CellR (w.setCell ⟨b', i', none⟩ u) b i v := let ⟨T, c⟩ := h; ⟨T, c.far u hne⟩
def R64 (w : World) (b o : Nat) (xs : List Nat) : Prop := ∀ i, (h : i < xs.length) -> CellR w b (o + i) (.int .u64 (xs[i] : Nat))
theorem U64.r {w : World} {b o : Nat} {xs : List Nat} (h : U64 w b o xs) : R64 w b o xs := fun i hi => (h i hi).r
instance {w : World} {b o : Nat} {xs : List Nat} : Coe (U64 w b o xs) (R64 w b o xs) := ⟨U64.r⟩
theorem R64.cell {w : World} {b o : Nat} {xs : List Nat} (h : R64 w b o xs) (i : Nat) (hi : i < xs.length) : w.cell? ⟨b, o + i, none⟩ = some (.int .u64 (xs[i] : Nat)) := (h i hi).cell
theorem R64.lt {w : World} {b o : Nat} {xs : List Nat} (h : R64 w b o xs) (h0 : 0 < xs.length) : b < w.heap.size := (h 0 h0).lt
theorem R64.upd {F : Nat -> Nat -> Prop} {w w' : World} {b o : Nat} {xs : List Nat} (h : R64 w b o xs) (u : Upd F w w') (hF : ∀ i, i < xs.length -> ¬ F b (o + i)) : R64 w' b o xs :=
 fun i hi => (h i hi).upd u (hF i hi)
theorem R64.drop {w : World} {b o : Nat} {xs : List Nat} (h : R64 w b o xs) (k : Nat) : R64 w b (o + k) (xs.drop k) := by
 intro i hi
 rw [List.length_drop] at hi
 have := h (k + i) (by omega)
 rw [List.getElem_drop, show o + k + i = o + (k + i) from by omega]; exact this
theorem R64.drewN {w : World} {b o : Nat} {xs : List Nat} (h : R64 w b o xs) (n : Nat) : R64 (w.drewN n) b o xs := h
theorem R64.drew {w : World} {b o : Nat} {xs : List Nat} (h : R64 w b o xs) : R64 w.drew b o xs := h
theorem R64.far {w : World} {b o : Nat} {xs : List Nat} (h : R64 w b o xs) {b' i' : Nat} (u : Value) (hne : b' ≠ b \/ i' < o \/ o + xs.length <= i') : R64 (w.setCell ⟨b', i', none⟩ u) b o xs :=
 fun i hi => (h i hi).far u (by omega)
def Live (w : World) (b o n : Nat) : Prop := ∀ i, i < n -> ∃ v, Cell w b (o + i) v
theorem Live.nil (w : World) (b o : Nat) : Live w b o 0 := fun i h => absurd h (Nat.not_lt_zero i)
theorem Live.at_ {w : World} {b o n : Nat} (h : Live w b o n) {k : Nat} (hk : k < n) : ∃ v, w.cell? ⟨b, o + k, none⟩ = some v /\ w.frozen? ⟨b, o + k, none⟩ = false /\ Cell w b (o + k) v := by
 obtain ⟨v, hv⟩ := h k hk
 exact ⟨v, hv.cell, hv.frozen, hv⟩
theorem Live.free {w : World} {b o n : Nat} (h : Live w b o n) (h0 : 0 < n) : Free w b := let ⟨_, hv⟩ := h 0 h0; hv.free
theorem Live.upd {F : Nat -> Nat -> Prop} {w w' : World} {b o n : Nat} (h : Live w b o n) (u : Upd F w w') : Live w' b o n := fun i hi => let ⟨_, hv⟩ := h i hi; hv.alive u
theorem Live.drewN {w : World} {b o n : Nat} (h : Live w b o n) (m : Nat) : Live (w.drewN m) b o n := h
theorem Live.drew {w : World} {b o n : Nat} (h : Live w b o n) : Live w.drew b o n := h
theorem Live.sub {w : World} {b o n : Nat} (h : Live w b o n) (k m : Nat) (hk : k + m <= n) : Live w b (o + k) m := fun i hi => by
 rw [Nat.add_assoc]; exact h (k + i) (by omega)
theorem Live.le {w : World} {b o n : Nat} (h : Live w b o n) {m : Nat} (hm : m <= n) : Live w b o m := fun i hi => h i (by omega)
theorem Live.set {w : World} {b o n : Nat} (h : Live w b o n) (b' i' : Nat) (v : Value) : Live (w.setCell ⟨b', i', none⟩ v) b o n := fun i hi => by
 obtain ⟨u, hu⟩ := h i hi
 by_cases e : b' = b /\ i' = o + i
 . obtain ⟨rfl, rfl⟩ := e; exact ⟨v, hu.set v⟩
 . exact ⟨u, hu.far v (by omega)⟩
theorem R64.own {w : World} {b o n : Nat} {xs : List Nat} (h : R64 w b o xs) (hl : Live w b o n) (hn : xs.length <= n) : U64 w b o xs := fun i hi => by
 obtain ⟨v, hv⟩ := hl i (by omega)
 have h1 := hv.cell
 rw [(h i hi).cell] at h1
 cases h1
 exact hv
theorem U64.live {w : World} {b o : Nat} {xs : List Nat} (h : U64 w b o xs) : Live w b o xs.length := fun i hi => ⟨_, h i hi⟩
theorem add64_law (x y c : Int) (hx : 0 <= x) (hy : 0 <= y) (hc0 : 0 <= c) (hc : c <= 1) (w : World) :
  (callFunc 131 #[.int .u64 x, .int .u64 y, .int .u64 c]).run Tryz.prog w =
   .ok (.value (.tuple #[.int .u64 ((x + y + c) % 18446744073709551616), .int .u64 ((x + y + c) / 18446744073709551616)])) w := by
 rw [run_callFunc_extern Tryz.func131 (by kernel_rfl) (by kernel_rfl) (by kernel_rfl) (e := add64Entry) (by kernel_rfl), run_add64 x y c hx hy hc0 hc]
 rfl
theorem Add_any (x y c : Int) (hx : 0 <= x) (hy : 0 <= y) (hc0 : 0 <= c) (hc : c <= 1) (w : World) :
  Calls Tryz.prog 111 #[.int .u64 x, .int .u64 y, .int .u64 c] w fun e w' => e = .returned (.tuple #[.int .u64 ((x + y + c) % 18446744073709551616), .int .u64 ((x + y + c) / 18446744073709551616)]) /\ w' = w := by
 have h := add64_law x y c hx hy hc0 hc
 go_enter Tryz.func111, Tryz.ntmps111
 go_wp2
 go_ret2
 exact ⟨rfl, rfl⟩
def sub64Row : Array Value -> Sem Value := fun args => do
 let (x, y, b) ← Extern.MathBitsCarry.three "Sub64" args
 pure (Extern.MathBitsCarry.pair ((x + Extern.MathBitsCarry.m64 - y - b) % Extern.MathBitsCarry.m64) (if x < y + b then 1 else 0))
def bor (x y b : Int) : Int := if x < y + b then 1 else 0
theorem run_sub64Row {P : Program} (x y b : Int) (hx : 0 <= x) (hy : 0 <= y) (hy2 : y < 18446744073709551616) (hb0 : 0 <= b) (hb : b <= 1) (w : World) :
  (sub64Row #[.int .u64 x, .int .u64 y, .int .u64 b]).run P w = .ok (.tuple #[.int .u64 ((x - y - b) % 18446744073709551616), .int .u64 (bor x y b)]) w := by
 have key : ∀ k : Nat, k <= 1 -> (sub64Row #[.int .u64 x, .int .u64 y, .int .u64 (k : Int)]).run P w =
   .ok (Extern.MathBitsCarry.pair ((x.toNat + Extern.MathBitsCarry.m64 - y.toNat - k) % Extern.MathBitsCarry.m64) (if x.toNat < y.toNat + k then 1 else 0)) w := by
  intro k hk
  have : k = 0 \/ k = 1 := by omega
  rcases this with rfl | rfl <;> rfl
 obtain ⟨k, rfl⟩ := Int.eq_ofNat_of_zero_le hb0
 rw [key k (by omega)]
 obtain ⟨X, rfl⟩ := Int.eq_ofNat_of_zero_le hx
 obtain ⟨Y, rfl⟩ := Int.eq_ofNat_of_zero_le hy
 simp only [Extern.MathBitsCarry.pair, Extern.MathBitsCarry.m64, Int.toNat_natCast]
 have e1 : Int.ofNat ((X + 2 ^ 64 - Y - k) % 2 ^ 64) = ((X : Int) - (Y : Int) - (k : Int)) % 18446744073709551616 := by
  show (((X + 2 ^ 64 - Y - k) % 2 ^ 64 : Nat) : Int) = _
  omega
 have e2 : Int.ofNat (if X < Y + k then 1 else 0) = bor (X : Int) (Y : Int) (k : Int) := by
  unfold bor
  by_cases h : X < Y + k
  . rw [if_pos h, if_pos (by omega)]; rfl
  . rw [if_neg h, if_neg (by omega)]; rfl
 rw [e1, e2]
theorem sub64_law (x y b : Int) (hx : 0 <= x) (hy : 0 <= y) (hy2 : y < 18446744073709551616) (hb0 : 0 <= b) (hb : b <= 1) (w : World) :
  (callFunc 133 #[.int .u64 x, .int .u64 y, .int .u64 b]).run Tryz.prog w = .ok (.value (.tuple #[.int .u64 ((x - y - b) % 18446744073709551616), .int .u64 (bor x y b)])) w := by
 rw [run_callFunc_extern Tryz.func133 (by kernel_rfl) (by kernel_rfl) (by kernel_rfl) (e := sub64Row) (by kernel_rfl), run_sub64Row x y b hx hy hy2 hb0 hb]
 rfl
theorem Sub_any (x y b : Int) (hx : 0 <= x) (hy : 0 <= y) (hy2 : y < 18446744073709551616) (hb0 : 0 <= b) (hb : b <= 1) (w : World) :
  Calls Tryz.prog 113 #[.int .u64 x, .int .u64 y, .int .u64 b] w fun e w' => e = .returned (.tuple #[.int .u64 ((x - y - b) % 18446744073709551616), .int .u64 (bor x y b)]) /\ w' = w := by
 have h := sub64_law x y b hx hy hy2 hb0 hb
 go_enter Tryz.func113, Tryz.ntmps113
 go_wp2
 go_ret2
 exact ⟨rfl, rfl⟩
theorem mulN (a b : Nat) : (a : Int) * (b : Int) = ((a * b : Nat) : Int) := (Int.natCast_mul a b).symm
theorem addN (a b : Nat) : (a : Int) + (b : Int) = ((a + b : Nat) : Int) := (Int.natCast_add a b).symm
theorem wrapN (a : Nat) (ha : a < 18446744073709551616) : IntKind.u64.wrap (a : Int) = (a : Int) := by rw [IntKind.wrap_u64]; omega
theorem wrapM (a : Nat) : IntKind.u64.wrap (a : Int) = ((a % 18446744073709551616 : Nat) : Int) := by rw [IntKind.wrap_u64]; omega
theorem maskN (a : Nat) (ha : a < 18446744073709551616) : bits .and .u64 (a : Int) 4294967295 = ((a % 4294967296 : Nat) : Int) := by
 have h := bits_and_u64_nat a 4294967295 ha (by omega)
 have e : a &&& 4294967295 = a % 4294967296 := Nat.and_two_pow_sub_one_eq_mod a 32
 rw [e] at h
 exact h
theorem divN (a : Nat) : (a : Int) / 4294967296 = ((a / 4294967296 : Nat) : Int) := by omega
set_option maxHeartbeats 1000000 in
theorem Mul64_any (x y : Nat) (hx : x < 18446744073709551616) (hy : y < 18446744073709551616) (w : World) :
  Calls Tryz.prog 140 #[.int .u64 (x : Int), .int .u64 (y : Int)] w fun e w' => e = .returned (.tuple #[.int .u64 ((x * y / 18446744073709551616 : Nat) : Int), .int .u64 ((x * y % 18446744073709551616 : Nat) : Int)]) /\ w' = w := by
 obtain ⟨bd, bt, bw, hhi⟩ := Lib.mul64_hi x y hx hy
 have ba := Lib.half_mul_le (a := x / 4294967296) (b := y / 4294967296) (by omega) (by omega)
 have bb := Lib.half_mul_le (a := x / 4294967296) (b := y % 4294967296) (by omega) (by omega)
 have bc := Lib.half_mul_le (a := x % 4294967296) (b := y / 4294967296) (by omega) (by omega)
 have ba' : x / 4294967296 * (y / 4294967296) < 18446744073709551616 := by omega
 have bb' : x / 4294967296 * (y % 4294967296) < 18446744073709551616 := by omega
 have bc' : x % 4294967296 * (y / 4294967296) < 18446744073709551616 := by omega
 have bh1 : x / 4294967296 * (y / 4294967296) + (x / 4294967296 * (y % 4294967296) + x % 4294967296 * (y % 4294967296) / 4294967296) / 4294967296 < 18446744073709551616 := by omega
 have bh : x / 4294967296 * (y / 4294967296) + (x / 4294967296 * (y % 4294967296) + x % 4294967296 * (y % 4294967296) / 4294967296) / 4294967296 + ((x / 4294967296 * (y % 4294967296) + x % 4294967296 * (y % 4294967296) / 4294967296) % 4294967296 + x % 4294967296 * (y / 4294967296)) / 4294967296 < 18446744073709551616 := by omega
 go_enter Tryz.func140, Tryz.ntmps140
 go_wp2
 simp only [maskN x hx, maskN y hy, divN, mulN, addN, wrapN _ bd, wrapN _ bb', wrapN _ bt, maskN _ bt, wrapN _ bc', wrapN _ bw, wrapN _ ba', wrapN _ bh1, wrapN _ bh, wrapM (x * y)]
 rw [hhi]
 go_ret2
 exact ⟨rfl, rfl⟩
theorem Mul_any (x y : Nat) (hx : x < 18446744073709551616) (hy : y < 18446744073709551616) (w : World) :
  Calls Tryz.prog 122 #[.int .u64 (x : Int), .int .u64 (y : Int)] w fun e w' => e = .returned (.tuple #[.int .u64 ((x * y / 18446744073709551616 : Nat) : Int), .int .u64 ((x * y % 18446744073709551616 : Nat) : Int)]) /\ w' = w := by
 go_enter Tryz.func122, Tryz.ntmps122
 go_wp2_with (go_at_call 140; refine (Mul64_any x y hx hy _).mono ?_; rintro e w' ⟨rfl, rfl⟩)
 go_ret2
 exact ⟨rfl, rfl⟩
variable {P : Program}
def cutA (a : Addr) (l m s : Nat) : Addr := if m = l then a else a.add (l * s)
theorem cutA_lt {b o l m : Nat} (h : l < m) : cutA ⟨b, o, none⟩ l m 1 = ⟨b, o + l, none⟩ := by
 unfold cutA Addr.add
 rw [if_neg (by omega)]
 split
 .
  have : l = 0 := by omega
  subst this; rfl
 . simp
theorem cutA_zero (a : Addr) (m s : Nat) : cutA a 0 m s = a := by unfold cutA; simp [Addr.add]
theorem sliced_cut (a : Addr) (l h m s : Nat) : Go.sliced (some a) l h m s = Value.slice (some (cutA a l m s)) (h - l) (m - l) := by
 unfold Go.sliced cutA
 split <;> rfl
attribute [go_sem ↓ high] sliced_cut
attribute [go_sem] cutA_lt cutA_zero
theorem addr_add (b o i : Nat) : (⟨b, o, none⟩ : Addr).add i = ⟨b, o + i, none⟩ := by unfold Addr.add; split <;> simp_all
def vals (xs : List Nat) : List Value := xs.map fun (x : Nat) => .int .u64 (x : Int)
@[simp] theorem vals_length (xs : List Nat) : (vals xs).length = xs.length := by simp [vals]
theorem run_storeCells64 (b o : Nat) : ∀ (xs : List Nat) (i : Nat) (w : World), Live w b (o + i) xs.length →
  ∃ w', (storeCells ⟨b, o, none⟩ (vals xs) i).run P w = .ok () w' /\ Upd (Rg b (o + i) (o + i + xs.length)) w w' /\ U64 w' b (o + i) xs
 | [], i, w, hz => ⟨w, rfl, Upd.refl _ _, U64.nil _ _ _⟩
 | x :: xs, i, w, hz => by
   obtain ⟨v0, hc⟩ := hz 0 (by simp)
   simp only [Nat.add_zero] at hc
   have hz2 : Live (w.setCell ⟨b, o + i, none⟩ (.int .u64 (x : Int))) b (o + (i + 1)) xs.length := by
    have h1 := (hz.sub 1 xs.length (by simp; omega)).set b (o + i) (.int .u64 (x : Int))
    simpa [Nat.add_assoc] using h1
   obtain ⟨w', h1, h2, h3⟩ := run_storeCells64 b o xs (i + 1) _ hz2
   refine ⟨w', ?_, ?_, ?_⟩
   .
    have hst : (store ((⟨b, o, none⟩ : Addr).add i) (.int .u64 (x : Int))).run P w = .ok () (w.setCell ⟨b, o + i, none⟩ (.int .u64 (x : Int))) := by
     rw [addr_add, run_store P w _ _ _ (by rfl), hc.cell]
     simp [hc.frozen]
    simp only [vals, List.map_cons, storeCells, Sem.run_bind, hst, Result.andThen_ok]
    exact h1
   .
    refine (((Upd.refl (Rg b (o + i) (o + i + (x :: xs).length)) w).setCell (fun _ => ⟨rfl, Nat.le_refl _, ?_⟩) _).trans (h2.mono ?_))
    . simp
    .
     rintro b' j _ ⟨rfl, k1, k2⟩
     exact ⟨rfl, by omega, by simp; omega⟩
   .
    refine U64.cons ?_ h3
    exact (hc.set _).upd h2 (fun ⟨_, k1, _⟩ => by omega)
theorem run_copy64 (w : World) (dT sT ty elem : TypeId) (dn dc sn sc bd od bs os : Nat) (xs : List Nat)
  (hu : P.underlying dT = some (.slice elem)) (hs : (P.info? elem).map (·.size) = some 1)
  (hn : xs.length = Nat.min sn dn) (hx : R64 w bs os xs) (hz : Live w bd od xs.length) :
  ∃ w', (Builtin.copy_ #[dT, sT] ty #[.slice (some ⟨bd, od, none⟩) dn dc, .slice (some ⟨bs, os, none⟩) sn sc]).run P w = .ok (goInt xs.length) w' /\ Upd (Rg bd od (od + xs.length)) w w' /\ U64 w' bd od xs := by
 have hl := run_loadCells_list (P := P) w ⟨bs, os, none⟩ (vals xs) (by
  intro j v hv
  rw [addr_add]
  simp only [vals, List.getElem?_map, Option.map_eq_some_iff] at hv
  obtain ⟨y, hy, rfl⟩ := hv
  obtain ⟨hj, rfl⟩ := List.getElem?_eq_some_iff.1 hy
  exact hx.cell j hj)
 obtain ⟨w', h1, h2, h3⟩ := run_storeCells64 (P := P) bd od xs 0 w (by simpa using hz)
 refine ⟨w', ?_, by simpa using h2, by simpa using h3⟩
 cases hq : P.info? elem with
 | none => simp [hq] at hs
 | some i =>
  have hi : i.size = 1 := by simpa [hq] using hs
  rw [vals_length] at hl
  simp [Builtin.copy_, run_underlying hu, Builtin.lenOf, Builtin.firstCells, sizeOf, typeInfo, hq, hi, <- hn, hl, h1]
theorem wpList_copy64 {w : World} {ops : Array Oper} {rest : List Oper} {o : Oper} {a : Act} {Q : Exit -> Act -> World -> Prop} (hgd : o.guard = none) (d s : Operand) (dT sT : TypeId)
  (ho : o.op = .call { callee := .builtin .copy, args := #[d, s], argTypes := #[dT, sT] }) (elem : TypeId) (hu : P.underlying dT = some (.slice elem)) (hsz : (P.info? elem).map (·.size) = some 1)
  (dp sp : Option Addr) (dn dc sn sc bd od bs os : Nat) (hd : a.eval d = .slice dp dn dc) (hs : a.eval s = .slice sp sn sc)
  (xs : List Nat) (hn : xs.length = Nat.min sn dn) (hp : 0 < xs.length -> dp = some ⟨bd, od, none⟩ /\ sp = some ⟨bs, os, none⟩) (hx : R64 w bs os xs) (hz : Live w bd od xs.length)
  (h : ∀ w', Upd (Rg bd od (od + xs.length)) w w' -> U64 w' bd od xs -> wpList P ops Q rest (a.put o.dst (goInt xs.length)) w') : wpList P ops Q (o :: rest) a w := by
 by_cases h0 : xs.length = 0
 .
  refine wpList_copy_nothing hgd d s dT sT ho elem hu hsz dp sp dn dc sn sc hd hs (by omega) ?_
  have := h w (Upd.refl _ _) (by rw [List.eq_nil_of_length_eq_zero h0]; exact U64.nil _ _ _)
  rw [h0] at this; exact this
 .
  obtain ⟨rfl, rfl⟩ := hp (by omega)
  refine wpList_plain hgd fun K hK => ?_
  obtain ⟨w', h1, h2, h3⟩ := run_copy64 (P := P) w dT sT o.type elem dn dc sn sc bd od bs os xs hu hsz hn hx hz
  unfold Oper.wp
  simp [execOp, ho, resolve, invoke, builtin, hd, hs, h1, Result.andThen]
  exact hK _ _ (h w' h2 h3)
theorem zeroCells_one (n : Nat) : (Builtin.zeroCells #[.int .u64 0] n).toList = vals (List.replicate n 0) := by
 apply List.ext_getElem
 . simp [Builtin.zeroCells, vals]
 .
  intro i h1 h2
  simp only [Builtin.zeroCells, vals]
  simp [Nat.mod_one]
theorem wpList_clear64 {w : World} {ops : Array Oper} {rest : List Oper} {o : Oper} {a : Act} {Q : Exit -> Act -> World -> Prop} (hgd : o.guard = none) (d : Operand) (dT : TypeId)
  (ho : o.op = .call { callee := .builtin .clear, args := #[d], argTypes := #[dT] }) (elem : TypeId) (i : TypeInfo) (hu : P.underlying dT = some (.slice elem)) (hi : P.info? elem = some i) (hzv : i.zero = some (.int .u64 0))
  (dp : Option Addr) (dn dc bd od : Nat) (hd : a.eval d = .slice dp dn dc) (hp : 0 < dn -> dp = some ⟨bd, od, none⟩)
  (hz : Live w bd od dn)
  (h : ∀ w', Upd (Rg bd od (od + dn)) w w' -> U64 w' bd od (List.replicate dn 0) -> wpList P ops Q rest (a.put o.dst (.tuple #[])) w') : wpList P ops Q (o :: rest) a w := by
 refine wpList_plain hgd fun K hK => ?_
 by_cases h0 : dn = 0
 .
  subst h0
  have hk := hK _ _ (h w (Upd.refl _ _) (U64.nil _ _ _))
  have e : (Builtin.clear_ #[dT] o.type #[.slice dp 0 dc]).run P w = .ok (.tuple #[]) w := by
   cases dp <;> simp [Builtin.clear_, run_underlying hu]
  unfold Oper.wp
  simp [execOp, ho, resolve, invoke, builtin, hd, e, Result.andThen]
  exact hk
 .
  obtain rfl := hp (by omega)
  obtain ⟨w', h1, h2, h3⟩ := run_storeCells64 (P := P) bd od (List.replicate dn 0) 0 w (by simpa using hz)
  have hk := hK _ _ (h w' (by simpa using h2) (by simpa using h3))
  have e : (Builtin.clear_ #[dT] o.type #[.slice (some ⟨bd, od, none⟩) dn dc]).run P w = .ok (.tuple #[]) w' := by
   cases dn with
   | zero => omega
   | succ m =>
    have hzc : (zeroValue elem).run P w = .ok (.int .u64 0) w := by simp [zeroValue, typeInfo, hi, hzv]
    simp [Builtin.clear_, run_underlying hu, hzc, Value.cells, zeroCells_one, h1]
  unfold Oper.wp
  simp [execOp, ho, resolve, invoke, builtin, hd, e, Result.andThen]
  exact hk
theorem madeCells_one (n : Nat) : madeCells #[.int .u64 0] n = (vals (List.replicate n 0)).toArray := by
 apply Array.ext
 . simp [madeCells, vals]
 .
  intro i h1 h2
  simp [madeCells, vals, Nat.mod_one]
theorem U64.new (w : World) (xs : List Nat) : U64 (w.alloc (.cells (vals xs).toArray 81)) w.heap.size 0 xs := by
 intro i hi
 exact Zh.word ⟨_, heap_alloc_new w _, by simp [vals, hi]⟩
theorem wpList_make64 {w : World} {ops : Array Oper} {rest : List Oper} {o : Oper} {a : Act} {Q : Exit -> Act -> World -> Prop}
  (hg : o.guard = none) (l c : Operand) (t : TypeId) (hop : o.op = Op.makeSlice t l c)
  (e : TypeId) (i : TypeInfo) (h1 : P.underlying t = some (.slice e)) (he : e = 81) (h2 : P.info? e = some i) (h3 : i.zero = some (.int .u64 0)) (h4 : i.size = 1) (h5 : i.bytes = 8)
  (kl kc : IntKind) (L C : Int) (n m : Nat) (hl : a.eval l = .int kl L) (hc : a.eval c = .int kc C) (hL : L = (n : Int)) (hC : C = (m : Int)) (hnm : n <= m) (hm : m <= 35184372088832)
  (hK : ∀ w', Upd NoF w w' -> U64 w' w.heap.size 0 (List.replicate m 0) -> wpList P ops Q rest (a.put o.dst (.slice (some ⟨w.heap.size, 0, none⟩) n m)) w') :
  wpList P ops Q (o :: rest) a w := by
 refine wpList_plain hg fun K hK' => ?_
 have hr := run_make (P := P) w t e i (.int .u64 0) h1 h2 h3 kl kc L C (by omega) (by omega) (by rw [h5]; omega) (by omega)
 rw [hL, hC] at hr
 have e1 : madeCells (Value.int .u64 0).cells ((m : Int).toNat * i.size) = (vals (List.replicate m 0)).toArray := by
  rw [h4]; simpa [Value.cells] using madeCells_one m
 rw [e1] at hr
 simp only [Int.toNat_natCast] at hr
 have hk := hK' _ _ (hK _ ((Upd.refl NoF w).alloc (.cells (vals (List.replicate m 0)).toArray e)) (he ▸ U64.new w _))
 unfold Oper.wp
 subst hL
 subst hC
 simp [execOp, hop, hl, hc, hr, Result.andThen]
 exact hk
theorem run_sameAddr_free {w : World} {a b : Addr} (ha : Free w a.block) (hb : Free w b.block) : (sameAddr a b).run P w = .ok (a == b) w := by
 obtain ⟨ca, ta, ha⟩ := ha
 obtain ⟨cb, tb, hb⟩ := hb
 by_cases e : a = b
 .
  subst e
  simp [sameAddr]
 .
  rw [run_sameAddr_other w e ha hb]
  congr 1
  exact (beq_eq_false_iff_ne.2 e).symm
theorem run_equalIn_ptr {w : World} {tp te : TypeId} {j : TypeInfo} {a b : Addr} (d : Nat) (hp : P.underlying tp = some (.pointer te)) (hte : P.info? te = some j) (hsz : j.size ≠ 0) (ha : Free w a.block) (hb : Free w b.block) :
  (Op.equalIn (d + 1) tp (.pointer (some a)) (.pointer (some b))).run P w = .ok (a == b) w := by
 simp [Op.equalIn, run_underlying hp, sizeOf, typeInfo, hte, hsz, run_sameAddr_free ha hb]
theorem run_eql_ptr {w : World} {tp te : TypeId} {j : TypeInfo} {a b : Addr} (hp : P.underlying tp = some (.pointer te)) (hte : P.info? te = some j) (hsz : j.size ≠ 0) (ha : Free w a.block) (hb : Free w b.block) {r : Bool} (hr : (a == b) = r) :
  (binOp .eql tp (.pointer (some a)) (.pointer (some b))).run P w = .ok (.bool r) w := by
 subst hr
 simp only [binOp]
 simp [Op.equal, Op.maxDepth, run_equalIn_ptr 9999 hp hte hsz ha hb]
theorem run_neq_ptr {w : World} {tp te : TypeId} {j : TypeInfo} {a b : Addr} (hp : P.underlying tp = some (.pointer te)) (hte : P.info? te = some j) (hsz : j.size ≠ 0) (ha : Free w a.block) (hb : Free w b.block) {r : Bool} (hr : (a == b) = r) :
  (binOp .neq tp (.pointer (some a)) (.pointer (some b))).run P w = .ok (.bool (!r)) w := by
 subst hr
 simp only [binOp]
 simp [Op.equal, Op.maxDepth, run_equalIn_ptr 9999 hp hte hsz ha hb]
end Go.Proofs.YthkklkjldpcbkaaGreatDoor
