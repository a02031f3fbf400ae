/- For the claim: texts of this seat that the proof stands on. -/
import Derived.Test.YthkklkjldpcbkaaGreatDoorLiWWords
import Derived.Test.YthkklkjldpcbkaaGreatDoorLiWLast
namespace Go.Proofs.YthkklkjldpcbkaaGreatDoorW.PrintWords
open Go.RowKit
namespace Kd
section
variable {α β : Type} {d : Kd α} {d' : Kd β} {e e' : Nat} {w w1 W : World} {base b : Nat} {ok ok' okv oku : Nat -> Prop} {u v : Value} {xs : List α} {ys : List β}
theorem R_tight (hE : d.E = []) (h : d.R e w base ok v xs) : d.R e w base (fun k => some k = v.ownBlock) v xs := by
 obtain ⟨h0, inner, ho, hr⟩ := h
 refine ⟨fun k hk => hk.symm, inner, ho, hr.imp_ (fun p c hp => d.M_mono (fun k hk => ?_) (d.M_bound hp))⟩
 obtain ⟨_, _, _, q, hq, _⟩ := hk
 rw [hE] at hq
 cases hq
end
end Kd
end Go.Proofs.YthkklkjldpcbkaaGreatDoorW.PrintWords
