/-
  The contract of laws.same: two slices of bytes are held against each other. No statement is proved here.
-/
import Derived.Test.YtlokpenjafhhfaaDoorApp
import Derived.WalkLawsBesides
namespace Go.Proofs.YtlokpenjafhhfaaDoor
open Go.RowKit

theorem same_yes {w : World} {A B : Option Addr} {n c m d : Nat} {l k : List UInt8} (h1 : Byt w A n c l) (h2 : Byt w B m d k) (hlk : l = k) :
    Calls Tryd.prog 24 #[.slice A n c, .slice B m d] w fun e w' => e = .returned (.bool true) ∧ w = w' := by
  have t1 := h1.text (P := Tryd.prog) 23 5 Tryd.underlying23 Tryd.underlying5 9 Tryd.underlying9
  have t2 := h2.text (P := Tryd.prog) 23 5 Tryd.underlying23 Tryd.underlying5 9 Tryd.underlying9
  subst hlk
  clear h1 h2
  generalize strOf l = s at *
  go_enter Tryd.func24, Tryd.ntmps24
  go_wp2
  go_ret
  exact ⟨rfl, rfl⟩

theorem same_still {w : World} {A B : Option Addr} {n c m d : Nat} {l k : List UInt8} (h1 : Byt w A n c l) (h2 : Byt w B m d k) (hlk : l = k) :
    Calls Tryd.prog 24 #[.slice A n c, .slice B m d] w fun e w' => e = .returned (.bool true) ∧ w' = w := (same_yes h1 h2 hlk).mono fun _ _ ⟨a, b⟩ => ⟨a, b.symm⟩

theorem same_no {w : World} {A B : Option Addr} {n c m d : Nat} {l k : List UInt8} (h1 : Byt w A n c l) (h2 : Byt w B m d k) (hlk : l ≠ k) :
    Calls Tryd.prog 24 #[.slice A n c, .slice B m d] w fun e w' => e = .returned (.bool false) ∧ w = w' := by
  have t1 := h1.text (P := Tryd.prog) 23 5 Tryd.underlying23 Tryd.underlying5 9 Tryd.underlying9
  have t2 := h2.text (P := Tryd.prog) 23 5 Tryd.underlying23 Tryd.underlying5 9 Tryd.underlying9
  have hne : ((strOf l).toList == (strOf k).toList) = false := by rw [strOf_list, strOf_list]; simpa using hlk
  clear h1 h2 hlk
  generalize strOf l = s at *
  generalize strOf k = s' at *
  go_enter Tryd.func24, Tryd.ntmps24
  go_wp2
  go_ret
  exact ⟨rfl, rfl⟩
end Go.Proofs.YtlokpenjafhhfaaDoor
