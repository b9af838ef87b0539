/-
  Numbers of eight bytes one behind the other. No statement is proved here.
-/
import Derived.Test.YtlokpenjafhhfaaNums
import Derived.Test.YtlokpenjafhhfaaMath
namespace Go.Proofs.Ytlokpenjafhhfaa

def cats (f : Nat → List UInt8) (l : List Int) : List UInt8 := l.flatMap fun z => f z.toNat
theorem cats_take (f : Nat → List UInt8) (l : List Int) (k : Nat) (h : k < l.length) : cats f (l.take (k + 1)) = cats f (l.take k) ++ f (l[k]).toNat := by
  unfold cats
  rw [List.take_succ_eq_append_getElem h, List.flatMap_append, List.flatMap_singleton]
theorem cats_drop (f : Nat → List UInt8) (hf : ∀ x, (f x).length = 8) : ∀ (l : List Int) (k : Nat), (cats f l).drop (8 * k) = cats f (l.drop k)
  | l, 0 => by simp
  | [], k + 1 => by simp [cats]
  | z :: r, k + 1 => by
    have e : cats f (z :: r) = f z.toNat ++ cats f r := by simp [cats]
    rw [e, show 8 * (k + 1) = (f z.toNat).length + 8 * k by rw [hf]; omega, List.drop_length_add_append, cats_drop f hf r k]
    rfl
theorem cats_at (f : Nat → List UInt8) (hf : ∀ x, (f x).length = 8) (l : List Int) (k : Nat) (h : k < l.length) : ((cats f l).drop (8 * k)).take 8 = f (l[k]).toNat := by
  rw [cats_drop f hf l k, List.drop_eq_getElem_cons h]
  have e : cats f (l[k] :: l.drop (k + 1)) = f (l[k]).toNat ++ cats f (l.drop (k + 1)) := List.flatMap_cons
  rw [e, List.take_left' (hf _)]
end Go.Proofs.Ytlokpenjafhhfaa
