/-
  The contract of spec.ReadSigned. No statement is proved here.
-/
import Derived.Test.YtlangbbhlfifhaaCRead
import Derived.Test.YtlangbbhlfifhaaCZag
namespace Go.Proofs.Ytlangbbhlfifhaa
open Go.RowKit

theorem readFrom_lt : ∀ (l : List UInt8) (i acc : Nat), i ≤ 10 → (i ≤ 9 → acc < 2 ^ (7 * i)) → (readFrom i acc l).1 < 18446744073709551616
  | [], _, _, _, _ => by simp [readFrom]
  | b :: r, i, acc, hi, hacc => by
    simp only [readFrom]
    by_cases h10 : i = 10
    · rw [if_pos h10]; decide
    · rw [if_neg h10]
      by_cases h9 : i = 9 ∧ 1 < b.toNat
      · rw [if_pos h9]; decide
      · rw [if_neg h9]
        have hs := read_sum (k := i) (acc := acc) (bt := b.toNat) (by omega) (hacc (by omega)) (by omega)
        by_cases hb : b.toNat < 128
        · rw [if_pos hb]; exact hs.1
        · rw [if_neg hb]; exact readFrom_lt r (i + 1) _ (by omega) (fun _ => hs.2)
theorem read_lt (l : List UInt8) : (readFrom 0 0 l).1 < 18446744073709551616 := readFrom_lt l 0 0 (by omega) (fun _ => by decide)

set_option maxRecDepth 100000 in
theorem readS_any {w : World} {A : Option Addr} {n c : Nat} {l : List UInt8} (h : Byt w A n c l) {a : Nat} {b : Int} (hd : readFrom 0 0 l = (a, b)) (ha : a < 18446744073709551616) :
    Calls Try.prog 20 #[.slice A n c] w fun e w' => e = .returned (.tuple #[.int .i64 (Lib.unzigzag a), .int .i64 b]) ∧ w = w' := by
  have HD := Lib.hid hd
  clear hd
  go_enter Try.func20, Try.ntmps20
  go_wp2_with fail
  refine (read_any h HD.out).mono ?_
  rintro e w1 ⟨rfl, rfl⟩
  go_wp2_with fail
  refine (zag_any a ha).mono ?_
  rintro e w1 ⟨rfl, rfl⟩
  clear HD
  go_wp2_with fail
  go_ret2
  exact ⟨rfl, rfl⟩
end Go.Proofs.Ytlangbbhlfifhaa
