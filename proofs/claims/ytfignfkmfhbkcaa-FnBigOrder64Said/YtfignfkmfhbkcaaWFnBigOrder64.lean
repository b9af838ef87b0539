/-
  The walk of FnBigOrder64. No statement is proved here.
-/
import Derived.Test.YtfignfkmfhbkcaaCApBig64
import Derived.Test.YtfignfkmfhbkcaaMath
import Derived.WalkLawsBesides
namespace Go.Proofs.Ytfignfkmfhbkcaa
open Go.RowKit
set_option linter.unusedVariables false

theorem fnBigOrder64_walk (w : World) (x0 : Nat) (h0 : x0 < 18446744073709551616) (x1 : Nat) (h1 : x1 < 18446744073709551616) :
    Calls Try.prog 3 #[.int .u64 x0, .int .u64 x1] w fun e w' => e = .returned (.bool true) ∧ Below w.heap.size w w' := by
  have hle := beBytes_less 8 x0 x1 (by simpa using h0) (by simpa using h1)
  have hin := beBytes_inj 8 x0 x1 (by simpa using h0) (by simpa using h1)
  have hl : Op.bytesLess (strOf (Lib.beBytes 8 x0)).toList (strOf (Lib.beBytes 8 x1)).toList = decide (x0 < x1) := by rw [strOf_list, strOf_list]; exact hle
  have he : ((strOf (Lib.beBytes 8 x0)).toList == (strOf (Lib.beBytes 8 x1)).toList) = decide (x0 = x1) := by
    rw [strOf_list, strOf_list, Bool.eq_iff_iff]; simp [hin]
  clear hle hin
  generalize hs0 : strOf (Lib.beBytes 8 x0) = s0 at *
  generalize hs1 : strOf (Lib.beBytes 8 x1) = s1 at *
  have HS0 := Lib.hid hs0
  have HS1 := Lib.hid hs1
  clear hs0 hs1
  have main : ∀ r q : Bool, Op.bytesLess s0.toList s1.toList = r → (s0.toList == s1.toList) = q → (decide (x0 < x1) = r) → (((x0 : Int) == (x1 : Int)) = q) →
      Calls Try.prog 3 #[.int .u64 x0, .int .u64 x1] w fun e w' => e = .returned (.bool true) ∧ Below w.heap.size w w' := by
    intro r q hr hq hr2 hq2
    clear hl he
    go_enter Try.func3, Try.ntmps3
    go_wp2_with fail
    refine (ap_Big64_0 (Byt.nil_ _) x0 h0).mono ?_
    rintro e w1 ⟨A1, c1, rfl, ho1, hb1⟩
    have t1 := (Byt.of_own ho1).text (P := Try.prog) 23 5 Try.underlying23 Try.underlying5 9 Try.underlying9
    rw [HS0.out] at t1
    go_wp2_with fail
    refine (ap_Big64_0 (Byt.nil_ _) x1 h1).mono ?_
    rintro e w2 ⟨A2, c2, rfl, ho2, hb2⟩
    have t2 := (Byt.of_own ho2).text (P := Try.prog) 23 5 Try.underlying23 Try.underlying5 9 Try.underlying9
    rw [HS1.out] at t2
    clear ho1 ho2 t1
    go_wp2
    all_goals
      go_ret
      exact ⟨rfl, hb1.trans (hb2.mono hb1.size)⟩
  rcases Nat.lt_trichotomy x0 x1 with h | h | h
  · exact main true false (by rw [hl]; simpa using h) (by rw [he]; simp; omega) (by simp; omega) (by simp; omega)
  · exact main false true (by rw [hl]; simp; omega) (by rw [he]; simpa using h) (by simp; omega) (by simp; omega)
  · exact main false false (by rw [hl]; simp; omega) (by rw [he]; simp; omega) (by simp; omega) (by simp; omega)
end Go.Proofs.Ytfignfkmfhbkcaa
