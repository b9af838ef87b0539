/-
  The walk of FnUvarintFault. No statement is proved here.
-/
import Derived.Test.YtlangbbhlfifhaaCReads
import Derived.Test.YtlangbbhlfifhaaMathD
namespace Go.Proofs.Ytlangbbhlfifhaa
open Go.RowKit
set_option linter.unusedVariables false

set_option maxRecDepth 100000 in
theorem fnUvarintFault_walk (w : World) (A0 : Option Addr) (n0 c0 : Nat) (l0 : List UInt8) (h0 : Byt w A0 n0 c0 l0) (s0 : c0 * 1 ≤ 140737488351232) :
    Calls Try.prog 4 #[.slice A0 n0 c0] w fun e w' => e = .returned (.bool true) ∧ Below w.heap.size w w' := by
  obtain ⟨a, b, hd⟩ : ∃ a b, Lib.uvarintDec l0 = (a, b) := ⟨_, _, rfl⟩
  have hnp := dec_nonpos (l := l0)
  rw [hd] at hnp
  have HD := Lib.hid hd
  clear hd
  by_cases hb : 0 < b
  · clear hnp
    go_enter Try.func4, Try.ntmps4
    go_wp2_with fail
    refine (rd_U h0 HD.out).mono ?_
    rintro e w1 ⟨rfl, rfl⟩
    go_wp2_with fail
    refine (reads_any _).mono ?_
    rintro e wR ⟨rfl, hbR⟩
    go_wp2
    go_ret
    exact ⟨rfl, hbR⟩
  · have ha : a = 0 := hnp (by omega)
    subst ha
    clear hnp
    go_enter Try.func4, Try.ntmps4
    go_wp2_with fail
    refine (rd_U h0 HD.out).mono ?_
    rintro e w1 ⟨rfl, rfl⟩
    go_wp2_with fail
    refine (reads_any _).mono ?_
    rintro e wR ⟨rfl, hbR⟩
    go_wp2
    go_ret
    exact ⟨rfl, hbR⟩
end Go.Proofs.Ytlangbbhlfifhaa
