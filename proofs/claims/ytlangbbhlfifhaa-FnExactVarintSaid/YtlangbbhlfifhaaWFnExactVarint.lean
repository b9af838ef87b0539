/-
  The walk of FnExactVarint. No statement is proved here.
-/
import Derived.Test.YtlangbbhlfifhaaCRdV
import Derived.Test.YtlangbbhlfifhaaCReadS
import Derived.Test.YtlangbbhlfifhaaCOpen
namespace Go.Proofs.Ytlangbbhlfifhaa
open Go.RowKit
set_option linter.unusedVariables false

set_option maxRecDepth 100000 in
theorem fnExactVarint_walk (w : World) (A0 : Option Addr) (n0 c0 : Nat) (l0 : List UInt8) (h0 : Byt w A0 n0 c0 l0) (s0 : c0 * 1 ≤ 140737488351232) :
    Calls Try.prog 10 #[.slice A0 n0 c0] w fun e w' => e = .returned (.bool true) ∧ Below w.heap.size w w' := by
  obtain ⟨a, b, hd⟩ : ∃ a b, Lib.uvarintDec l0 = (a, b) := ⟨_, _, rfl⟩
  obtain ⟨a', b', hr⟩ : ∃ a b, readFrom 0 0 l0 = (a, b) := ⟨_, _, rfl⟩
  have hv : Lib.varintDec l0 = (Lib.unzigzag a, b) := by unfold Lib.varintDec; rw [hd]
  have ha' := read_lt l0
  rw [hr] at ha'
  by_cases ho : openL l0
  · have HD := Lib.hid hv
    have HR := Lib.hid hr
    clear hd hr hv
    go_enter Try.func10, Try.ntmps10
    go_wp2_with fail
    refine (rd_V h0 HD.out).mono ?_
    rintro e w1 ⟨rfl, rfl⟩
    go_wp2_with fail
    refine (readS_any h0 HR.out ha').mono ?_
    rintro e w1 ⟨rfl, rfl⟩
    go_wp2_with fail
    refine (open_yes h0 ho).mono ?_
    rintro e w1 ⟨rfl, rfl⟩
    clear h0 HD HR
    go_wp2
    go_ret
    exact ⟨rfl, Below.refl _ _⟩
  · have e := read_eq ho
    rw [hd, hr] at e
    injection e with e1 e2
    subst e1 e2
    have HD := Lib.hid hv
    have HR := Lib.hid hr
    clear hd hr hv
    go_enter Try.func10, Try.ntmps10
    go_wp2_with fail
    refine (rd_V h0 HD.out).mono ?_
    rintro e w1 ⟨rfl, rfl⟩
    go_wp2_with fail
    refine (readS_any h0 HR.out ha').mono ?_
    rintro e w1 ⟨rfl, rfl⟩
    go_wp2_with fail
    refine (open_no h0 ho).mono ?_
    rintro e w1 ⟨rfl, rfl⟩
    clear h0 HD HR
    go_wp2
    go_ret
    exact ⟨rfl, Below.refl _ _⟩
end Go.Proofs.Ytlangbbhlfifhaa
