/-
  The walk of FnVarintRoads. No statement is proved here.
-/
import Derived.Test.YtlangbbhlfifhaaCRdV
import Derived.Test.YtlangbbhlfifhaaCRdU
import Derived.Test.YtlangbbhlfifhaaCReads
import Derived.Test.YtlangbbhlfifhaaCOpen
import Derived.Test.YtlangbbhlfifhaaCZag
import Derived.Test.YtlangbbhlfifhaaCZig
namespace Go.Proofs.Ytlangbbhlfifhaa
open Go.RowKit
set_option linter.unusedVariables false

set_option maxRecDepth 100000 in
theorem fnVarintRoads_walk (w : World) (A0 : Option Addr) (n0 c0 : Nat) (l0 : List UInt8) (h0 : Byt w A0 n0 c0 l0) (s0 : c0 * 1 ≤ 140737488351232) :
    Calls Try.prog 13 #[.slice A0 n0 c0] w fun e w' => e = .returned (.bool true) ∧ Below w.heap.size w w' := by
  obtain ⟨a, b, hd⟩ : ∃ a b, Lib.uvarintDec l0 = (a, b) := ⟨_, _, rfl⟩
  have hv : Lib.varintDec l0 = (Lib.unzigzag a, b) := by unfold Lib.varintDec; rw [hd]
  have ha := Lib.uvarintDec_lt l0
  rw [hd] at ha
  simp only at ha
  have z0 : -9223372036854775808 ≤ Lib.unzigzag a := by unfold Lib.unzigzag; split <;> omega
  have z1 : Lib.unzigzag a ≤ 9223372036854775807 := by unfold Lib.unzigzag; split <;> omega
  have HZ := Lib.hid (zigzag_unzigzag a)
  have HD := Lib.hid hd
  have HV := Lib.hid hv
  clear hd hv
  by_cases ho : openL l0
  · go_enter Try.func13, Try.ntmps13
    go_wp2_with fail
    refine (rd_V h0 HV.out).mono ?_
    rintro e w1 ⟨rfl, rfl⟩
    go_wp2_with fail
    refine (rd_U h0 HD.out).mono ?_
    rintro e w1 ⟨rfl, rfl⟩
    go_wp2_with fail
    refine (reads_any _).mono ?_
    rintro e wR ⟨rfl, hbR⟩
    have h0 := h0.below hbR
    go_wp2_with fail
    refine (open_yes h0 ho).mono ?_
    rintro e w1 ⟨rfl, rfl⟩
    clear h0 HD HV
    go_wp2
    go_ret
    exact ⟨rfl, hbR⟩
  · go_enter Try.func13, Try.ntmps13
    go_wp2_with fail
    refine (rd_V h0 HV.out).mono ?_
    rintro e w1 ⟨rfl, rfl⟩
    go_wp2_with fail
    refine (rd_U h0 HD.out).mono ?_
    rintro e w1 ⟨rfl, rfl⟩
    go_wp2_with fail
    refine (reads_any _).mono ?_
    rintro e wR ⟨rfl, hbR⟩
    have h0 := h0.below hbR
    go_wp2_with fail
    refine (open_no h0 ho).mono ?_
    rintro e w1 ⟨rfl, rfl⟩
    clear h0 HD HV
    go_wp2_with fail
    refine (zag_any a ha).mono ?_
    rintro e w1 ⟨rfl, rfl⟩
    go_wp2_with fail
    refine (zig_any (Lib.unzigzag a) z0 z1).mono ?_
    rintro e w1 ⟨rfl, rfl⟩
    rw [HZ.out]
    clear HZ
    go_wp2
    go_ret
    exact ⟨rfl, hbR⟩
end Go.Proofs.Ytlangbbhlfifhaa
