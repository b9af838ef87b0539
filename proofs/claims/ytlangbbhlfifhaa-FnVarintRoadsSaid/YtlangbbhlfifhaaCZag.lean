/-
  The contract of spec.Zagzig. No statement is proved here.
-/
import Derived.Test.YtlangbbhlfifhaaApp
import Derived.Test.YtlangbbhlfifhaaMathV
namespace Go.Proofs.Ytlangbbhlfifhaa
open Go.RowKit

set_option maxRecDepth 100000 in
theorem zag_any {w : World} (u : Nat) (hu : u < 18446744073709551616) :
    Calls Try.prog 21 #[.int .u64 u] w fun e w' => e = .returned (.int .i64 (Lib.unzigzag u)) ∧ w = w' := by
  by_cases h : u % 2 = 1
  · have hb : (((u : Int) % 2) == 1) = true := by simp; omega
    have HH := Lib.hid h
    clear h
    go_enter Try.func21, Try.ntmps21
    go_wp2
    go_ret
    refine ⟨ret_int ?_, rfl⟩
    unfold Lib.unzigzag
    have := HH.out
    rw [if_neg (by omega)]
    omega
  · have hb : (((u : Int) % 2) == 1) = false := by simp; omega
    have HH := Lib.hid h
    clear h
    go_enter Try.func21, Try.ntmps21
    go_wp2
    go_ret
    refine ⟨ret_int ?_, rfl⟩
    unfold Lib.unzigzag
    have := HH.out
    rw [if_pos (by omega)]
    omega
end Go.Proofs.Ytlangbbhlfifhaa
