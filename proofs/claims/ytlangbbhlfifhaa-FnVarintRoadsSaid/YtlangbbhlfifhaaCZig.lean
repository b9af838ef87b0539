/-
  The contract of spec.Zigzag. No statement is proved here.
-/
import Derived.Test.YtlangbbhlfifhaaApp
import Derived.Test.YtlangbbhlfifhaaMathV
namespace Go.Proofs.Ytlangbbhlfifhaa
open Go.RowKit

theorem zig_any {w : World} (x : Int) (h0 : -9223372036854775808 ≤ x) (h1 : x ≤ 9223372036854775807) :
    Calls Try.prog 22 #[.int .i64 x] w fun e w' => e = .returned (.int .u64 (Lib.zigzag x)) ∧ w = w' := by
  by_cases h : x < 0
  · go_enter Try.func22, Try.ntmps22
    go_wp2
    go_ret
    refine ⟨ret_int ?_, rfl⟩
    unfold Lib.zigzag
    rw [if_neg (by omega)]
    omega
  · go_enter Try.func22, Try.ntmps22
    go_wp2
    go_ret
    refine ⟨ret_int ?_, rfl⟩
    unfold Lib.zigzag
    rw [if_pos (by omega)]
    omega
end Go.Proofs.Ytlangbbhlfifhaa
