/-
  The contract of spec.Zigzag. No statement is proved here.
-/
import Derived.Test.YtklebomhnclcgaaApp
import Derived.Test.YtklebomhnclcgaaMathV
namespace Go.Proofs.Ytklebomhnclcgaa
open Go.RowKit

theorem zig_any {w : World} (x : Int) (h0 : -9223372036854775808 ≤ x) (h1 : x ≤ 9223372036854775807) :
    Calls Try.prog 23 #[.int .i64 x] w fun e w' => e = .returned (.int .u64 (Lib.zigzag x)) ∧ w = w' := by
  by_cases h : x < 0
  · go_enter Try.func23, Try.ntmps23
    go_wp2
    go_ret
    refine ⟨ret_int ?_, rfl⟩
    unfold Lib.zigzag
    rw [if_neg (by omega)]
    omega
  · go_enter Try.func23, Try.ntmps23
    go_wp2
    go_ret
    refine ⟨ret_int ?_, rfl⟩
    unfold Lib.zigzag
    rw [if_pos (by omega)]
    omega
end Go.Proofs.Ytklebomhnclcgaa
