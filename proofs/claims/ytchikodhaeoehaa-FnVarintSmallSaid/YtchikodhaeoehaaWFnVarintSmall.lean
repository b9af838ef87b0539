/-
  The walk of FnVarintSmall. No statement is proved here.
-/
import Derived.Test.YtchikodhaeoehaaCApV
import Derived.Test.YtchikodhaeoehaaMathV
namespace Go.Proofs.Ytchikodhaeoehaa
open Go.RowKit

set_option maxRecDepth 100000 in
theorem fnVarintSmall_walk (w : World) (x0 : Int) (p0 : -9223372036854775808 ≤ x0) (q0 : x0 ≤ 9223372036854775807) :
    Calls Try.prog 11 #[.int .i64 x0] w fun e w' => e = .returned (.bool true) ∧ Below w.heap.size w w' := by
  have hs := zigzag_small x0
  by_cases h1 : -64 ≤ x0
  · by_cases h2 : x0 ≤ 63
    · have hl : (((Lib.uvarint (Lib.zigzag x0)).length : Int) == 1) = true := by simp; omega
      have hl' : ((Lib.uvarint (Lib.zigzag x0)).length == 1) = true := by simp; omega
      clear hs
      go_enter Try.func11, Try.ntmps11
      go_wp2_with fail
      refine (ap_V_e w x0 p0 q0).mono ?_
      rintro e w1 ⟨A1, c1, rfl, ho1, hb1⟩
      clear ho1
      go_wp2
      go_ret
      exact ⟨ret_bool (by simp; try omega), hb1⟩
    · have hl : (((Lib.uvarint (Lib.zigzag x0)).length : Int) == 1) = false := by simp; omega
      have hl' : ((Lib.uvarint (Lib.zigzag x0)).length == 1) = false := by simp; omega
      clear hs
      go_enter Try.func11, Try.ntmps11
      go_wp2_with fail
      refine (ap_V_e w x0 p0 q0).mono ?_
      rintro e w1 ⟨A1, c1, rfl, ho1, hb1⟩
      clear ho1
      go_wp2
      go_ret
      exact ⟨ret_bool (by simp; try omega), hb1⟩
  · have hl : (((Lib.uvarint (Lib.zigzag x0)).length : Int) == 1) = false := by simp; omega
    have hl' : ((Lib.uvarint (Lib.zigzag x0)).length == 1) = false := by simp; omega
    clear hs
    go_enter Try.func11, Try.ntmps11
    go_wp2_with fail
    refine (ap_V_e w x0 p0 q0).mono ?_
    rintro e w1 ⟨A1, c1, rfl, ho1, hb1⟩
    clear ho1
    go_wp2
    go_ret
    exact ⟨ret_bool (by simp; try omega), hb1⟩
end Go.Proofs.Ytchikodhaeoehaa
