/-
  The walk of FnVarintLen. No statement is proved here.
-/
import Derived.Test.YtchikodhaeoehaaCApU
import Derived.Test.YtchikodhaeoehaaCLen
namespace Go.Proofs.Ytchikodhaeoehaa
open Go.RowKit

set_option maxRecDepth 100000 in
theorem fnVarintLen_walk (w : World) (x0 : Nat) (h0 : x0 < 18446744073709551616) :
    Calls Try.prog 6 #[.int .u64 x0] w fun e w' => e = .returned (.bool true) ∧ Below w.heap.size w w' := by
  have h1 := Lib.uvarint_pos x0
  have h10 := Lib.uvarint_length64 h0
  go_enter Try.func6, Try.ntmps6
  go_wp2_with fail
  refine (ap_U_e w x0 h0).mono ?_
  rintro e w1 ⟨A1, c1, rfl, ho1, hb1⟩
  clear ho1
  go_wp2_with fail
  refine (len_any x0 h0).mono ?_
  rintro e w2 ⟨rfl, rfl⟩
  generalize (Lib.uvarint x0).length = n at *
  clear h0
  go_wp2
  go_ret
  exact ⟨ret_bool (by simp; omega), hb1⟩
end Go.Proofs.Ytchikodhaeoehaa
