/-
  The walk of FnZigzag. No statement is proved here.
-/
import Derived.Test.YtchikodhaeoehaaCApU
import Derived.Test.YtchikodhaeoehaaCApV
import Derived.Test.YtchikodhaeoehaaCZig
import Derived.Test.YtchikodhaeoehaaCSame
namespace Go.Proofs.Ytchikodhaeoehaa
open Go.RowKit

set_option maxHeartbeats 400000 in
set_option maxRecDepth 100000 in
theorem fnZigzag_walk (w : World) (x0 : Int) (p0 : -9223372036854775808 ≤ x0) (q0 : x0 ≤ 9223372036854775807) :
    Calls Try.prog 14 #[.int .i64 x0] w fun e w' => e = .returned (.bool true) ∧ Below w.heap.size w w' := by
  have h10 := Lib.uvarint_length64 (zigzag_lt p0 q0)
  have hp := Lib.uvarint_pos (Lib.zigzag x0)
  go_enter Try.func14, Try.ntmps14
  go_wp2_with fail
  refine (ap_V_e w x0 p0 q0).mono ?_
  rintro e w1 ⟨A1, c1, rfl, ho1, hb1⟩
  clear ho1
  go_wp2_with fail
  refine (ap_V_e w1 x0 p0 q0).mono ?_
  rintro e w2 ⟨A2, c2, rfl, ho2, hb2⟩
  have b2 := Byt.of_own ho2
  clear ho2
  go_wp2_with fail
  refine (zig_any x0 p0 q0).mono ?_
  rintro e w3 ⟨rfl, rfl⟩
  go_wp2_with fail
  refine (ap_U_e w2 (Lib.zigzag x0) (zigzag_lt p0 q0)).mono ?_
  rintro e w4 ⟨A4, c4, rfl, ho4, hb4⟩
  have b2 := b2.below hb4
  have b4 := Byt.of_own ho4
  have hB := (hb1.trans (hb2.mono hb1.size)).trans (hb4.mono (Nat.le_trans hb1.size hb2.size))
  clear ho4
  go_wp2_with fail
  refine (same_yes b2 b4 rfl).mono ?_
  rintro e w5 ⟨rfl, rfl⟩
  clear b2 b4
  go_wp2
  go_ret
  exact ⟨rfl, hB⟩
end Go.Proofs.Ytchikodhaeoehaa
