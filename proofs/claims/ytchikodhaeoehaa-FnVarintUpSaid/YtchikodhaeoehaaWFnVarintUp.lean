/-
  The walk of FnVarintUp. No statement is proved here.
-/
import Derived.Test.YtchikodhaeoehaaCApU
import Derived.Test.YtchikodhaeoehaaMathV
namespace Go.Proofs.Ytchikodhaeoehaa
open Go.RowKit

set_option maxRecDepth 100000 in
theorem fnVarintUp_walk (w : World) (x0 : Nat) (h0 : x0 < 18446744073709551616) (x1 : Nat) (h1 : x1 < 18446744073709551616) :
    Calls Try.prog 9 #[.int .u64 x0, .int .u64 x1] w fun e w' => e = .returned (.bool true) ∧ Below w.heap.size w w' := by
  have l0 := Lib.uvarint_length64 h0
  have l1 := Lib.uvarint_length64 h1
  have p0 := Lib.uvarint_pos x0
  by_cases hxy : x1 < x0
  · go_enter Try.func9, Try.ntmps9
    go_wp2_with fail
    refine (ap_U_e w x0 h0).mono ?_
    rintro e w1 ⟨A1, c1, rfl, ho1, hb1⟩
    clear ho1
    go_wp2
    go_ret
    exact ⟨rfl, hb1⟩
  · have hm := uvarint_len_mono (show x0 ≤ x1 by omega)
    go_enter Try.func9, Try.ntmps9
    go_wp2_with fail
    refine (ap_U_e w x0 h0).mono ?_
    rintro e w1 ⟨A1, c1, rfl, ho1, hb1⟩
    clear ho1
    go_wp2_with fail
    refine (ap_U_e w1 x1 h1).mono ?_
    rintro e w2 ⟨A2, c2, rfl, ho2, hb2⟩
    clear ho2
    go_wp2
    go_ret
    exact ⟨rfl, hb1.trans (hb2.mono hb1.size)⟩
end Go.Proofs.Ytchikodhaeoehaa
