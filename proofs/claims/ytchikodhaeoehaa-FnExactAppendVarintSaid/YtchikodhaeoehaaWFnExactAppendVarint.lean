/-
  The walk of FnExactAppendVarint. No statement is proved here.
-/
import Derived.Test.YtchikodhaeoehaaCApV
import Derived.Test.YtchikodhaeoehaaCSpecU
import Derived.Test.YtchikodhaeoehaaCSame
import Derived.Test.YtchikodhaeoehaaCZig
namespace Go.Proofs.Ytchikodhaeoehaa
open Go.RowKit

set_option maxHeartbeats 400000 in
set_option maxRecDepth 100000 in
theorem fnExactAppendVarint_walk (w : World) (A0 : Option Addr) (n0 c0 : Nat) (l0 : List UInt8) (h0 : Byt w A0 n0 c0 l0) (s0 : c0 * 1 ≤ 140737488351232) (x1 : Int) (p1 : -9223372036854775808 ≤ x1) (q1 : x1 ≤ 9223372036854775807) :
    Calls Try.prog 10 #[.slice A0 n0 c0, .int .i64 x1] w fun e w' => e = .returned (.bool true) ∧ Below w.heap.size w w' := by
  have hcap := h0.cap
  have h10 := Lib.uvarint_length64 (zigzag_lt p1 q1)
  go_enter Try.func10, Try.ntmps10
  go_wp2_with fail
  refine (ap_V h0 x1 p1 q1 (by omega)).mono ?_
  rintro e w1 ⟨A1, c1, rfl, ho1, hb1⟩
  have b0 := h0.below hb1
  have b1 := Byt.of_own ho1
  clear ho1
  go_wp2_with (at_builtin; refine wpList_clone_byt w1 rfl _ _ _ rfl 5 brow rfl A0 n0 c0 l0 rfl b0 (by omega) ?_; intro A2 c2 w2 ho2 hb2)
  refine (zig_any x1 p1 q1).mono ?_
  rintro e wz ⟨rfl, rfl⟩
  go_wp2_with fail
  refine (specU (Lib.zigzag x1) _ (zigzag_lt p1 q1)).mono ?_
  rintro e w3 ⟨A3, c3, rfl, ho3, hb3⟩
  have own2 := own_below ho2 hb3
  have b3 := Byt.of_own ho3
  have hb23 := hb2.trans (hb3.mono hb2.size)
  clear ho2 ho3
  generalize Lib.uvarint (Lib.zigzag x1) = z at *
  go_wp2_with (at_builtin; refine wpList_append_byt w3 rfl _ _ _ rfl w1.heap.size 5 brow _ n0 l0 rfl own2 _ _ _ _ rfl b3 (by omega) hb23.size ?_; intro A4 c4 w4 ho4 hb4 hg4)
  have hb14 := hb23.trans hb4
  have b1 := b1.below hb14
  have b4 := Byt.of_own ho4
  have hB := hb1.trans (hb14.mono hb1.size)
  clear ho4 b0 b3 hb1 hb2 hb3 hb4 hb14 hb23 hg4 own2
  refine (same_yes b1 b4 rfl).mono ?_
  rintro e w5 ⟨rfl, rfl⟩
  clear b1 b4
  go_wp2_with fail
  go_ret
  exact ⟨rfl, hB⟩
end Go.Proofs.Ytchikodhaeoehaa
