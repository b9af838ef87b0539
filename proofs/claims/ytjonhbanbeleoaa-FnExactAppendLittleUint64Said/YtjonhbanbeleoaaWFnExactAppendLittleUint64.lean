/-
  The walk of FnExactAppendLittleUint64. No statement is proved here.
-/
import Derived.Test.YtjonhbanbeleoaaCApLittle64
import Derived.Test.YtjonhbanbeleoaaCBigBytes
import Derived.Test.YtjonhbanbeleoaaCSame
import Derived.Test.YtjonhbanbeleoaaCTurned
namespace Go.Proofs.Ytjonhbanbeleoaa
open Go.RowKit
set_option linter.unusedVariables false

set_option maxHeartbeats 400000 in
theorem fnExactAppendLittleUint64_walk (w : World) (A0 : Option Addr) (n0 c0 : Nat) (l0 : List UInt8) (h0 : Byt w A0 n0 c0 l0) (s0 : c0 * 1 ≤ 140737488351232) (x1 : Nat) (h1 : x1 < 18446744073709551616) :
    Calls Try.prog 4 #[.slice A0 n0 c0, .int .u64 x1] w fun e w' => e = .returned (.bool true) ∧ Below w.heap.size w w' := by
  have hcap := h0.cap
  go_enter Try.func4, Try.ntmps4
  go_wp2_with fail
  refine (bigBytes_any x1 8 (by omega) (by omega) (by omega)).mono ?_
  rintro e w1 ⟨A1, c1, rfl, ho1, hb1⟩
  go_wp2_with fail
  refine (turned_any (Byt.of_own ho1) (by omega) (by omega)).mono ?_
  rintro e w1b ⟨A1b, c1b, rfl, ho1b, hb1b⟩
  replace ho1 : w1b.ownsRow w1.heap.size 5 1 (.slice A1b 8 c1b) 8 (Lib.byteCells (Lib.leBytes 8 x1)) := by rw [Lib.beBytes, List.reverse_reverse] at ho1b; exact ho1b
  replace hb1 := hb1.trans (hb1b.mono hb1.size)
  have b0 := h0.below hb1
  have b1 := Byt.of_own ho1
  go_wp2_with fail
  refine (ap_Little64 b0 x1 h1 (by omega)).mono ?_
  rintro e w2 ⟨A2, c2, rfl, ho2, hb2⟩
  have b0 := b0.below hb2
  have b1 := b1.below hb2
  have b2 := Byt.of_own ho2
  have hB := hb1.trans (hb2.mono hb1.size)
  clear ho1 ho2
  go_wp2_with (first
    | (at_builtin; have _t := ho3; refine wpList_append_byt w3 rfl _ _ _ rfl w2.heap.size 5 brow _ n0 l0 rfl ho3 _ 8 _ _ rfl (b1.below hb3) (by omega) hb3.size ?_; intro A4 c4 w4 ho4 hb4 hg4; clear ho3)
    | (at_builtin; refine wpList_clone_byt w2 rfl _ _ _ rfl 5 brow rfl A0 n0 c0 l0 rfl b0 (by omega) ?_; intro A3 c3 w3 ho3 hb3))
  have hb34 := hb3.trans hb4
  have b2 := b2.below hb34
  have b4 := Byt.of_own ho4
  have hB := hB.trans (hb34.mono hB.size)
  clear ho4 b0 b1 hb1 hb2 hb3 hb4 hb34 hg4
  refine (same_yes b2 b4 rfl).mono ?_
  rintro e w5 ⟨rfl, rfl⟩
  go_wp2_with fail
  go_ret
  exact ⟨rfl, hB⟩
end Go.Proofs.Ytjonhbanbeleoaa
