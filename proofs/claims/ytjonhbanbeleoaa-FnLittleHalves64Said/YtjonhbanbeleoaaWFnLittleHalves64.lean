/-
  The walk of FnLittleHalves64. No statement is proved here.
-/
import Derived.Test.YtjonhbanbeleoaaCApLittle32
import Derived.Test.YtjonhbanbeleoaaCApLittle64
import Derived.Test.YtjonhbanbeleoaaCSame
import Derived.Test.YtjonhbanbeleoaaMath
namespace Go.Proofs.Ytjonhbanbeleoaa
open Go.RowKit
set_option linter.unusedVariables false

set_option maxHeartbeats 400000 in
set_option maxRecDepth 100000 in
theorem fnLittleHalves64_walk (w : World) (x0 : Nat) (h0 : x0 < 18446744073709551616) :
    Calls Try.prog 11 #[.int .u64 x0] w fun e w' => e = .returned (.bool true) ∧ Below w.heap.size w w' := by
  have HH := Lib.hid (show Lib.leBytes 4 (x0 % 4294967296) ++ Lib.leBytes 4 (x0 / 4294967296) = Lib.leBytes 8 x0 from le_halves 4 x0)
  go_enter Try.func11, Try.ntmps11
  go_wp2_with fail
  rw [show ((x0 : Int) % 4294967296) = ((x0 % 4294967296 : Nat) : Int) from by omega]
  refine (ap_Little32_0 (Byt.nil_ _) (x0 % 4294967296) (by omega)).mono ?_
  rintro e w1 ⟨A1, c1, rfl, ho1, hb1⟩
  have b1 := Byt.of_own ho1
  clear ho1
  go_wp2_with fail
  rw [show ((x0 : Int) / 4294967296) = ((x0 / 4294967296 : Nat) : Int) from by omega]
  refine (ap_Little32 b1 (x0 / 4294967296) (by omega) (by omega)).mono ?_
  rintro e w2 ⟨A2, c2, rfl, ho2, hb2⟩
  rw [HH.out] at ho2
  have b2 := Byt.of_own ho2
  have hB := hb1.trans (hb2.mono hb1.size)
  clear ho2 b1 HH
  go_wp2_with fail
  refine (ap_Little64_0 (Byt.nil_ _) x0 h0).mono ?_
  rintro e w3 ⟨A3, c3, rfl, ho3, hb3⟩
  have b2 := b2.below hb3
  have b3 := Byt.of_own ho3
  have hB := hB.trans (hb3.mono hB.size)
  clear ho3
  go_wp2_with fail
  refine (same_yes b2 b3 rfl).mono ?_
  rintro e w4 ⟨rfl, rfl⟩
  clear b2 b3
  go_wp2
  go_ret
  exact ⟨rfl, hB⟩
end Go.Proofs.Ytjonhbanbeleoaa
