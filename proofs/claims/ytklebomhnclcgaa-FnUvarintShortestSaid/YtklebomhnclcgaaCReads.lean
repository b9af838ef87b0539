/-
  The contract of laws.reads: the number 0 is read from its byte. No statement is proved here.
-/
import Derived.Test.YtklebomhnclcgaaCRdU
namespace Go.Proofs.Ytklebomhnclcgaa
open Go.RowKit

theorem reads_any (w : World) : Calls Try.prog 16 #[] w fun e w' => e = .returned (.bool true) ∧ Below w.heap.size w w' := by
  have b : Byt (w.alloc (.cells #[.int .u8 0] 5)) (some ⟨w.heap.size, 0, none⟩) 1 1 [0] := Byt.one w 5 0 (by omega)
  have hd : Lib.uvarintDec [0] = (0, 1) := by decide
  have HD := Lib.hid hd
  clear hd
  go_enter Try.func16, Try.ntmps16
  go_wp2_with fail
  refine (rd_U b HD.out).mono ?_
  rintro e w1 ⟨rfl, rfl⟩
  clear b HD
  go_wp2
  go_ret
  exact ⟨rfl, (Below.refl _ _).alloc (Nat.le_refl _) _⟩
end Go.Proofs.Ytklebomhnclcgaa
