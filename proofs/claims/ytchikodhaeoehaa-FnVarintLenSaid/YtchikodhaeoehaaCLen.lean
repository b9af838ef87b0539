/-
  The contract of spec.Length: the number of bytes of a number. No statement is proved here.
-/
import Derived.Test.YtchikodhaeoehaaApp
import Derived.Test.YtchikodhaeoehaaMathV
namespace Go.Proofs.Ytchikodhaeoehaa
open Go.RowKit

set_option maxRecDepth 100000 in
theorem len_any {w : World} (x : Nat) (hx : x < 18446744073709551616) :
    Calls Try.prog 18 #[.int .u64 x] w fun e w' => e = .returned (.int .i64 (Lib.uvarint x).length) ∧ w = w' := by
  have h10 := Lib.uvarint_length64 hx
  have HX := Lib.hid hx
  clear hx
  go_enter Try.func18, Try.ntmps18
  go_wp2
  go_loop [0, 3] (fun X i => ∃ y m : Nat, y < 18446744073709551616 ∧ X = .int .u64 y ∧ i = .int .i64 m ∧ m + (Lib.uvarint y).length = (Lib.uvarint x).length + 1) (fun X _ => (intOf X).toNat)
  case atStart => exact ⟨x, 1, HX.out, rfl, rfl, by omega⟩
  case round =>
    obtain ⟨y, m, hy, rfl, rfl, hm⟩ := hrel
    have hp := Lib.uvarint_pos y
    have HM := Lib.hid hm
    have hm10 : m ≤ 10 := by omega
    clear hm
    by_cases h : y < 128
    · have HE := Lib.hid (Lib.uvarint_small h)
      go_wp2
      go_ret
      refine ⟨ret_int ?_, rfl⟩
      have := HM.out
      rw [HE.out] at this
      simp at this
      omega
    · have HE := Lib.hid (Lib.uvarint_big (show 128 ≤ y by omega))
      go_wp2
      go_round
      case rel =>
        refine ⟨y / 128, m + 1, by omega, by go_num, by go_num, ?_⟩
        have := HM.out
        rw [HE.out] at this
        simp at this
        omega
      case measure => simp [intOf]; omega
end Go.Proofs.Ytchikodhaeoehaa
