/-
  The walk of FnLittleBytes. No statement is proved here.
-/
import Derived.Test.YtjonhbanbeleoaaCApLittle64
import Derived.Test.YtjonhbanbeleoaaMath
import Derived.Deep.QuietTactic
import Derived.BigQuiet
namespace Go.Proofs.Ytjonhbanbeleoaa
open Go.RowKit
set_option linter.unusedVariables false

set_option maxHeartbeats 1000000 in
set_option maxRecDepth 100000 in
theorem fnLittleBytes_walk (w : World) (x0 : Nat) (h0 : x0 < 18446744073709551616) :
    Calls Try.prog 5 #[.int .u64 x0] w fun e w' => e = .returned (.bool true) ∧ Below w.heap.size w w' := by
  go_enter Try.func5, Try.ntmps5
  go_wp2_with fail
  refine (ap_Little64_0 (Byt.nil_ _) x0 h0).mono ?_
  rintro e w1 ⟨A1, c1, rfl, ho1, hb1⟩
  obtain ⟨g1, o1, rfl, _, q1⟩ := (Byt.of_own ho1).cells (by omega)
  have Q1 := Lib.hid q1
  have H0 := Lib.hid h0
  clear q1 ho1 h0
  go_wp2
  go_loopw [4] (fun i wr => ∃ j : Nat, j ≤ 8 ∧ i = .int .i64 j ∧ ∃ nq, wr = w1.drewN nq) (fun i _ => 8 - (intOf i).toNat)
  case atStart => exact ⟨0, by omega, rfl, 0, rfl⟩
  case round =>
    obtain ⟨j, hj, rfl, nq, rfl⟩ := hrel
    by_cases hlt : j < 8
    · have d1 := Q1.out j (by simp [Lib.leBytes_length]; omega)
      rw [leBytes_getElem] at d1
      have hne : ((x0 : Int) / 256 ^ j % 256 != (x0 : Int) / 2 ^ (8 * j) % 256) = false := by
        rw [show (256 : Int) ^ j = 2 ^ (8 * j) from by rw [Int.pow_mul]; rfl]
        simp
      have hj0 : (0 : Int) ≤ (j : Int) := by omega
      have hj2 : (j : Int) < 8 := by omega
      have hm1 : IntKind.i64.wrap (8 * (j : Int)) = 8 * (j : Int) := by rw [IntKind.wrap_i64]; omega
      have hm2 : (0 : Int) ≤ 8 * (j : Int) := by omega
      have hm3 : (8 * (j : Int)).toNat = 8 * j := by omega
      go_wp2_with fail
      go_quiet (fail)
      clear hm1 hm2 hm3
      go_wp2
      go_roundw
      case rel => exact ⟨j + 1, by omega, by go_num, _, rfl⟩
      case measure => simp [intOf]; omega
    · obtain rfl : j = 8 := by omega
      go_wp2
      go_ret
      exact ⟨rfl, bel_drewN hb1 _⟩
end Go.Proofs.Ytjonhbanbeleoaa
