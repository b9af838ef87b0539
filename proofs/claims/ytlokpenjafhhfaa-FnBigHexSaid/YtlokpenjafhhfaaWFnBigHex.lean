/-
  The walk of FnBigHex. No statement is proved here.
-/
import Derived.Test.YtlokpenjafhhfaaCVal
import Derived.Test.YtlokpenjafhhfaaCApBig64
import Derived.BigQuiet
namespace Go.Proofs.Ytlokpenjafhhfaa
open Go.RowKit
set_option linter.unusedVariables false

set_option maxHeartbeats 1000000 in
set_option maxRecDepth 100000 in
theorem fnBigHex_walk (w : World) (x0 : Nat) (h0 : x0 < 18446744073709551616) :
    Calls Try.prog 3 #[.int .u64 x0] w fun e w' => e = .returned (.bool true) ∧ Below w.heap.size w w' := by
  go_enter Try.func3, Try.ntmps3
  go_wp2_with fail
  refine (ap_Big64_0 (Byt.nil_ _) x0 h0).mono ?_
  rintro e w1 ⟨A1, c1, rfl, ho1, hb1⟩
  go_wp2_with fail
  refine (enc_any (Byt.of_own ho1) (by omega) (by omega)).mono ?_
  rintro e w2 ⟨rfl, hb2⟩
  have hB := hb1.trans (hb2.mono hb1.size)
  have Q1 := Lib.hid (bigHex_at x0)
  have hsz : (Lib.Hx.encode (Lib.beBytes 8 x0)).toArray.size = 16 := by simp [Lib.Hx.encode_length, Lib.beBytes_length]
  have H0 := Lib.hid h0
  clear ho1 hb1 hb2 h0
  generalize (Lib.Hx.encode (Lib.beBytes 8 x0)) = s at *
  have hbs : (ByteArray.mk s.toArray).size = 16 := hsz
  go_wp2
  go_loopw [4] (fun i wr => ∃ j : Nat, j ≤ 16 ∧ i = .int .i64 j ∧ Below w.heap.size w wr) (fun i _ => 16 - (RowKit.intOf i).toNat)
  case atStart => exact ⟨0, by omega, rfl, hB⟩
  case round =>
    obtain ⟨j, hj, rfl, hbel⟩ := hrel
    by_cases hlt : j < 16
    · have d1 := Q1.out j hlt
      have hy : x0 / 16 ^ j < 18446744073709551616 := Nat.lt_of_le_of_lt (Nat.div_le_self _ _) H0.out
      have hj0 : (0 : Int) ≤ (j : Int) := by omega
      have hj2 : (j : Int) < 16 := by omega
      have hm1 : IntKind.i64.wrap (4 * (j : Int)) = 4 * (j : Int) := by rw [IntKind.wrap_i64]; omega
      have hm2 : (0 : Int) ≤ 4 * (j : Int) := by omega
      have hm3 : (4 * (j : Int)).toNat = 4 * j := by omega
      have hm4 : IntKind.i64.wrap (15 - (j : Int)) = 15 - (j : Int) := by rw [IntKind.wrap_i64]; omega
      have hpw : (x0 : Int) / 2 ^ (4 * j) = ((x0 / 16 ^ j : Nat) : Int) := by
        rw [show (2 : Int) ^ (4 * j) = ((16 ^ j : Nat) : Int) from by rw [Int.pow_mul]; simp]
        rfl
      have hidx := fun W => idx_str (P := Try.prog) W 9 Try.underlying9 s .i64 (15 - (j : Int)) (15 - j) _ (by omega) d1
      clear d1
      generalize x0 / 16 ^ j = y at *
      have hdg : y % 16 < 16 := Nat.mod_lt _ (by decide)
      have hv := fun W => val_digit W hdg
      generalize (Lib.Hx.digit (y % 16)).toNat = q at *
      have hne : (((y % 16 : Nat) : Int) != (y : Int) % 16) = false := by simp
      go_wp2_with fail
      go_quiet ((go_at_call 7; exact Calls.quiet_of_same (hv _)))
      clear hm1 hm2 hm3
      go_wp2
      go_roundw
      case rel => exact ⟨j + 1, by omega, by go_num, bel_drewN hbel _⟩
      case measure => simp [RowKit.intOf]; omega
    · obtain rfl : j = 16 := by omega
      go_wp2
      go_ret
      exact ⟨rfl, hbel⟩
end Go.Proofs.Ytlokpenjafhhfaa
