/-
  The walk of FnLittleXor64. No statement is proved here.
-/
import Derived.Test.YtfignfkmfhbkcaaCApLittle64
import Derived.Test.YtfignfkmfhbkcaaMath
import Derived.Laws.BitsAllLaws
import Derived.Deep.QuietTactic
import Derived.BigQuiet
namespace Go.Proofs.Ytfignfkmfhbkcaa
open Go.RowKit
set_option linter.unusedVariables false

theorem fnLittleXor64_walk_byte (x0 x1 j : Nat) (hj : j < 8) :
    bits .xor .u8 (((Lib.leBytes 8 x0)[j]'(by simp [Lib.leBytes_length]; omega)).toNat : Int) (((Lib.leBytes 8 x1)[j]'(by simp [Lib.leBytes_length]; omega)).toNat : Int) = (((Lib.leBytes 8 (x0 ^^^ x1))[j]'(by simp [Lib.leBytes_length]; omega)).toNat : Int) := by
  rw [u8_xor_nat _ _ (UInt8.toNat_lt _) (UInt8.toNat_lt _), leBytes_getElem, leBytes_getElem, leBytes_getElem, byte_xor]

set_option maxHeartbeats 1000000 in
theorem fnLittleXor64_walk (w : World) (x0 : Nat) (h0 : x0 < 18446744073709551616) (x1 : Nat) (h1 : x1 < 18446744073709551616) :
    Calls Try.prog 5 #[.int .u64 x0, .int .u64 x1] w fun e w' => e = .returned (.bool true) ∧ Below w.heap.size w w' := by
  have hx : bits .xor .u64 (x0 : Int) (x1 : Int) = ((x0 ^^^ x1 : Nat) : Int) := u64_xor_nat x0 x1 h0 h1
  have hxl : x0 ^^^ x1 < 18446744073709551616 := Nat.xor_lt_two_pow (n := 64) h0 h1
  go_enter Try.func5, Try.ntmps5
  go_wp2_with fail
  refine (ap_Little64_0 (Byt.nil_ _) x0 h0).mono ?_
  rintro e w1 ⟨A1, c1, rfl, ho1, hb1⟩
  go_wp2_with fail
  refine (ap_Little64_0 (Byt.nil_ _) x1 h1).mono ?_
  rintro e w2 ⟨A2, c2, rfl, ho2, hb2⟩
  go_wp2_with fail
  refine (ap_Little64_0 (Byt.nil_ _) (x0 ^^^ x1) hxl).mono ?_
  rintro e w3 ⟨A3, c3, rfl, ho3, hb3⟩
  have hB : Below w.heap.size w w3 := (hb1.trans (hb2.mono hb1.size)).trans (hb3.mono (Nat.le_trans hb1.size hb2.size))
  obtain ⟨g1, o1, rfl, _, q1⟩ := (((Byt.of_own ho1).below hb2).below hb3).cells (by omega)
  obtain ⟨g2, o2, rfl, _, q2⟩ := ((Byt.of_own ho2).below hb3).cells (by omega)
  obtain ⟨g3, o3, rfl, _, q3⟩ := (Byt.of_own ho3).cells (by omega)
  have Q1 := Lib.hid q1
  have Q2 := Lib.hid q2
  have Q3 := Lib.hid q3
  have HX := Lib.hid hx
  clear q1 q2 q3 hx ho1 ho2 ho3 hb1 hb2 hb3
  go_wp2
  go_loopw [8] (fun i wr => ∃ j : Nat, j ≤ 8 ∧ i = .int .i64 j ∧ ∃ nq, wr = w3.drewN nq) (fun i _ => 8 - (intOf i).toNat)
  case atStart => exact ⟨0, by omega, rfl, 0, rfl⟩
  case round =>
    obtain ⟨j, hj, rfl, nq, rfl⟩ := hrel
    by_cases hlt : j < 8
    · have d1 := Q1.out j (by simp [Lib.leBytes_length]; omega)
      have d2 := Q2.out j (by simp [Lib.leBytes_length]; omega)
      have d3 := Q3.out j (by simp [Lib.leBytes_length]; omega)
      have hxb := fnLittleXor64_walk_byte x0 x1 j hlt
      generalize ((Lib.leBytes 8 x0)[j]'(by simp [Lib.leBytes_length]; omega)).toNat = p1 at *
      generalize ((Lib.leBytes 8 x1)[j]'(by simp [Lib.leBytes_length]; omega)).toNat = p2 at *
      generalize ((Lib.leBytes 8 (x0 ^^^ x1))[j]'(by simp [Lib.leBytes_length]; omega)).toNat = p3 at *
      have hj0 : (0 : Int) ≤ (j : Int) := by omega
      have hj2 : (j : Int) < 8 := by omega
      go_wp2_with fail
      go_quiet (fail)
      go_wp2
      go_roundw
      case rel => exact ⟨j + 1, by omega, by go_num, _, rfl⟩
      case measure => simp [intOf]; omega
    · obtain rfl : j = 8 := by omega
      go_wp2
      go_ret
      exact ⟨rfl, bel_drewN hB _⟩
end Go.Proofs.Ytfignfkmfhbkcaa
