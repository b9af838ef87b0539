/-
  The walk of FnVarintMost. No statement is proved here.
-/
import Derived.Test.YtchikodhaeoehaaCApU
import Derived.Test.YtchikodhaeoehaaCApV
import Derived.Test.YtchikodhaeoehaaMathV
namespace Go.Proofs.Ytchikodhaeoehaa
open Go.RowKit
set_option linter.unusedVariables false

theorem fnVarintMost_walk_u (x : Nat) (hx : x < 18446744073709551616) : 0 < (Lib.uvarint x).length ∧ (Lib.uvarint x).length ≤ 10 ∧ (x < 4294967296 → (Lib.uvarint x).length ≤ 5) ∧ (x < 65536 → (Lib.uvarint x).length ≤ 3) :=
  ⟨Lib.uvarint_pos x, Lib.uvarint_length64 hx, fun h => (uvarint_len_le 4 x).2 (by simp; omega), fun h => (uvarint_len_le 2 x).2 (by simp; omega)⟩
theorem fnVarintMost_walk_v (x : Int) (h0 : -9223372036854775808 ≤ x) (h1 : x ≤ 9223372036854775807) : 0 < (Lib.uvarint (Lib.zigzag x)).length ∧ (Lib.uvarint (Lib.zigzag x)).length ≤ 10 ∧
    (-2147483648 ≤ x → x < 2147483648 → (Lib.uvarint (Lib.zigzag x)).length ≤ 5) ∧ (-32768 ≤ x → x < 32768 → (Lib.uvarint (Lib.zigzag x)).length ≤ 3) :=
  ⟨Lib.uvarint_pos _, Lib.uvarint_length64 (zigzag_lt h0 h1), fun h h' => (fnVarintMost_walk_u _ (zigzag_lt h0 h1)).2.2.1 (by unfold Lib.zigzag; split <;> omega), fun h h' => (fnVarintMost_walk_u _ (zigzag_lt h0 h1)).2.2.2 (by unfold Lib.zigzag; split <;> omega)⟩

set_option maxHeartbeats 4000000 in
set_option maxRecDepth 100000 in
theorem fnVarintMost_walk (w : World) (x0 : Nat) (h0 : x0 < 18446744073709551616) (x1 : Int) (p1 : -9223372036854775808 ≤ x1) (q1 : x1 ≤ 9223372036854775807) :
    Calls Try.prog 13 #[.int .u64 x0, .int .i64 x1] w fun e w' => e = .returned (.bool true) ∧ Below w.heap.size w w' := by
  obtain ⟨u1, u2, u3, u4⟩ := fnVarintMost_walk_u x0 h0
  obtain ⟨v1, v2, v3, v4⟩ := fnVarintMost_walk_v x1 p1 q1
  have hu : (decide ((4294967296 : Int) ≤ (x0 : Int)) = true ∧ decide ((65536 : Int) ≤ (x0 : Int)) = true) ∨ (decide ((4294967296 : Int) ≤ (x0 : Int)) = false ∧ decide ((65536 : Int) ≤ (x0 : Int)) = true ∧ (Lib.uvarint x0).length ≤ 5) ∨
      (decide ((4294967296 : Int) ≤ (x0 : Int)) = false ∧ decide ((65536 : Int) ≤ (x0 : Int)) = false ∧ (Lib.uvarint x0).length ≤ 3) := by
    rcases Nat.lt_or_ge x0 65536 with h | h
    · exact .inr (.inr ⟨decide_eq_false (by omega), decide_eq_false (by omega), u4 h⟩)
    · rcases Nat.lt_or_ge x0 4294967296 with h' | h'
      · exact .inr (.inl ⟨decide_eq_false (by omega), decide_eq_true (by omega), u3 h'⟩)
      · exact .inl ⟨decide_eq_true (by omega), decide_eq_true (by omega)⟩
  have hv : (decide (x1 < -2147483648) = true ∧ decide (x1 < -32768) = true) ∨
      (decide (x1 < -2147483648) = false ∧ decide ((2147483648 : Int) ≤ x1) = true ∧ decide (x1 < -32768) = false ∧ decide ((32768 : Int) ≤ x1) = true) ∨
      (decide (x1 < -2147483648) = false ∧ decide ((2147483648 : Int) ≤ x1) = false ∧ decide (x1 < -32768) = true ∧ (Lib.uvarint (Lib.zigzag x1)).length ≤ 5) ∨
      (decide (x1 < -2147483648) = false ∧ decide ((2147483648 : Int) ≤ x1) = false ∧ decide (x1 < -32768) = false ∧ decide ((32768 : Int) ≤ x1) = true ∧ (Lib.uvarint (Lib.zigzag x1)).length ≤ 5) ∨
      (decide (x1 < -2147483648) = false ∧ decide ((2147483648 : Int) ≤ x1) = false ∧ decide (x1 < -32768) = false ∧ decide ((32768 : Int) ≤ x1) = false ∧ (Lib.uvarint (Lib.zigzag x1)).length ≤ 3) := by
    by_cases a : x1 < -2147483648
    · exact .inl ⟨decide_eq_true a, decide_eq_true (by omega)⟩
    by_cases b : 2147483648 ≤ x1
    · exact .inr (.inl ⟨decide_eq_false a, decide_eq_true b, decide_eq_false (by omega), decide_eq_true (by omega)⟩)
    by_cases c : x1 < -32768
    · exact .inr (.inr (.inl ⟨decide_eq_false a, decide_eq_false b, decide_eq_true c, v3 (by omega) (by omega)⟩))
    by_cases d : 32768 ≤ x1
    · exact .inr (.inr (.inr (.inl ⟨decide_eq_false a, decide_eq_false b, decide_eq_false c, decide_eq_true d, v3 (by omega) (by omega)⟩)))
    exact .inr (.inr (.inr (.inr ⟨decide_eq_false a, decide_eq_false b, decide_eq_false c, decide_eq_false d, v4 (by omega) (by omega)⟩)))
  clear u3 u4 v3 v4
  have HU := Lib.hid hu
  have HV := Lib.hid hv
  clear hu hv
  go_enter Try.func13, Try.ntmps13
  go_wp2_with fail
  refine (ap_U_e w x0 h0).mono ?_
  rintro e w1 ⟨A1, c1, rfl, ho1, hb1⟩
  clear ho1
  go_wp2_with fail
  refine (ap_V_e w1 x1 p1 q1).mono ?_
  rintro e w2 ⟨A2, c2, rfl, ho2, hb2⟩
  clear ho2
  have hB := hb1.trans (hb2.mono hb1.size)
  generalize (Lib.uvarint x0).length = n at *
  generalize (Lib.uvarint (Lib.zigzag x1)).length = k at *
  have hu := HU.out
  have hv := HV.out
  clear h0 p1 q1 HU HV hb1 hb2
  rcases hu with ⟨hu, hu2⟩ | ⟨hu, hu2, hu3⟩ | ⟨hu, hu2, hu3⟩ <;> rcases hv with ⟨hv, hv2⟩ | ⟨hv, hv2, hv3, hv4⟩ | ⟨hv, hv2, hv3, hv4⟩ | ⟨hv, hv2, hv3, hv4, hv5⟩ | ⟨hv, hv2, hv3, hv4, hv5⟩
  all_goals
    go_wp2
    go_ret
    first | exact ⟨rfl, hB⟩ | exact ⟨ret_bool (by simp; omega), hB⟩
end Go.Proofs.Ytchikodhaeoehaa
