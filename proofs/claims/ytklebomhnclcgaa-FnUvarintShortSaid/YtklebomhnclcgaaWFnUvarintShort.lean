/-
  The walk of FnUvarintShort. No statement is proved here.
-/
import Derived.Test.YtklebomhnclcgaaCApU
import Derived.Test.YtklebomhnclcgaaCRdU
import Derived.Test.YtklebomhnclcgaaMathD
namespace Go.Proofs.Ytklebomhnclcgaa
open Go.RowKit
set_option linter.unusedVariables false

theorem fnUvarintShort_walk_dec (x m : Nat) (hx : x < 18446744073709551616) (h : m < (Lib.uvarint x).length) : Lib.uvarintDec ((Lib.uvarint x).take m) = (0, 0) := by
  have h10 := Lib.uvarint_length64 hx
  have hl : ((Lib.uvarint x).take m).length = m := by rw [List.length_take]; omega
  obtain ⟨acc, e⟩ := uvarintFrom_more ((Lib.uvarint x).take m) 0 0 [] (by rw [hl]; omega) (fun b hb => by
    obtain ⟨j, hj, rfl⟩ := List.getElem_of_mem hb
    rw [hl] at hj
    rw [List.getElem_take]
    exact uvarint_more x j (by omega))
  rw [List.append_nil] at e
  unfold Lib.uvarintDec
  rw [e]
  simp [Lib.uvarintFrom]

set_option maxHeartbeats 400000 in
set_option maxRecDepth 100000 in
theorem fnUvarintShort_walk (w : World) (x0 : Nat) (h0 : x0 < 18446744073709551616) (x1 : Int) (p1 : -9223372036854775808 ≤ x1) (q1 : x1 ≤ 9223372036854775807) :
    Calls Try.prog 5 #[.int .u64 x0, .int .i64 x1] w fun e w' => e = .returned (.bool true) ∧ Below w.heap.size w w' := by
  have h10 := Lib.uvarint_length64 h0
  have hpos := Lib.uvarint_pos x0
  by_cases hneg : x1 < 0
  · go_enter Try.func5, Try.ntmps5
    go_wp2_with fail
    refine (ap_U_e w x0 h0).mono ?_
    rintro e w1 ⟨A1, c1, rfl, ho1, hb1⟩
    clear ho1 h0
    generalize (Lib.uvarint x0).length = k at *
    go_wp2
    go_ret
    exact ⟨ret_bool (by simp; try omega), hb1⟩
  · obtain ⟨m, rfl⟩ := Int.eq_ofNat_of_zero_le (show 0 ≤ x1 by omega)
    by_cases hge : (Lib.uvarint x0).length ≤ m
    · go_enter Try.func5, Try.ntmps5
      go_wp2_with fail
      refine (ap_U_e w x0 h0).mono ?_
      rintro e w1 ⟨A1, c1, rfl, ho1, hb1⟩
      clear ho1 h0
      generalize (Lib.uvarint x0).length = k at *
      go_wp2
      go_ret
      exact ⟨ret_bool (by simp; try omega), hb1⟩
    · have HD := Lib.hid (fnUvarintShort_walk_dec x0 m h0 (by omega))
      go_enter Try.func5, Try.ntmps5
      go_wp2_with fail
      refine (ap_U_e w x0 h0).mono ?_
      rintro e w1 ⟨A1, c1, rfl, ho1, hb1⟩
      have b1 := Byt.of_own ho1
      have hcap1 := b1.cap
      have bt := b1.take (k := m) (by omega)
      clear ho1 h0 b1
      generalize Lib.uvarint x0 = z at *
      have hcut := fun W => run_cut_h (P := Try.prog) W 23 A1 z.length c1 Try.underlying23 (by kernel_rfl) .i64 (m : Nat) (by omega) (by omega)
      simp only [Int.toNat_natCast] at hcut
      go_wp2_with fail
      refine (rd_U bt HD.out).mono ?_
      rintro e w2 ⟨rfl, rfl⟩
      clear bt HD
      go_wp2
      go_ret
      exact ⟨rfl, hb1⟩
end Go.Proofs.Ytklebomhnclcgaa
