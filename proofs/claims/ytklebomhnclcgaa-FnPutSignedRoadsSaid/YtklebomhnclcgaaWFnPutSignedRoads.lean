/-
  The walk of FnPutSignedRoads. No statement is proved here.
-/
import Derived.Test.YtklebomhnclcgaaCPutV
import Derived.Test.YtklebomhnclcgaaCApV
import Derived.Test.YtklebomhnclcgaaCSame
namespace Go.Proofs.Ytklebomhnclcgaa
open Go.RowKit
set_option linter.unusedVariables false

set_option maxHeartbeats 1000000 in
set_option maxRecDepth 100000 in
theorem fnPutSignedRoads_walk (w : World) (A0 : Option Addr) (n0 c0 : Nat) (l0 : List UInt8) (h0 : Byt w A0 n0 c0 l0) (s0 : c0 * 1 ≤ 140737488351232) (x1 : Int) (p1 : -9223372036854775808 ≤ x1) (q1 : x1 ≤ 9223372036854775807) :
    Calls Try.prog 13 #[.slice A0 n0 c0, .int .i64 x1] w fun e w' => e = .returned (.bool true) ∧ Below w.heap.size w w' := by
  have hcap := h0.cap
  have h10 := Lib.uvarint_length64 (x := Lib.zigzag x1) (zigzag_lt p1 q1)
  have hpos := Lib.uvarint_pos (Lib.zigzag x1)
  by_cases hs : n0 < (Lib.uvarint (Lib.zigzag x1)).length
  · go_enter Try.func13, Try.ntmps13
    go_wp2_with fail
    refine (ap_V_e w x1 p1 q1).mono ?_
    rintro e w1 ⟨A1, c1, rfl, ho1, hb1⟩
    have b0 := h0.below hb1
    clear ho1
    go_wp2_with fail
    refine (putV_small b0 x1 p1 q1 (by omega) hs).mono ?_
    rintro e w2 ⟨A2, rfl, hb2⟩
    generalize (Lib.uvarint (Lib.zigzag x1)).length = k at *
    go_wp2
    go_ret
    exact ⟨rfl, hb1.trans (hb2.mono hb1.size)⟩
  · have hs' : (Lib.uvarint (Lib.zigzag x1)).length ≤ n0 := by omega
    go_enter Try.func13, Try.ntmps13
    go_wp2_with fail
    refine (ap_V_e w x1 p1 q1).mono ?_
    rintro e w1 ⟨A1, c1, rfl, ho1, hb1⟩
    have b0 := h0.below hb1
    have b1 := Byt.of_own ho1
    clear ho1 h0
    go_wp2_with fail
    refine (putV_room b0 x1 p1 q1 (by omega) hs').mono ?_
    rintro e w2 ⟨A2, c2, rfl, b2, hb2⟩
    have b1 := b1.below hb2
    have hcap2 := b2.cap
    have b2t := b2.take (k := (Lib.uvarint (Lib.zigzag x1)).length) hs'
    rw [List.take_left' rfl] at b2t
    have hB := hb1.trans (hb2.mono hb1.size)
    clear b2 b0 hb1 hb2
    generalize Lib.uvarint (Lib.zigzag x1) = z at *
    have hcut := fun W => run_cut_h (P := Try.prog) W 23 A2 n0 c2 Try.underlying23 (by kernel_rfl) .i64 (z.length : Nat) (by omega) (by omega)
    simp only [Int.toNat_natCast] at hcut
    go_wp2_with fail
    refine (same_yes b2t b1 rfl).mono ?_
    rintro e w3 ⟨rfl, rfl⟩
    clear b2t b1
    go_wp2
    go_ret
    exact ⟨rfl, hB⟩
end Go.Proofs.Ytklebomhnclcgaa
