/-
  The walk of FnExactPutUvarintRest. No statement is proved here.
-/
import Derived.Test.YtklebomhnclcgaaCPutU
import Derived.Test.YtklebomhnclcgaaCSpecU
import Derived.Test.YtklebomhnclcgaaCSame
import Derived.Deep.QuietTactic
import Derived.BigQuiet
namespace Go.Proofs.Ytklebomhnclcgaa
open Go.RowKit
set_option linter.unusedVariables false

set_option maxHeartbeats 1000000 in
set_option maxRecDepth 100000 in
theorem fnExactPutUvarintRest_walk (w : World) (A0 : Option Addr) (n0 c0 : Nat) (l0 : List UInt8) (h0 : Byt w A0 n0 c0 l0) (s0 : c0 * 1 ≤ 140737488351232) (x1 : Nat) (h1 : x1 < 18446744073709551616) :
    Calls Try.prog 9 #[.slice A0 n0 c0, .int .u64 x1] w fun e w' => e = .returned (.bool true) ∧ Below w.heap.size w w' := by
  have hcap := h0.cap
  have h10 := Lib.uvarint_length64 (x := x1) h1
  by_cases hs : n0 < (Lib.uvarint x1).length
  · go_enter Try.func9, Try.ntmps9
    go_wp2_with fail
    refine (putU_small h0 x1 h1 (by omega) hs).mono ?_
    rintro e w1 ⟨A1, rfl, hb1⟩
    go_wp2_with fail
    refine (specU (x1) _ h1).mono ?_
    rintro e w2 ⟨A2, c2, rfl, ho2, hb2⟩
    clear ho2
    generalize (Lib.uvarint x1).length = k at *
    go_wp2
    go_ret
    exact ⟨rfl, hb1.trans (hb2.mono hb1.size)⟩
  · have hs' : (Lib.uvarint x1).length ≤ n0 := by omega
    have hl0 := h0.len
    go_enter Try.func9, Try.ntmps9
    go_wp2_with fail
    refine (putU_room h0 x1 h1 (by omega) hs').mono ?_
    rintro e w1 ⟨A1, c1, rfl, b1, hb1⟩
    have hcap1 := b1.cap
    have b0 := h0.below hb1
    clear h0
    go_wp2_with fail
    refine (specU (x1) _ h1).mono ?_
    rintro e w2 ⟨A2, c2, rfl, ho2, hb2⟩
    have b2 := Byt.of_own ho2
    have b1 := b1.below hb2
    have b0 := b0.below hb2
    have hB := hb1.trans (hb2.mono hb1.size)
    clear ho2 hb1 hb2
    have b1d := b1.drop (k := (Lib.uvarint x1).length) hs'
    rw [List.drop_left' rfl] at b1d
    have b0d := b0.drop (k := (Lib.uvarint x1).length) hs'
    clear b1 b0 b2
    generalize (Lib.uvarint x1).length = k at *
    have hcut1 := fun W => run_cut_l (P := Try.prog) W 23 A1 n0 c1 Try.underlying23 (by kernel_rfl) .i64 (k : Nat) (by omega) (by omega)
    have hcut0 := fun W => run_cut_l (P := Try.prog) W 23 A0 n0 c0 Try.underlying23 (by kernel_rfl) .i64 (k : Nat) (by omega) (by omega)
    simp only [Int.toNat_natCast] at hcut1 hcut0
    go_wp2_with fail
    go_quiet ((go_at_call 17; exact Calls.quiet_of_same (same_still (b1d.drewN _) (b0d.drewN _) rfl)))
    go_wp2
    go_ret
    exact ⟨rfl, bel_drewN hB _⟩
end Go.Proofs.Ytklebomhnclcgaa
