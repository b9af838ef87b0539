/-
  The walk of FnEndsTurned64. No statement is proved here.
-/
import Derived.Test.YtjonhbanbeleoaaCApBig64
import Derived.Test.YtjonhbanbeleoaaCApLittle64
import Derived.Test.YtjonhbanbeleoaaCRdBig64
import Derived.Test.YtjonhbanbeleoaaCRdLittle64
import Derived.Test.YtjonhbanbeleoaaCTurned
import Derived.Test.YtjonhbanbeleoaaCSame
import Derived.Test.YtjonhbanbeleoaaMath
import Derived.Deep.RegionWith
import Derived.Deep.DrawnRows
import Derived.Deep.QuietTactic
import Derived.BigQuiet
namespace Go.Proofs.Ytjonhbanbeleoaa
open Go.RowKit
set_option linter.unusedVariables false

attribute [local go_sem ↓] Go.wp_at_zero Go.wp_at_succ
set_option maxHeartbeats 4000000 in
set_option maxRecDepth 100000 in
theorem fnEndsTurned64_walk (w : World) (A0 : Option Addr) (n0 c0 : Nat) (l0 : List UInt8) (h0 : Byt w A0 n0 c0 l0) (s0 : c0 * 1 ≤ 140737488351232) (x1 : Nat) (g1 : x1 < 18446744073709551616) :
    Calls Try.prog 14 #[.slice A0 n0 c0, .int .u64 x1] w fun e w' => e = .returned (.bool true) ∧ Below w.heap.size w w' := by
  have hcap0 := h0.cap
  have hl0 := h0.len
  have HT := Lib.hid (show (Lib.beBytes 8 x1).reverse = Lib.leBytes 8 x1 by rw [Lib.beBytes, List.reverse_reverse])
  have main : ∀ (w4 : World) (hB : Below w.heap.size w w4) (b0 : Byt w4 A0 n0 c0 l0), True := fun _ _ _ => trivial
  clear main
  go_enter Try.func14, Try.ntmps14
  go_wp2_with fail
  refine (ap_Big64_0 (Byt.nil_ _) x1 g1).mono ?_
  rintro e w1 ⟨A1, c1, rfl, ho1, hb1⟩
  have b0 := h0.below hb1
  have b1 := Byt.of_own ho1
  clear ho1
  go_wp2_with fail
  refine (ap_Little64_0 (Byt.nil_ _) x1 g1).mono ?_
  rintro e w2 ⟨A2, c2, rfl, ho2, hb2⟩
  have b0 := b0.below hb2
  have b1 := b1.below hb2
  have b2 := Byt.of_own ho2
  have hB := hb1.trans (hb2.mono hb1.size)
  clear ho2 hb1 hb2
  go_wp2_with fail
  refine (turned_any b1 (by omega) (by omega)).mono ?_
  rintro e w3 ⟨A3, c3, rfl, ho3, hb3⟩
  rw [HT.out] at ho3
  have b0 := b0.below hb3
  have b2 := b2.below hb3
  have b3 := Byt.of_own ho3
  have hB := hB.trans (hb3.mono hB.size)
  clear ho3 hb3 b1
  go_wp2_with fail
  refine (same_yes b3 b2 rfl).mono ?_
  rintro e w4 ⟨rfl, rfl⟩
  clear b2 b3 HT h0
  by_cases hk : n0 < 8
  · have hd : decide ((n0 : Int) < 8) = true := decide_eq_true (by omega)
    go_wp2_with fail
    go_quiet (fail)
    all_goals
      go_wp2
      go_ret
      exact ⟨rfl, bel_drewN hB _⟩
  · have hd : decide ((n0 : Int) < 8) = false := decide_eq_false (by omega)
    have htl : (l0.take 8).length = 8 := by rw [List.length_take, hl0]; omega
    obtain ⟨V, hV⟩ : ∃ V, Lib.beNat (l0.take 8) = V := ⟨_, rfl⟩
    have HV1 := Lib.hid (show Lib.beNat ((l0.take 8).take 8) = V by rw [List.take_take, Nat.min_self]; exact hV)
    have HV2 := Lib.hid (show Lib.leNat ((l0.take 8).reverse.take 8) = V by
      rw [List.take_of_length_le (by simp; omega), ← Lib.beNat_eq]; exact hV)
    have bt := b0.take (k := 8) (by omega)
    have hcut := fun W => run_cut_h (P := Try.prog) W 22 A0 n0 c0 Try.underlying22 (by kernel_rfl) .i64 8 (by omega) (by omega)
    clear htl hV hl0 b0
    go_wp2_with fail
    go_region_with (first
      | (go_at_call 22; refine (rd_Big64_v (l := l0.take 8) ?_ (by omega) HV1.out).mono ?_; (exact bt.drew); rintro e w5 ⟨rfl, hb5⟩)
      | (go_at_call 18; refine (turned_any (l := l0.take 8) ?_ (by omega) (by omega)).mono ?_; (exact bt.drew.below hb5); rintro e w6 ⟨A6, c6, rfl, ho6, hb6⟩)
      | (go_at_call 23; refine (rd_Little64_v (Byt.of_own ho6) (by omega) HV2.out).mono ?_; rintro e w7 ⟨rfl, hb7⟩))
    all_goals
      go_wp2
      go_ret
      exact ⟨rfl, ((hB.drew.trans (hb5.mono hB.size)).trans (hb6.mono (Nat.le_trans hB.size hb5.size))).trans (hb7.mono (Nat.le_trans (Nat.le_trans hB.size hb5.size) hb6.size))⟩
end Go.Proofs.Ytjonhbanbeleoaa
