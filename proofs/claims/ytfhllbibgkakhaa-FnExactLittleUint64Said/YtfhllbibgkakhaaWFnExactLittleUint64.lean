/-
  The walk of FnExactLittleUint64. No statement is proved here.
-/
import Derived.Test.YtfhllbibgkakhaaCRdLittle64
import Derived.Test.YtfhllbibgkakhaaCBig
import Derived.Test.YtfhllbibgkakhaaCTurned
import Derived.Deep.RegionWith
namespace Go.Proofs.Ytfhllbibgkakhaa
open Go.RowKit

theorem fnExactLittleUint64_walk (w : World) (A0 : Option Addr) (n0 c0 : Nat) (l0 : List UInt8) (h0 : Byt w A0 n0 c0 l0) (s0 : c0 * 1 ≤ 140737488351232) :
    Calls Try.prog 8 #[.slice A0 n0 c0] w fun e w' => e = .returned (.bool true) ∧ Below w.heap.size w w' := by
  have hcap := h0.cap
  by_cases hk : n0 < 8
  · go_enter Try.func8, Try.ntmps8
    go_wp2
    go_ret
    exact ⟨rfl, Below.refl _ _⟩
  · have hcut := fun W => run_cut_h (P := Try.prog) W 22 A0 n0 c0 Try.underlying22 (by kernel_rfl) .i64 8 (by omega) (by omega)
    go_enter Try.func8, Try.ntmps8
    go_wp2_with fail
    go_region_with (first
      | (go_at_call 22; refine (rd_Little64 (l := l0) ?_ (by omega)).mono ?_; (first | exact h0.drew.below hb2 | exact h0.drew); rintro e w1 ⟨rfl, hb1⟩)
      | (go_at_call 19; refine (turned_any (l := l0.take 8) ?_ (by omega) (by omega)).mono ?_; (first | exact (h0.drew.below hb1).take (by omega) | exact (h0.drew).take (by omega)); rintro e w2 ⟨A2, c2, rfl, ho2, hb2⟩)
      | (go_at_call 16; refine (big_rev (l := l0.take 8) ?_ (by omega) (by omega)).mono ?_; (first | exact Byt.of_own ho2 | exact (Byt.of_own ho2).below hb1); rintro e w3 ⟨rfl, rfl⟩))
    all_goals
      go_wp2
      go_ret
      first
        | exact ⟨rfl, ((Below.refl _ w).drew.trans hb1).trans (hb2.mono hb1.size)⟩
        | exact ⟨rfl, ((Below.refl _ w).drew.trans hb2).trans (hb1.mono hb2.size)⟩
end Go.Proofs.Ytfhllbibgkakhaa
