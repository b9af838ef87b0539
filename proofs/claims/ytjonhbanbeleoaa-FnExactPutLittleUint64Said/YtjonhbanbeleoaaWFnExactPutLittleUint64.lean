/-
  The walk of FnExactPutLittleUint64. No statement is proved here.
-/
import Derived.Test.YtjonhbanbeleoaaCPutLittle64
import Derived.Test.YtjonhbanbeleoaaCBigBytes
import Derived.Test.YtjonhbanbeleoaaCSame
import Derived.Deep.RegionLaw
import Derived.Test.YtjonhbanbeleoaaCTurned
namespace Go.Proofs.Ytjonhbanbeleoaa
open Go.RowKit
set_option linter.unusedVariables false

set_option maxHeartbeats 1000000 in
set_option maxRecDepth 100000 in
theorem fnExactPutLittleUint64_walk (w : World) (A0 : Option Addr) (n0 c0 : Nat) (l0 : List UInt8) (h0 : Byt w A0 n0 c0 l0) (s0 : c0 * 1 ≤ 140737488351232) (x1 : Nat) (h1 : x1 < 18446744073709551616) :
    Calls Try.prog 7 #[.slice A0 n0 c0, .int .u64 x1] w fun e w' => e = .returned (.bool true) ∧ Below w.heap.size w w' := by
  have hcap := h0.cap
  by_cases hk : n0 < 8
  · go_enter Try.func7, Try.ntmps7
    go_wp2
    go_ret
    exact ⟨rfl, Below.refl _ _⟩
  · have hcut := fun W => run_cut_l (P := Try.prog) W 22 A0 n0 c0 Try.underlying22 (by kernel_rfl) .i64 8 (by omega) (by omega)
    simp only [show (8 : Int).toNat = 8 from rfl] at hcut
    go_enter Try.func7, Try.ntmps7
    go_wp2_with fail
    refine (bigBytes_any x1 8 (by omega) (by omega) (by omega)).mono ?_
    rintro e w1 ⟨A1, c1, rfl, ho1, hb1⟩
    go_wp2_with fail
    refine (turned_any (Byt.of_own ho1) (by omega) (by omega)).mono ?_
    rintro e w1b ⟨A1b, c1b, rfl, ho1b, hb1b⟩
    replace ho1 : w1b.ownsRow w1.heap.size 5 1 (.slice A1b 8 c1b) 8 (Lib.byteCells (Lib.leBytes 8 x1)) := by rw [Lib.beBytes, List.reverse_reverse] at ho1b; exact ho1b
    replace ho1 := own_base ho1 hb1.size
    replace hb1 := hb1.trans (hb1b.mono hb1.size)
    have b0 := (h0.below hb1).drew
    have hsz := hb1.size
    go_wp2_with fail
    go_region_law (first
      | (have _t := own12; refine step_append_byt _ (by rfl) _ _ _ (by rfl) w.heap.size 5 brow _ 8 _ (by rfl) own12 _ _ _ _ (by rfl) b0d (by omega) hsz2 ?_; intro A3 c3 w3 ho3 hb3 hg3)
      | (go_simp; go_at_call 21; refine (put_Little64 (l := l0) ?_ x1 h1 (by omega) (by omega)).mono ?_; (exact b0); rintro e w2 ⟨A2, c2, rfl, ho2, hb2⟩; have own12 := own_below (own_drew ho1) hb2; have b0d := (b0.below hb2).drop (k := 8) (by omega); have hsz2 := Nat.le_trans hb1.size hb2.size)
      | (go_simp; go_at_call 16; refine (same_yes ((Byt.of_own ho2).grown hg3 (own_ne (own_drew ho1) ho2 (Nat.le_refl _))) (Byt.of_own ho3) rfl).mono ?_; rintro e w4 ⟨rfl, rfl⟩))
    all_goals
      go_wp2_with fail
      go_ret
      exact ⟨rfl, (hb1.drew.trans (hb2.mono hb1.size)).trans hb3⟩
end Go.Proofs.Ytjonhbanbeleoaa
