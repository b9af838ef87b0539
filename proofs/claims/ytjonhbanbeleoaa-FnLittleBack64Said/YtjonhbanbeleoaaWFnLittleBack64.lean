/-
  The walk of FnLittleBack64. No statement is proved here.
-/
import Derived.Test.YtjonhbanbeleoaaCApLittle64
import Derived.Test.YtjonhbanbeleoaaCRdLittle64
import Derived.Test.YtjonhbanbeleoaaCSame
import Derived.Test.YtjonhbanbeleoaaMath
namespace Go.Proofs.Ytjonhbanbeleoaa
open Go.RowKit
set_option linter.unusedVariables false

set_option maxHeartbeats 400000 in
set_option maxRecDepth 100000 in
theorem fnLittleBack64_walk (w : World) (A0 : Option Addr) (n0 c0 : Nat) (l0 : List UInt8) (h0 : Byt w A0 n0 c0 l0) (s0 : c0 * 1 ≤ 140737488351232) (x1 : Nat) (g1 : x1 < 18446744073709551616) (A2 : Option Addr) (n2 c2 : Nat) (l2 : List UInt8) (h2 : Byt w A2 n2 c2 l2) (s2 : c2 * 1 ≤ 140737488351232) :
    Calls Try.prog 9 #[.slice A0 n0 c0, .int .u64 x1, .slice A2 n2 c2] w fun e w' => e = .returned (.bool true) ∧ Below w.heap.size w w' := by
  have hcap0 := h0.cap
  have hcap2 := h2.cap
  have HR := Lib.hid (show Lib.leNat ((Lib.leBytes 8 x1 ++ l2).take 8) = x1 by
    rw [List.take_left' (Lib.leBytes_length 8 x1), Lib.leNat_leBytes 8 x1 (by simpa using g1)])
  go_enter Try.func9, Try.ntmps9
  go_wp2_with fail
  refine (ap_Little64 h0 x1 g1 (by omega)).mono ?_
  rintro e w1 ⟨A1, c1, rfl, ho1, hb1⟩
  have b0 := h0.below hb1
  have b2 := h2.below hb1
  have b1 := Byt.of_own ho1
  have hl0 := h0.len
  have b1t : Byt w1 A1 n0 c1 l0 := by have := b1.take (k := n0) (by omega); rwa [List.take_left' hl0] at this
  have b1d : Byt w1 (cutAt A1 c1 n0) 8 (c1 - n0) (Lib.leBytes 8 x1) := by
    have := b1.drop (k := n0) (by omega)
    rwa [List.drop_left' hl0, Nat.add_sub_cancel_left] at this
  have hcap1 := b1.cap
  clear b1 ho1 hl0 h0 h2
  have hcuth := fun W => run_cut_h (P := Try.prog) W 22 A1 (n0 + 8) c1 Try.underlying22 (by kernel_rfl) .i64 (n0 : Nat) (by omega) (by omega)
  have hcutl := fun W => run_cut_l (P := Try.prog) W 22 A1 (n0 + 8) c1 Try.underlying22 (by kernel_rfl) .i64 (n0 : Nat) (by omega) (by omega)
  simp only [Int.toNat_natCast, Nat.add_sub_cancel_left] at hcuth hcutl
  go_wp2_with fail
  refine (same_yes b1t b0 rfl).mono ?_
  rintro e wS ⟨rfl, rfl⟩
  clear b1t b0
  go_wp2_with (first
    | (at_builtin; have _t := ho3; refine wpList_append_byt w3 rfl _ _ _ rfl w1.heap.size 5 brow _ 8 _ rfl ho3 _ _ _ _ rfl (b2.below hb3) (by omega) hb3.size ?_; intro A4 c4 w4 ho4 hb4 hg4; clear ho3)
    | (at_builtin; refine wpList_clone_byt w1 rfl _ _ _ rfl 5 brow rfl _ _ _ _ rfl b1d (by omega) ?_; intro A3 c3 w3 ho3 hb3))
  have hb34 := hb3.trans hb4
  have b4 := Byt.of_own ho4
  have hB := hb1.trans (hb34.mono hb1.size)
  clear ho4 b1d b2 hb1 hb3 hb4 hb34 hg4
  refine (rd_Little64 b4 (by omega)).mono ?_
  rintro e w5 ⟨rfl, hb5⟩
  rw [HR.out]
  clear HR b4
  go_wp2
  go_ret
  exact ⟨rfl, hB.trans (hb5.mono hB.size)⟩
end Go.Proofs.Ytjonhbanbeleoaa
