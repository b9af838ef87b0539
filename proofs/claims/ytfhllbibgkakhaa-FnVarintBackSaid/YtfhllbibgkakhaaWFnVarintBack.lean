/-
  The walk of FnVarintBack. No statement is proved here.
-/
import Derived.Test.YtfhllbibgkakhaaCApV
import Derived.Test.YtfhllbibgkakhaaCRdV
import Derived.Test.YtfhllbibgkakhaaMathV
namespace Go.Proofs.Ytfhllbibgkakhaa
open Go.RowKit

set_option maxHeartbeats 400000 in
theorem fnVarintBack_walk (w : World) (x0 : Int) (p0 : -9223372036854775808 ≤ x0) (q0 : x0 ≤ 9223372036854775807) (A1 : Option Addr) (n1 c1 : Nat) (l1 : List UInt8) (h1 : Byt w A1 n1 c1 l1) (s1 : c1 * 1 ≤ 140737488351232) :
    Calls Try.prog 13 #[.int .i64 x0, .slice A1 n1 c1] w fun e w' => e = .returned (.bool true) ∧ Below w.heap.size w w' := by
  have hcap := h1.cap
  have h10 := Lib.uvarint_length64 (zigzag_lt p0 q0)
  have HD := Lib.hid (vdec_enc x0 p0 q0 l1)
  have hA : Below w.heap.size w (w.alloc (.cells #[] 5)) := (Below.refl _ _).alloc (Nat.le_refl _) _
  have b1 := h1.alloc (.cells #[] 5)
  go_enter Try.func13, Try.ntmps13
  go_wp2_with fail
  refine (ap_V_0 (Byt.empty_ _ _) x0 p0 q0).mono ?_
  rintro e w2 ⟨A2, c2, rfl, ho2, hb2⟩
  have b1 := b1.below hb2
  have b2 := Byt.of_own ho2
  have hB := hA.trans (hb2.mono hA.size)
  clear ho2 hA hb2
  generalize Lib.uvarint (Lib.zigzag x0) = z at *
  go_wp2_with (first
    | (at_builtin; have _t := ho3; refine wpList_append_byt w3 rfl _ _ _ rfl w2.heap.size 5 brow _ _ _ rfl ho3 _ _ _ _ rfl (b1.below hb3) (by omega) hb3.size ?_; intro A4 c4 w4 ho4 hb4 hg4; clear ho3)
    | (at_builtin; refine wpList_clone_byt w2 rfl _ _ _ rfl 5 brow rfl _ _ _ _ rfl b2 (by omega) ?_; intro A3 c3 w3 ho3 hb3))
  have hb34 := hb3.trans hb4
  have b4 := Byt.of_own ho4
  have hB := hB.trans (hb34.mono hB.size)
  clear ho4 b1 b2 hb3 hb4 hb34 hg4
  refine (rd_V b4 HD.out).mono ?_
  rintro e w5 ⟨rfl, rfl⟩
  clear HD
  go_wp2
  go_ret
  exact ⟨rfl, hB⟩
end Go.Proofs.Ytfhllbibgkakhaa
